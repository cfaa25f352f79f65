import PyProof.Rows.All
import Wide.All
import OpenK.AllK
import Wide.FinOn
import PySem.Challenge.RW_dn0034_05
set_option Elab.async false
set_option linter.unusedVariables false

section
open PySem PySem.StrLaws PySem.Builtin.Str
namespace Mine

/-- replace, sign by sign: `k` signs are still to be skipped -/
def rpl (y z : List Nat) : Nat → List Nat → List Nat
  | _, [] => []
  | 0, a :: t => if y.isPrefixOf (a :: t) then z ++ rpl y z (y.length - 1) t else a :: rpl y z 0 t
  | k + 1, _ :: t => rpl y z k t

theorem rpl_drop (y z : List Nat) : ∀ (k : Nat) (l : List Nat), rpl y z k l = rpl y z 0 (l.drop k)
  | 0, l => by simp
  | k + 1, [] => by simp [rpl]
  | k + 1, a :: t => by simp only [rpl, List.drop_succ_cons]; exact rpl_drop y z k t

theorem rpl_hit {y z l : List Nat} (hy : 1 ≤ y.length) (h : (l.take y.length) = y) : rpl y z 0 l = z ++ rpl y z 0 (l.drop y.length) := by
  cases l with
  | nil => simp at h; subst h; simp at hy
  | cons a t =>
    have hp : y.isPrefixOf (a :: t) = true := by
      rw [List.isPrefixOf_iff_prefix]
      exact ⟨(a :: t).drop y.length, by rw (occs := .pos [1]) [← h]; exact List.take_append_drop _ _⟩
    rw [rpl, if_pos hp, rpl_drop]
    congr 2
    cases hl : y.length with
    | zero => omega
    | succ n => simp

theorem rpl_miss {y z : List Nat} : ∀ (n : Nat) (l : List Nat), (∀ k, k < n → ¬ ((l.drop k).take y.length = y)) → rpl y z 0 l = l.take n ++ rpl y z 0 (l.drop n)
  | 0, l, _ => by simp
  | n + 1, [], _ => by simp [rpl]
  | n + 1, a :: t, h => by
    have hp : ¬ (y.isPrefixOf (a :: t) = true) := by
      rw [List.isPrefixOf_iff_prefix]
      rintro ⟨r, e⟩
      exact h 0 (by omega) (by rw [List.drop_zero, ← e, List.take_left])
    rw [rpl, if_neg hp, rpl_miss n t (fun k hk => by have := h (k + 1) (by omega); simpa using this)]
    simp

theorem rpl_nil (y z : List Nat) : rpl y z 0 [] = [] := rfl

theorem at_iff (x y : Str) (i : Nat) : At x y x.length i ↔ i + y.length ≤ x.length ∧ (x.cps.toList.drop i).take y.length = y.cps.toList := by
  unfold At
  rw [subAt_eq, beq_iff_eq]

theorem tl (x : Str) : x.cps.toList.length = x.length := by simp [Str.length]

theorem not_at {x y : Str} {i : Nat} (hy : 1 ≤ y.length) (h : ¬ At x y x.length i) : ¬ ((x.cps.toList.drop i).take y.cps.toList.length = y.cps.toList) := by
  intro e
  rw [tl] at e
  refine h ((at_iff x y i).mpr ⟨?_, e⟩)
  have := congrArg List.length e
  rw [List.length_take, List.length_drop, tl, tl] at this
  omega

theorem toList_join_cons (z p : Str) (r : List Str) (hr : r ≠ []) : (Str.join z (p :: r)).cps.toList = p.cps.toList ++ z.cps.toList ++ (Str.join z r).cps.toList := by
  cases r with
  | nil => exact absurd rfl hr
  | cons q r => simp only [Str.join, Str.cps_append, Array.toList_append]

theorem partsFrom_nonempty (x : Str) (w a : Nat) (cuts : List Nat) : StrLaws.partsFrom x w a cuts ≠ [] := by
  cases cuts <;> simp [StrLaws.partsFrom]

theorem join_chain (x y z : Str) (hy : 1 ≤ y.length) : ∀ (cuts : List Nat) (a f : Nat), ChainG x y x.length a cuts f → (∀ k, f ≤ k → ¬ At x y x.length k) →
    (Str.join z (StrLaws.partsFrom x y.length a cuts)).cps.toList = rpl y.cps.toList z.cps.toList 0 (x.cps.toList.drop a)
  | [], a, f, h, hf => by
    have e : f = a := h
    subst e
    show (strSub x f x.length).cps.toList = _
    rw [strSub_toList, rpl_miss (x.length - f) _ (fun k _ => by rw [List.drop_drop]; exact not_at hy (hf _ (by omega)))]
    rw [List.drop_drop, List.drop_eq_nil_of_le (as := x.cps.toList) (i := f + (x.length - f)) (by rw [tl]; have := h; omega), rpl_nil, List.append_nil]
  | c :: r, a, f, h, hf => by
    obtain ⟨hac, hA, hno, hr⟩ := h
    have ih := join_chain x y z hy r (c + y.length) f hr hf
    rw [StrLaws.partsFrom, toList_join_cons _ _ _ (partsFrom_nonempty _ _ _ _), ih, strSub_toList]
    rw [rpl_miss (c - a) (x.cps.toList.drop a) (fun k hk => by rw [List.drop_drop]; exact not_at hy (hno _ (by omega) (by omega)))]
    rw [List.drop_drop, show a + (c - a) = c by omega]
    have h2 := ((at_iff x y c).mp hA).2
    rw [← tl y] at h2
    rw [rpl_hit (y := y.cps.toList) (by rw [tl]; exact hy) h2, List.drop_drop, tl, List.append_assoc]

/-- str.replace, sign by sign -/
theorem replace_rpl (x y z : Str) (hy : 1 ≤ y.length) : (Txt.replace x y z).cps.toList = rpl y.cps.toList z.cps.toList 0 x.cps.toList := by
  obtain ⟨f, hc, hf⟩ := occ_tight x y hy
  have key := join_chain x y z hy _ 0 f hc hf
  rw [List.drop_zero] at key
  unfold Txt.replace
  have hy0 : (y.length == 0) = false := by rw [beq_eq_false_iff_ne]; omega
  rw [hy0, Bool.false_and, Bool.or_false]
  split
  · rename_i he
    rw [List.isEmpty_iff.mp he] at key
    rw [← key]
    show _ = (strSub x 0 x.length).cps.toList
    rw [sub_whole]
  · rw [glued_eq_join, partsBetween_eq, key]
end Mine
end

section
open PySem
namespace Mine

theorem runs_toks {M : Model} {Γ : Ctx} {p : Pos} {t : Sem Fin} {fs : List Frame} {s : Shared} {e : End} {s' : Shared} (h : Runs M Γ p t fs s e s') : s.toks ≤ s'.toks := by
  induction h with
  | done => exact Nat.le_refl _
  | raise => exact Nat.le_refl _
  | yield => exact Nat.le_refl _
  | fresh _ ih => exact Nat.le_trans (Nat.le_succ _) ih
  | call _ _ ih1 ih2 => exact Nat.le_trans ih1 ih2
  | resumeFresh _ _ _ _ ih1 ih2 => exact Nat.le_trans ih1 ih2
  | resumeSuspended _ _ _ _ ih1 ih2 => exact Nat.le_trans ih1 ih2
  | segRet _ _ ih1 ih2 => exact Nat.le_trans ih1 ih2
  | segGen _ _ ih1 ih2 => exact Nat.le_trans ih1 ih2
  | segSuspGen _ _ _ _ ih1 ih2 => exact Nat.le_trans ih1 ih2
  | _ => assumption

theorem wakes_toks {M : Model} {Γ : Ctx} {p : Pos} {g : Nat} {r : Resume} {s : Shared} {res : GenResult} {s' : Shared} (h : Wakes M Γ p g r s res s') : s.toks ≤ s'.toks := by
  unfold Wakes at h
  split at h
  · exact h.elim
  · split at h
    · obtain ⟨e, s1, hr, _, _, rfl⟩ := h; have := runs_toks hr; exact this
    · obtain ⟨_, rfl⟩ := h; exact Nat.le_refl _
    · obtain ⟨_, rfl⟩ := h; exact Nat.le_refl _
  · obtain ⟨e, s1, hr, _, _, rfl⟩ := h; have := runs_toks hr; exact this
  · obtain ⟨_, rfl⟩ := h; exact Nat.le_refl _
  · obtain ⟨_, rfl⟩ := h; exact Nat.le_refl _

/-- what runs never lowers the tokens -/
theorem wp_toks {α : Type} {M : Model} {Γ : Ctx} {n : Nat} {E : Value → Pos → Shared → Prop} {Q : α → Pos → Shared → Prop} : ∀ (t : Sem α) (p : Pos) (s : Shared), n ≤ s.toks →
    Sem.wp M Γ t (fun a p s' => n ≤ s'.toks → Q a p s') (fun e p s' => n ≤ s'.toks → E e p s') p s → Sem.wp M Γ t Q E p s := by
  intro t
  induction t with
  | pure a => intro p s hn h; rw [Sem.wp] at h ⊢; exact h hn
  | raise e => intro p s hn h; rw [Sem.wp] at h ⊢; exact h hn
  | unsupported w => intro p s hn h; rw [Sem.wp] at h; exact h.elim
  | finish w => intro p s hn h; rw [Sem.wp] at h; exact h.elim
  | rule t k ih => intro p s hn h; rw [Sem.wp] at h ⊢; exact ih () _ _ hn h
  | «at» p' k ih => intro p s hn h; rw [Sem.wp] at h ⊢; exact ih () _ _ hn h
  | load a pt k ih => intro p s hn h; rw [Sem.wp] at h ⊢; obtain ⟨o, ho, h⟩ := h; exact ⟨o, ho, ih o _ _ hn h⟩
  | update a pt f k ih => intro p s hn h; rw [Sem.wp] at h ⊢; exact ⟨h.1, ih () _ _ hn h.2⟩
  | alloc o k ih => intro p s hn h; rw [Sem.wp] at h ⊢; exact ih _ _ _ hn h
  | loadIfAlive a k ih => intro p s hn h; rw [Sem.wp] at h ⊢; exact ih _ _ _ hn h
  | point l k ih => intro p s hn h; rw [Sem.wp] at h ⊢; exact ih () _ _ hn h
  | register a k ih => intro p s hn h; rw [Sem.wp] at h; exact h.elim
  | fresh k ih => intro p s hn h; rw [Sem.wp] at h ⊢; exact ih _ _ _ (Nat.le_succ_of_le hn) h
  | ask k ih => intro p s hn h; rw [Sem.wp] at h ⊢; exact ih _ _ _ hn h
  | choose src n k ih => intro p s hn h; rw [Sem.wp] at h ⊢; exact ⟨h.1, ih _ _ _ hn h.2⟩
  | os q l k ih => intro p s hn h; rw [Sem.wp] at h ⊢; exact ih _ _ _ hn h
  | call c hd g l k ih =>
    intro p s hn h
    rw [Sem.wp] at h ⊢
    obtain ⟨r, s', hr, h⟩ := h
    exact ⟨r, s', hr, ih r _ _ (Nat.le_trans hn (runs_toks hr)) h⟩
  | handled o k ih => intro p s hn h; rw [Sem.wp] at h ⊢; exact ih _ _ _ hn h
  | newGen c k ih => intro p s hn h; rw [Sem.wp] at h ⊢; exact ih _ _ _ hn h
  | genState g k ih => intro p s hn h; rw [Sem.wp] at h ⊢; obtain ⟨o, ho, h⟩ := h; exact ⟨o, ho, ih _ _ _ hn h⟩
  | resume g r l k ih =>
    intro p s hn h
    rw [Sem.wp] at h ⊢
    obtain ⟨r, s', hr, h⟩ := h
    exact ⟨r, s', hr, ih r _ _ (Nat.le_trans hn (wakes_toks hr)) h⟩
  | yield v g l k ih => intro p s hn h; rw [Sem.wp] at h; exact h.elim
  | stack k ih => intro p s hn h; rw [Sem.wp] at h ⊢; exact ih _ _ _ hn h
  | fork c k ih => intro p s hn h; rw [Sem.wp] at h; exact h.elim
  | thread k ih => intro p s hn h; rw [Sem.wp] at h ⊢; exact ih _ _ _ hn h
  | await a f d l k ih => intro p s hn h; rw [Sem.wp] at h; exact h.elim

theorem toks_le {α : Type} {M : Model} {A : Around} {t : Sem α} {E : Value → Shared → Prop} {Q : α → Shared → Prop} {s : Shared}
    (h : wpAny M A t (fun a s' => s.toks ≤ s'.toks → Q a s') (fun e s' => s.toks ≤ s'.toks → E e s') s) : wpAny M A t Q E s :=
  fun Γ p hΓ => wp_toks t p s (Nat.le_refl _) (h Γ p hΓ)
theorem toksQ {α : Type} {M : Model} {A : Around} {t : Sem α} {E : Value → Shared → Prop} {Q : α → Shared → Prop} {s : Shared}
    (h : wpAny M A t (fun a s' => s.toks ≤ s'.toks → Q a s') E s) : wpAny M A t Q E s :=
  toks_le (wpAny_mono h (fun _ _ x => x) fun _ _ x _ => x)

end Mine
end

section
open PySem PySem.W PyProof.Rows
set_option maxRecDepth 100000
namespace Mine
section
variable {M : Model} {prog : Program} {w : World} {A : Around} {E : Value → Shared → Prop} {s : Shared} {h₀ : Heap} {L a : Addr} {m : Str → Option Value}
  {cn : Str} {cs : Scope} {ccd : Value} {cl : List (Str × Addr)} {news : List (Addr × Obj)} {env : Env}

/-- a method's call, the receiver not a call of super -/
theorem mcall {o : Expr} {name : Str} {apos pos : Pos} {args : List Expr} {Q : Value → Shared → Prop}
    (hp : (apos.endLine == pos.line) = true) (hf : methodCallForm (args.length + ([] : List Keyword).length) (backTo pos (starEach args env)) (backToKw pos (keywordEach [] env)) = true)
    (ho : attributeBase o name env (eval o env) = eval o env)
    (h : wpAny M A (eval o env) (fun ov s₁ => wpAny M A (getMethod ov name (do return (← importBound o env).getD true)) (fun fx s₂ => wpAny M A (callWith pos fx.1 fx.2 (backTo pos (starEach args env)) []) Q E s₂) E s₁) E s) :
    wpAny M A (eval (.Call (.Attribute o name apos) args [] pos) env) Q E s := by
  have he : eval (.Call (.Attribute o name apos) args [] pos) env = (do
    let ov ← attributeBase o name env (eval o env)
    standAt apos.atName
    methodCall o name apos pos env ov (args.length + ([] : List Keyword).length) (backTo pos (starEach args env)) (backToKw pos (keywordEach [] env))) := rfl
  rw [he, ho]
  refine wpAny_bind (wpAny_mono h (fun ov s₁ h₁ => wpAny_bind (wpAny_standAt ?_)) fun _ _ x => x)
  unfold methodCall
  rw [hf]
  refine wpAny_bind (wpAny_holding ?_)
  unfold calleeOf
  rw [if_pos rfl]
  refine wpAny_mono h₁ (fun fx s₂ h₂ => ?_) fun _ _ x => x
  unfold methodCallPos
  rw [hp]
  exact wpAny_bind (wpAny_pure h₂)

/-- x.replace(y, z), y and z written -/
theorem ev_replace {x y z X : Str} {t : Tok} {k1 k2 : Nat} {p1 p2 p3 p4 p5 : Pos} {Q : Value → Shared → Prop} (F : Fr h₀ L s.heap m) (hm : m x = some (.str X t)) (h1 : 1 ≤ s.toks)
    (hp : (p2.endLine == p5.line) = true)
    (hyz : (y == z) = false) (hb : X.length + (X.length + 1) * z.length ≤ 16777216)
    (hk : cs.kind = .function) (hx : (envX cn cs L a ccd cl).kindOf x = some .local) (hd : (x == ("__debug__" : Str)) = false)
    (h : ∀ t' k, 1 ≤ k → Q (.str (Txt.replace X y z) t') { s with toks := k }) :
    wpAny (model prog w) A (eval (.Call (.Attribute (.Name x p1) (Str.ofString "replace") p2) [.Constant (.str y) k1 p3, .Constant (.str z) k2 p4] [] p5) (envX cn cs L a ccd cl)) Q E s := by
  refine mcall hp rfl rfl (nameX_L F hm ?_ hk hx hd)
  refine GM.replace ?_
  refine callWith_method1 (spliced_more (Calls.Constant_str (spliced_more (Calls.Constant_str (spliced_none ?_)) rfl)) rfl) rfl rfl
  refine toks_le (SC.replace ?_ ?_ ?_ hyz hb ?_)
  · show s.toks ≠ 0; omega
  · show s.toks + 1 ≠ 0; omega
  · exact Nat.ne_of_lt (Nat.lt_succ_self s.toks)
  · intro t' k hk'
    exact h t' k (by have : s.toks + 1 + 1 ≤ k := hk'; omega)

/-- a frame's map with one name set -/
def upd (m : Str → Option Value) (x : Str) (v : Value) : Str → Option Value := fun q => if q = x then some v else m q
theorem upd_at (m : Str → Option Value) (x : Str) (v : Value) : upd m x v x = some v := by simp [upd]
theorem upd_upd (m : Str → Option Value) (x : Str) (v v' : Value) : upd (upd m x v) x v' = upd m x v' := by
  funext q; unfold upd; by_cases h : q = x <;> simp [h]
theorem upd_same {m : Str → Option Value} {x : Str} {v : Value} (h : m x = some v) : upd m x v = m := by
  funext q; unfold upd; by_cases e : q = x <;> simp [e, h]

/-- x = x.replace(y, z) -/
theorem st_replace {x y z X : Str} {t : Tok} {k1 k2 : Nat} {p0 p1 p2 p3 p4 p5 p6 : Pos} {Q : Flow → Shared → Prop} (F : Fr h₀ L s.heap (upd m x (.str X t))) (N : News h₀ L s.heap news) (h1 : 1 ≤ s.toks)
    (hp : (p2.endLine == p5.line) = true)
    (hyz : (y == z) = false) (hb : X.length + (X.length + 1) * z.length ≤ 16777216)
    (hk : cs.kind = .function) (hx : (envX cn cs L a ccd cl).kindOf x = some .local) (hd : (x == ("__debug__" : Str)) = false)
    (h : ∀ h' t' k, Fr h₀ L h' (upd m x (.str (Txt.replace X y z) t')) → News h₀ L h' news → 1 ≤ k → Q .next { s with heap := h', toks := k }) :
    wpAny (model prog w) A (exec (.Assign [.Name x p0] (.Call (.Attribute (.Name x p1) (Str.ofString "replace") p2) [.Constant (.str y) k1 p3, .Constant (.str z) k2 p4] [] p5) p6) (envX cn cs L a ccd cl)) Q E s := by
  refine wpAny_Assign_Name (ev_replace F (upd_at ..) h1 hp hyz hb hk hx hd fun t' k hk' => ?_)
  refine storeX_L F N (fun h' F' N' => ?_) hk hx
  exact h h' t' (k + 1) (by have := upd_upd m x (.str X t) (.str (Txt.replace X y z) t'); rw [← this]; exact F') N' (by omega)

theorem replace_none {X y z : Str} (h : (Builtin.Str.occurrences X y 0 X.length 1).isEmpty = true) : Txt.replace X y z = X := by
  unfold Txt.replace
  have : (Builtin.Str.occurrences X y 0 X.length (X.length + 1)).isEmpty = true := by
    have hf := StrLaws.found_iff X y
    rw [h] at hf
    have hno : ¬ ∃ i, i + y.length ≤ X.length ∧ Builtin.Str.subAt X y i = true := fun e => by simpa using hf.mpr e
    cases ho : Builtin.Str.occurrences X y 0 X.length (X.length + 1) with
    | nil => rfl
    | cons i r =>
      obtain ⟨f, hc⟩ := StrLaws.occ_chain X y (X.length + 1)
      rw [ho] at hc
      exact absurd ⟨i, hc.2.1⟩ hno
  rw [this]; rfl

/-- if y in x: x = x.replace(y, z) -/
theorem if_replace {x y z X : Str} {t : Tok} {k0 k1 k2 : Nat} {p0 p1 p2 p3 p4 p5 p6 q0 q1 q2 q3 : Pos} {Q : Flow → Shared → Prop} (F : Fr h₀ L s.heap (upd m x (.str X t))) (N : News h₀ L s.heap news) (h1 : 1 ≤ s.toks)
    (hp : (p2.endLine == p5.line) = true)
    (hyz : (y == z) = false) (hb : X.length + (X.length + 1) * z.length ≤ 16777216)
    (hk : cs.kind = .function) (hx : (envX cn cs L a ccd cl).kindOf x = some .local) (hd : (x == ("__debug__" : Str)) = false)
    (h : ∀ h' t' k, Fr h₀ L h' (upd m x (.str (Txt.replace X y z) t')) → News h₀ L h' news → 1 ≤ k → Q .next { s with heap := h', toks := k }) :
    wpAny (model prog w) A (exec (.If (.Compare (.Constant (.str y) k0 q0) [.In] [.Name x q1] q2)
      [.Assign [.Name x p0] (.Call (.Attribute (.Name x p1) (Str.ofString "replace") p2) [.Constant (.str y) k1 p3, .Constant (.str z) k2 p4] [] p5) p6] [] q3) (envX cn cs L a ccd cl)) Q E s := by
  refine wpAny_If (wpAny_isTrue_Compare1 (Calls.Constant_str (nameX_L F (upd_at ..) (in_str (wpAny_truthy_bool ?_)) hk hx hd)))
  split
  · refine wpAny_execs_cons (st_replace F N (by show 1 ≤ s.toks + 1; omega) hp hyz hb hk hx hd fun h' t' k F' N' hk' => ?_)
    exact wpAny_execs_nil (h h' t' k F' N' hk')
  · rename_i hno
    refine wpAny_execs_nil ?_
    have he : (Builtin.Str.occurrences X y 0 X.length 1).isEmpty = true := by simpa using hno
    have := h s.heap t (s.toks + 1) (by rw [replace_none he]; exact F) N (by omega)
    exact this

/-- return x -/
theorem st_return {x : Str} {v : Value} {p q : Pos} {Q : Flow → Shared → Prop} (F : Fr h₀ L s.heap m) (hm : m x = some v)
    (hk : cs.kind = .function) (hx : (envX cn cs L a ccd cl).kindOf x = some .local) (hd : (x == ("__debug__" : Str)) = false) (h : Q (.ret v) s) :
    wpAny (model prog w) A (exec (.Return (some (.Name x p)) q) (envX cn cs L a ccd cl)) Q E s :=
  wpAny_Return_some (nameX_L F hm h hk hx hd)
end
end Mine
end

section
open PySem PySem.W PyProof.Rows
set_option maxRecDepth 100000
namespace Mine

def Room (A : Around) (n : Nat) : Prop := A.depth + n < recursionLimit ∧ A.units + 10 * n < cLine
theorem Room.deeper {A : Around} {n : Nat} {env : Env} (h : Room A (n + 1)) : Room (A.deeper env) n := by
  obtain ⟨h1, h2⟩ := h
  constructor
  · show A.depth + 1 + n < recursionLimit; omega
  · show A.units + 3 + 10 * n < cLine; omega
theorem Room.le {A : Around} {n k : Nat} (h : Room A n) (hk : k ≤ n) : Room A k := by
  obtain ⟨h1, h2⟩ := h
  exact ⟨by omega, by omega⟩

/-- what stands around a frame of the text's -/
structure Site (K : Frag) (p : Program) (loose : List Str) (mean : ExcName → Option Value) (mg mb : Str → Option Value) (A : Around) (env : Env) (A₀ : Around) (base : Heap) (outer : List Env) (h₀ : Heap) (L : Addr) : Prop where
  B : Below A₀ base outer h₀
  X : K.In h₀
  T : Top p loose mean mg mb h₀
  hA : A.frames = some (env :: outer)
  hf : env.frame = some L
  hk : env.scope.kind = .function
  hh : A.handled = none

/-- a def of the text's called with vs: it comes back with a value and new objects of which R speaks -/
def Gives (prog : Program) (w : World) (K : Frag) (p : Program) (loose : List Str) (mean : ExcName → Option Value) (mg mb : Str → Option Value) (n : Nat) (f : Addr) (vs : List Value)
    (pre : Heap → List (Addr × Obj) → Prop) (R : Value → List (Addr × Obj) → Prop) : Prop :=
  ∀ (A : Around) (env : Env) (A₀ : Around) (base : Heap) (outer : List Env) (h₀ : Heap) (L : Addr) (m : Str → Option Value) (news : List (Addr × Obj)) (s : Shared) (Q E : Value → Shared → Prop),
    Site K p loose mean mg mb A env A₀ base outer h₀ L → Fr h₀ L s.heap m → News h₀ L s.heap news → Room A n → pre base news →
    (∀ v ex h' tk', Fr h₀ L h' m → News h₀ L h' (ex ++ news) → (∀ q ∈ news, ∀ x ∈ ex, q.1 ≠ x.1) → 1 ≤ tk' → R v ex → Q v { s with heap := h', toks := tk' }) →
    wpAny (model prog w) A (call (.ref f) vs) Q E s

section
variable {prog : Program} {w : World} {K : Frag} {p : Program} {loose : List Str} {mean : ExcName → Option Value} {mg mb : Str → Option Value}

/-- what a body has to show -/
def BodyGives (prog : Program) (w : World) (K : Frag) (p : Program) (loose : List Str) (mean : ExcName → Option Value) (mg mb : Str → Option Value) (n : Nat) (f : Addr) (qual : Str) (scope : Scope) (cdv : Value) (body : List Stmt) (m : Str → Option Value)
    (pre : Heap → List (Addr × Obj) → Prop) (R : Value → List (Addr × Obj) → Prop) : Prop :=
  ∀ (A : Around) (A₀ : Around) (base : Heap) (outer : List Env) (g : Heap) (L : Addr) (news : List (Addr × Obj)) (s : Shared) (Q : Flow → Shared → Prop),
    Site K p loose mean mg mb A (envOf qual scope L f cdv) A₀ base outer g L → Fr g L s.heap m → News g L s.heap news → 1 ≤ s.toks → Room A n → pre base news →
    (∀ v ex h' tk' m', Fr g L h' m' → News g L h' (ex ++ news) → (∀ q ∈ news, ∀ x ∈ ex, q.1 ≠ x.1) → 1 ≤ tk' → R v ex → Q (.ret v) { s with heap := h', toks := tk' }) →
    wpAny (model prog w) A (execs body (envOf qual scope L f cdv)) Q (fun _ _ => False) s

theorem gives_def {n : Nat} {f : Addr} {vs : List Value} {pre : Heap → List (Addr × Obj) → Prop} {R : Value → List (Addr × Obj) → Prop}
    {name qual : Str} {params : Arguments} {body : List Stmt} {scope : Scope} {dV kV doc pm cdv ct oc : Value} {an od : Option Addr} {osl : Array (Option Value)} {binds : List (Str × Value)}
    (ho : K.lookup f = some ⟨oc, od, .func (fnOf name qual params body scope dV kV doc pm an cdv ct), osl⟩) (hcd : codeIn K cdv qual = true)
    (hbind : ∀ s : Shared, K.In s.heap → BindsTo s (fnOf name qual params body scope dV kV doc pm an cdv ct) ⟨vs, []⟩ binds) (hloc : ∀ y ∈ binds, scope.names.lookup y.1 = some .local)
    (hco : scope.isCoroutine = false) (hgen : scope.isGenerator = false) (hk : scope.kind = .function) (hcell : ∀ x ∈ scope.names, x.2 ≠ .cell)
    (hb : BodyGives prog w K p loose mean mg mb n f qual scope cdv body (fun y => binds.reverse.lookup y) pre R) (hne : 1 ≤ binds.length := by exact Nat.succ_le_succ (Nat.zero_le _)) :
    Gives prog w K p loose mean mg mb (n + 1) f vs pre R := by
  intro A env A₀ base outer h₀ L m news s Q E S F N hr hpre hQ
  refine wpAny_call (code_def S.B F S.X N S.T S.hA S.hf S.hk ho hcd (by have := hr.1; omega) (hbind s (S.X.keeps F.keep)) hloc (fun g L' h₁ FG F' N' B' X' T' => ?_) hco hgen hk hcell)
  refine wpAny_mono (hb (A.deeper (envOf qual scope L' f cdv)) A base (env :: outer) g L' news _ _ ⟨B', X', T', ?_, rfl, hk, S.hh⟩ F' N' ?_ hr.deeper hpre (fun v ex h' tk' m' F₂ N₂ hne htk hR => ?_)) (fun _ _ x => x) (fun _ _ x => x.elim)
  · show A.frames.map _ = _
    rw [S.hA]; rfl
  · show 1 ≤ s.toks + binds.length; omega
  · exact leaveK_ F₂ N₂ fun F₃ N₃ => hQ v ex h' tk' F₃ N₃ hne htk hR
end
end Mine
end

section
open PySem PySem.W PyProof.Rows
set_option maxRecDepth 100000
namespace Mine

/-- replace after replace -/
def repls (X : Str) (reps : List (Str × Str)) : Str := reps.foldl (fun X yz => Txt.replace X yz.1 yz.2) X
/-- each step's room -/
def Fits : Str → List (Str × Str) → Prop
  | _, [] => True
  | X, (y, z) :: r => X.length + (X.length + 1) * z.length ≤ 16777216 ∧ Fits (Txt.replace X y z) r

inductive ReplStmt (x y z : Str) : Stmt → Prop
  | plain {k1 k2 : Nat} {p0 p1 p2 p3 p4 p5 p6 : Pos} (hp : (p2.endLine == p5.line) = true) :
      ReplStmt x y z (.Assign [.Name x p0] (.Call (.Attribute (.Name x p1) (Str.ofString "replace") p2) [.Constant (.str y) k1 p3, .Constant (.str z) k2 p4] [] p5) p6)
  | iff {k0 k1 k2 : Nat} {p0 p1 p2 p3 p4 p5 p6 q0 q1 q2 q3 : Pos} (hp : (p2.endLine == p5.line) = true) :
      ReplStmt x y z (.If (.Compare (.Constant (.str y) k0 q0) [.In] [.Name x q1] q2)
        [.Assign [.Name x p0] (.Call (.Attribute (.Name x p1) (Str.ofString "replace") p2) [.Constant (.str y) k1 p3, .Constant (.str z) k2 p4] [] p5) p6] [] q3)

inductive Chain (x : Str) : List (Str × Str) → List Stmt → List Stmt → Prop
  | nil {rest : List Stmt} : Chain x [] rest rest
  | cons {y z : Str} {reps : List (Str × Str)} {st : Stmt} {sts rest : List Stmt} (h : ReplStmt x y z st) (hyz : (y == z) = false) (hr : Chain x reps sts rest) : Chain x ((y, z) :: reps) (st :: sts) rest

section
variable {prog : Program} {w : World} {A : Around} {E : Value → Shared → Prop} {h₀ : Heap} {L a : Addr} {m : Str → Option Value}
  {cn : Str} {cs : Scope} {ccd : Value} {cl : List (Str × Addr)} {news : List (Addr × Obj)}

theorem exec_chain {x : Str} {Q : Flow → Shared → Prop} (hk : cs.kind = .function) (hx : (envX cn cs L a ccd cl).kindOf x = some .local) (hd : (x == ("__debug__" : Str)) = false) :
    ∀ {reps : List (Str × Str)} {sts rest : List Stmt}, Chain x reps sts rest → ∀ {X : Str} {t : Tok} {s : Shared}, Fits X reps → Fr h₀ L s.heap (upd m x (.str X t)) → News h₀ L s.heap news → 1 ≤ s.toks →
      (∀ h' t' k, Fr h₀ L h' (upd m x (.str (repls X reps) t')) → News h₀ L h' news → 1 ≤ k → wpAny (model prog w) A (execs rest (envX cn cs L a ccd cl)) Q E { s with heap := h', toks := k }) →
      wpAny (model prog w) A (execs sts (envX cn cs L a ccd cl)) Q E s := by
  intro reps sts rest hc
  induction hc with
  | nil => intro X t s _ F N h1 h; exact h s.heap t s.toks F N h1
  | cons hs hyz _ ih =>
    intro X t s hf F N h1 h
    refine wpAny_execs_cons ?_
    cases hs with
    | plain hp => exact st_replace F N h1 hp hyz hf.1 hk hx hd fun h' t' k F' N' hk' => ih hf.2 F' N' hk' fun h'' t'' k'' F'' N'' hk'' => h h'' t'' k'' F'' N'' hk''
    | iff hp => exact if_replace F N h1 hp hyz hf.1 hk hx hd fun h' t' k F' N' hk' => ih hf.2 F' N' hk' fun h'' t'' k'' F'' N'' hk'' => h h'' t'' k'' F'' N'' hk''
end

section
variable {prog : Program} {w : World} {K : Frag} {p : Program} {loose : List Str} {mean : ExcName → Option Value} {mg mb : Str → Option Value}

/-- a body that is one try, a chain of replaces, a return -/
theorem body_try {n : Nat} {f : Addr} {qual : Str} {scope : Scope} {cdv : Value} {m : Str → Option Value} {pre : Heap → List (Addr × Obj) → Prop} {x X : Str} {t : Tok} {reps : List (Str × Str)} {sts : List Stmt} {h₀ : ExceptHandler} {hs : List ExceptHandler} {q r1 r2 : Pos}
    (hm : m x = some (.str X t)) (hc : Chain x reps sts [.Return (some (.Name x r1)) r2]) (hf : Fits X reps)
    (hk : scope.kind = .function) (hx : ∀ L, (envOf qual scope L f cdv).kindOf x = some .local) (hd : (x == ("__debug__" : Str)) = false) :
    BodyGives prog w K p loose mean mg mb n f qual scope cdv [.Try sts (h₀ :: hs) [] [] q] m pre (fun v ex => ex = [] ∧ ∃ t', v = .str (repls X reps) t') := by
  intro A A₀ base outer g L news s Q S F N h1 hr hpre hQ
  refine wpAny_execs_cons (wpAny_Try_except ?_)
  refine wpAny_mono (Q := fun fl s' => ∃ t' h' tk m', fl = .ret (.str (repls X reps) t') ∧ s' = { s with heap := h', toks := tk } ∧ Fr g L h' m' ∧ News g L h' news ∧ 1 ≤ tk) (E := fun _ _ => False) ?_ ?_ (fun _ _ h => h.elim)
  · rw [← upd_same hm] at F
    refine exec_chain (cl := []) hk (hx L) hd hc hf F N h1 fun h' t' k F' N' hk' => ?_
    exact wpAny_execs_cons (st_return (cl := []) F' (upd_at ..) hk (hx L) hd ⟨t', h', k, _, rfl, rfl, F', N', hk'⟩)
  · rintro fl s' ⟨t', h', tk, m', rfl, rfl, F', N', htk⟩
    exact hQ _ [] h' tk m' F' N' (fun _ _ _ hx => nomatch hx) htk ⟨rfl, t', rfl⟩
end
end Mine
end

section
open PySem PySem.W PyProof.Rows
set_option maxRecDepth 100000
namespace Mine
section
variable {prog : Program} {w : World} {A : Around} {E : Value → Shared → Prop} {s : Shared}

/-- an items iterator's next pair, as the table holds it -/
theorem next_items {it d : Addr} {i n ep : Nat} {od : Obj} {es : Array DictEntry} {e : DictEntry} {ok ov : Value} {Q : Option Value → Shared → Prop}
    (hit : IsItemIter s.heap it d i n ep ok ov) (hd : s.heap.get? d = some od) (hdd : od.data = .dict es ep) (hn : es.size = n) (he : es[i]? = some e)
    (hQ : ∀ h', IsItemIterOut h' it d (i + 1) n ep e.key e.val s.heap.objs.size → h'.get? s.heap.objs.size = some { cls := .type "tuple", data := .seq #[e.key, e.val] } →
      (∀ b o, b ≠ it → s.heap.get? b = some o → h'.get? b = some o) → Q (some (.ref s.heap.objs.size)) { s with heap := h' }) :
    wpAny (model prog w) A (pyNext (.ref it)) Q E s := by
  have hT : s.TypeIs (.ref it) "dict_itemiterator" := ⟨_, hit, rfl⟩
  have hown : Builtin.Dict_items.ownsTuple "dict_itemiterator" = true := by decide
  have hil : it < s.heap.objs.size := Heap.lt_size hit
  unfold pyNext
  refine wpAny_bind (wpAny_attempt (wpAny_callSpecial?_slot (name := Str.ofString "__next__") hT F.slot_dict_itemiterator_next (wpAny_call_entry F.slot_dict_itemiterator_next hT F.entry_dict_itemiterator_next ?_ (F.args_dict_itemiterator_next_1 _))))
  -- which slot, where
  refine wpAny_bind (wpAny_pure (wpAny_bind (wpAny_bind (wpAny_bind (wpAny_typeNameOfWhole_itemiter hT (wpAny_pure (wpAny_bind (wpAny_fieldsOf hit rfl ?_))))))))
  simp only [hown, if_true]
  show wpAny _ _ (if (Value.ref d == Value.none) = true then _ else _) _ _ _
  rw [if_neg (show ¬ ((Value.ref d == Value.none) = true) from Bool.false_ne_true)]
  refine wpAny_bind (wpAny_pure (wpAny_bind (wpAny_dictEntries hd hdd ?_)))
  rw [if_neg (by simp [hn])]
  refine wpAny_bind (wpAny_pure (wpAny_bind (wpAny_dictEpoch hd hdd ?_)))
  rw [if_neg (by simp)]
  refine wpAny_pure ?_
  simp only [show ¬ ((i : Int) < 0) from by omega, if_false, Int.toNat_natCast, he]
  -- the index goes on
  refine wpAny_bind (wpAny_bind (wpAny_typeNameOfWhole_itemiter hT (wpAny_pure (wpAny_bind (wpAny_isOneOf_itemiter hT ?_)))))
  simp only [hown, if_true]
  refine wpAny_bind (wpAny_setField_rec (k := 3) (x := rawInt ((i : Int) + 1)) hit (by simp) fun h₁ e₁ b₁ => ?_)
  have hT₁ : Shared.TypeIs { s with heap := h₁ } (.ref it) "dict_itemiterator" := ⟨_, e₁, rfl⟩
  refine wpAny_bind (wpAny_holding (wpAny_bind (wpAny_isOneOf_itemiter hT₁ (wpAny_bind (wpAny_isOneOf_itemiter hT₁ ?_)))))
  show wpAny _ _ (Builtin.Dict_items.pairFromOwner (.ref it) 6 e.key e.val) _ _ _
  -- a new pair, and the iterator keeps it
  unfold Builtin.Dict_items.pairFromOwner Builtin.Dict_items.ownedTupleIsFree
  refine wpAny_bind (wpAny_newTuple ?_)
  have hz : h₁.objs.size = s.heap.objs.size := b₁.1
  have e₂ := Heap.get?_push_of_some (h := h₁) { cls := .type "tuple", data := .seq #[e.key, e.val] } e₁
  refine wpAny_bind (wpAny_bind (wpAny_field e₂ rfl (x := .none) rfl (wpAny_pure ?_)))
  simp only [if_true]
  show wpAny _ _ (do
    let k₀ ← field (.ref it) 6
    let v₀ ← field (.ref it) (6 + 1)
    setField (.ref it) 6 e.key; setField (.ref it) (6 + 1) e.val; setField (.ref it) 0 (rawInt h₁.objs.size); setField (.ref it) 1 (.bool false)
    letGo [k₀, v₀] [.ref h₁.objs.size]
    pure (Value.ref h₁.objs.size)) _ _ _
  refine wpAny_bind (wpAny_field e₂ rfl (x := ok) rfl (wpAny_bind (wpAny_field e₂ rfl (x := ov) rfl ?_)))
  refine wpAny_mono (Q := fun v s' => v = .ref h₁.objs.size ∧ ∃ h', s' = { s with heap := h' } ∧ IsItemIterOut h' it d (i + 1) n ep e.key e.val h₁.objs.size ∧ Heap.SameBut it (h₁.push { cls := .type "tuple", data := .seq #[e.key, e.val] }) h') (E := fun _ _ => False) ?_ ?_ (fun _ _ h => h.elim)
  · refine wpAny_bind (wpAny_setField_rec e₂ (by simp) fun g₁ c₁ d₁ => wpAny_bind (wpAny_setField_rec c₁ (by simp) fun g₂ c₂ d₂ => wpAny_bind (wpAny_setField_rec c₂ (by simp) fun g₃ c₃ d₃ => wpAny_bind (wpAny_setField_rec c₃ (by simp) fun g₄ c₄ d₄ => wpAny_bind (wpAny_letGo (wpAny_pure ?_))))))
    refine ⟨rfl, g₄, rfl, ?_, ⟨by rw [d₄.1, d₃.1, d₂.1, d₁.1], fun b hb => by rw [d₄.2 b hb, d₃.2 b hb, d₂.2 b hb, d₁.2 b hb]⟩⟩
    simpa [rawInt, IsItemIterOut] using c₄
  · rintro v s' ⟨rfl, h', rfl, hout, hs⟩
    rw [hz] at hout ⊢
    refine wpAny_pure ⟨_, rfl, wpAny_pure (hQ h' hout ?_ fun b o hb ho => ?_)⟩
    · have := Heap.get?_push_size h₁ (o := { cls := .type "tuple", data := .seq #[e.key, e.val] }) rfl
      rw [hz] at this
      exact (hs.2 _ (Nat.ne_of_gt hil)).trans this
    · exact (hs.2 b hb).trans (Heap.get?_push_of_some _ ((b₁.2 b hb).trans ho))
end
end Mine
end

section
open PySem PySem.W PyProof.Rows PyProof.V
set_option maxRecDepth 100000
namespace Mine

/-- a table's line: key, its token, value, its token -/
abbrev Ln := Str × Tok × Str × Tok
def lnE (w : World) (e : Ln) : DictEntry := ⟨hashStr w e.1, .str e.1 e.2.1, .str e.2.2.1 e.2.2.2⟩
/-- a dict of texts -/
def dObj (w : World) (l : List Ln) (ep : Nat) : Obj := { cls := .type "dict", data := .dict (l.map (lnE w)).toArray ep }
def lnKvs (l : List Ln) : List (Str × Value) := l.map fun e => (e.1, .str e.2.2.1 e.2.2.2)
def lnPy (l : List Ln) : List (PyData × PyData) := l.map fun e => (.str e.1, .str e.2.2.1)

section
variable {prog : Program} {w : World} {h : Heap} {d : Addr} {l : List Ln} {ep : Nat}

theorem dObj_at (hd : h.get? d = some (dObj w l ep)) (hn : (l.map (·.1)).Nodup) : h.DictAt (strKind prog w) d (lnKvs l) ep := by
  refine ⟨_, _, hd, ⟨rfl, rfl, rfl⟩, rfl, ?_, ?_, ?_⟩
  · intro e he
    have he' : e ∈ l.map (lnE w) := by simpa using he
    obtain ⟨x, _, rfl⟩ := List.mem_map.mp he'
    exact ⟨x.1, strKind_is prog w x.1 x.2.1, rfl⟩
  · show Pairs (strKind prog w) (l.map (lnE w)).toArray.toList (lnKvs l)
    simp only [List.toList_toArray]
    clear hd hn
    induction l with
    | nil => exact .nil
    | cons e r ih => exact .cons (strKind_is prog w e.1 e.2.1) rfl ih
  · have : (lnKvs l).map (·.1) = l.map (·.1) := by simp [lnKvs, Function.comp_def]
    rw [this]; exact hn

theorem lnFlat : ∀ l : List Ln, PyProof.V.FlatPairs PyData.str (lnKvs l) (lnPy l)
  | [] => .nil
  | e :: r => .cons (Flat.str _ _) (lnFlat r)

theorem dObj_tab (hd : h.get? d = some (dObj w l ep)) (hn : (l.map (·.1)).Nodup) (lo : (d == sysModules) = false) : TabAt (strKind prog w) PyData.str h d (lnPy l) :=
  ⟨lo, _, (dObj_at hd hn).dictOf, lnFlat l⟩
end

section
variable {prog : Program} {w : World} {A : Around} {E : Value → Shared → Prop} {s : Shared}

theorem items_turns {elts : List Expr} {kk : Nat} {pos : Pos} (hh : A.handled = none) (I d : Addr) (hne : d ≠ I) (l : List Ln) (ep : Nat) (hn : (l.map (·.1)).Nodup) :
    KTurns prog w A (.Tuple elts kk pos) I [I, d] [I] l.length
      (fun i v h => ∃ T e, v = .ref T ∧ l[i]? = some e ∧ IsTup h T #[.str e.1 e.2.1, .str e.2.2.1 e.2.2.2])
      (fun i v h => ∃ T e ok ov, v = .ref T ∧ l[i]? = some e ∧ IsTup h T #[.str e.1 e.2.1, .str e.2.2.1 e.2.2.2] ∧ IsItemIterOut h I d (i + 1) l.length ep ok ov T ∧ h.get? d = some (dObj w l ep) ∧ T ≠ I)
      (fun i h => (∃ ok ov, IsItemIter h I d i l.length ep ok ov) ∧ h.get? d = some (dObj w l ep)) where
  sub := fun b hb => by simp at hb; simp [hb]
  frame := fun i h h' st hk => by
    obtain ⟨⟨ok, ov, he⟩, hm⟩ := st
    exact ⟨⟨ok, ov, hk I (by simp) _ he⟩, hk d (by simp) _ hm⟩
  item := fun i s Q E hi st hQ => by
    obtain ⟨⟨ok, ov, he⟩, hm⟩ := st
    have hx : l[i]? = some l[i] := by simp [hi]
    refine next_items (e := lnE w l[i]) he hm rfl (by simp) (by simp [hi]) fun h' ho hT hk => ?_
    exact hQ (.ref s.heap.objs.size) h' s.toks ⟨_, _, _, _, rfl, hx, ⟨_, hT, rfl, _, rfl⟩, ho, hk d _ hne hm, Nat.ne_of_gt (Heap.lt_size he)⟩ fun b o hb e => hk b o (fun h => hb (by simp [h])) e
  go := fun i v s Q E hm hQ => by
    obtain ⟨T, e, ok, ov, rfl, hx, hT, ho, hd, hTI⟩ := hm
    refine wpAny_letOwnedTupleGo_items ho fun h' he hs => ?_
    exact hQ h' ⟨T, e, rfl, hx, hT.extBut hs.extBut hTI⟩ ⟨⟨ok, ov, he⟩, hs.extBut d _ hne hd⟩ fun b o hb e => hs.extBut b o (fun h => hb (by simp [h])) e
  done := fun s Q E st hQ => by
    obtain ⟨⟨ok, ov, he⟩, hm⟩ := st
    have hl : (lnKvs l).length = l.length := by simp [lnKvs]
    have he' : IsItemIter s.heap I d l.length (lnKvs l).length ep ok ov := by rw [hl]; exact he
    exact wpAny_pyNext_items_end (kvs := lnKvs l) hh he' (dObj_at (prog := prog) hm hn) (by simp [lnKvs]) fun h' hx => hQ h' s.toks fun b o hb e => hx b o (fun h => hb (by simp [h])) e
end
end Mine
end

section
open PySem PySem.W PyProof.Rows PyProof.V
set_option maxRecDepth 100000
namespace Mine

theorem news_ext {h₀ h h' : Heap} {L : Addr} {news : List (Addr × Obj)} (N : News h₀ L h news) (hs : Heap.ExtBut h.objs.size h h') : News h₀ L h' news :=
  fun p hp => ⟨hs p.1 p.2 (Nat.ne_of_lt (Heap.lt_size (N p hp).1)) (N p hp).1, (N p hp).2⟩
theorem news_sub {h₀ h : Heap} {L : Addr} {news news' : List (Addr × Obj)} (N : News h₀ L h news) (hs : ∀ p ∈ news', p ∈ news) : News h₀ L h news' := fun p hp => N p (hs p hp)

section
variable {prog : Program} {w : World} {A : Around} {E : Value → Shared → Prop} {s : Shared} {h₀ : Heap} {L a : Addr} {m : Str → Option Value}
  {cn : Str} {cs : Scope} {ccd : Value} {cl : List (Str × Addr)} {news : List (Addr × Obj)}

/-- x1, x2 = a pair -/
theorem assign_two {x1 x2 : Str} {p1 p2 pos : Pos} {k : Nat} {T : Addr} {v1 v2 : Value} {Q : Unit → Shared → Prop} (F : Fr h₀ L s.heap m) (N : News h₀ L s.heap news) (ht : IsTup s.heap T #[v1, v2]) (hh : A.handled = none)
    (hk : cs.kind = .function) (hx1 : (envX cn cs L a ccd cl).kindOf x1 = some .local) (hx2 : (envX cn cs L a ccd cl).kindOf x2 = some .local)
    (h : ∀ h', Fr h₀ L h' (upd (upd m x1 v1) x2 v2) → News h₀ L h' news → Q () { s with heap := h', toks := s.toks + 1 + 1 }) :
    wpAny (model prog w) A (assign (.Tuple [.Name x1 p1, .Name x2 p2] k pos) (envX cn cs L a ccd cl) (.ref T)) Q E s := by
  refine assign_Tuple_tuple hh ht rfl rfl fun h' he => ?_
  have F' := F.extBut he (Nat.le_refl _)
  have N' := news_ext N he
  refine assignInOrder_cons (assign_Name (storeX_L (s := { s with heap := h' }) F' N' (fun h₁ F₁ N₁ => ?_) hk hx1))
  refine assignInOrder_cons (assign_Name (storeX_L (s := { s with heap := h₁, toks := s.toks + 1 }) F₁ N₁ (fun h₂ F₂ N₂ => ?_) hk hx2))
  exact assignInOrder_nil (h h₂ F₂ N₂)

/-- for x1, x2 in d.items(): d a dict of texts -/
theorem for_items {x1 x2 xd : Str} {p1 p2 pt pd pa pc pos : Pos} {k : Nat} {body : List Stmt} {d : Addr} {l : List Ln} {ep : Nat} {Q : Flow → Shared → Prop}
    (J : Nat → (Str → Option Value) → Prop)
    (hh : A.handled = none) (F : Fr h₀ L s.heap m) (N : News h₀ L s.heap news) (T : h₀.NoLimit) (hm : m xd = some (.ref d)) (hd : (d, dObj w l ep) ∈ news) (hn : (l.map (·.1)).Nodup) (lo : (d == sysModules) = false)
    (hp : (pa.endLine == pc.line) = true)
    (hk : cs.kind = .function) (hx1 : (envX cn cs L a ccd cl).kindOf x1 = some .local) (hx2 : (envX cn cs L a ccd cl).kindOf x2 = some .local) (hxd : (envX cn cs L a ccd cl).kindOf xd = some .local) (hdb : (xd == ("__debug__" : Str)) = false)
    (h0 : J 0 m)
    (step : ∀ i e m₁ s₁ own, l[i]? = some e → J i m₁ → Fr h₀ L s₁.heap (upd (upd m₁ x1 (.str e.1 e.2.1)) x2 (.str e.2.2.1 e.2.2.2)) → News h₀ L s₁.heap (own ++ news) → 1 ≤ s₁.toks →
      wpAny (model prog w) A (execs body (envX cn cs L a ccd cl)) (fun fl s₂ => fl = .next ∧ ∃ h' tk m', s₂ = { s₁ with heap := h', toks := tk } ∧ Fr h₀ L h' m' ∧ News h₀ L h' (own ++ news) ∧ J (i + 1) m') (fun _ _ => False) s₁)
    (done : ∀ h' tk m', Fr h₀ L h' m' → News h₀ L h' news → J l.length m' → Q .next { s with heap := h', toks := tk }) :
    wpAny (model prog w) A (exec (.For (.Tuple [.Name x1 p1, .Name x2 p2] k pt) (.Call (.Attribute (.Name xd pd) (Str.ofString "items") pa) [] [] pc) body [] pos) (envX cn cs L a ccd cl)) Q (fun _ _ => False) s := by
  have hdg := (N _ hd).1
  refine For_turns (h₀ := h₀) (m := m) F ?_ (by intro _; rfl) PassesOwn.never
  refine mcall hp rfl rfl (nameX_L F hm ?_ hk hxd hdb)
  refine getMethod_tab (knd := strKind prog w) (enc := PyData.str) PySem.F.slot_dict_items PySem.F.type_dict_items (dObj_tab hdg hn lo) ?_
  refine callWith_method0 (call_items_tab (knd := strKind prog w) (enc := PyData.str) (dObj_tab hdg hn lo) F N fun h' o hv F' N' => ?_)
  have hdg' := (N' _ (List.mem_cons_of_mem _ hd)).1
  have hl : (lnKvs l).length = l.length := by simp [lnKvs]
  refine wpAny_pyIter_items (knd := strKind prog w) hv (dObj_at (prog := prog) hdg' hn) ?_
  rw [hl]
  have hne : d ≠ h'.objs.size := Nat.ne_of_lt (Heap.lt_size hdg')
  refine ⟨h'.objs.size, [h'.objs.size, d], [h'.objs.size], l.length, _, _, _, m, news, fun i m₁ n₁ => n₁ = news ∧ J i m₁, rfl, items_turns hh h'.objs.size d hne l ep hn, ?_, ?_, ?_, ?_, F'.push _, ?_, ⟨rfl, h0⟩, ?_, ?_⟩
  · intro hm'
    rcases List.mem_cons.mp hm' with e | e
    · exact absurd F'.ns.lt (by rw [show L = h'.objs.size from e]; exact Nat.lt_irrefl _)
    · exact (N _ hd).2.1 (List.mem_singleton.mp e).symm
  · intro b hb
    rw [List.mem_singleton.mp hb]
    exact next_is_new F'
  · intro q hq hI
    exact absurd (Heap.lt_size (N' _ (List.mem_cons_of_mem _ hq)).1) ((List.mem_singleton.mp hI) ▸ Nat.lt_irrefl _)
  · exact ⟨⟨.none, .none, Heap.get?_push_size _ rfl⟩, Heap.get?_push_of_some _ hdg'⟩
  · exact fun q hq => ⟨Heap.get?_push_of_some _ (N' _ (List.mem_cons_of_mem _ hq)).1, (N' _ (List.mem_cons_of_mem _ hq)).2⟩
  · rintro i v m₁ news₁ h₁ tk₁ own hi ⟨T', e, rfl, hx, hT⟩ ⟨rfl, hJ⟩ hoff _ _ _ _ F₁ N₁
    refine assign_two (s := { s with heap := h₁, toks := tk₁ }) F₁ N₁ hT hh hk hx1 hx2 fun h₂ F₂ N₂ => ?_
    refine wpAny_mono (step i e m₁ { s with heap := h₂, toks := tk₁ + 1 + 1 } own hx hJ F₂ N₂ (by show 1 ≤ tk₁ + 1 + 1; omega)) ?_ (fun _ _ x => x)
    rintro fl s₂ ⟨rfl, h₃, tk₃, m₃, rfl, F₃, N₃, hJ₃⟩
    exact .next ⟨rfl, h₃, tk₃, m₃, news₁, rfl, F₃, N₃, hoff, rfl, hJ₃⟩
  · rintro h₁ tk₁ m₁ news₁ F₁ N₁ _ ⟨rfl, hJ⟩
    exact done h₁ tk₁ m₁ F₁ N₁ hJ
end
end Mine
end

section
open PySem PySem.W PyProof.Rows PyProof.V
set_option maxRecDepth 100000
namespace Mine

def LnOk (e : Ln) : Prop := e.2.1 ≠ 0 ∧ e.2.2.2 ≠ 0 ∧ e.2.1 ≠ e.2.2.2
def lnReps (l : List Ln) : List (Str × Str) := l.map fun e => (e.1, e.2.2.1)
/-- where a key is its own value the state must not have booked a token -/
def Clear (K : Frag) (l : List Ln) : Prop := (∀ e ∈ l, (e.1 == e.2.2.1) = false) ∨ ∀ h, K.In h → NoneBooked h

section
variable {prog : Program} {w : World} {A : Around} {E : Value → Shared → Prop} {s : Shared} {h₀ : Heap} {L a : Addr} {m : Str → Option Value}
  {cn : Str} {cs : Scope} {ccd : Value} {cl : List (Str × Addr)} {news : List (Addr × Obj)}

/-- x.replace(xy, xz): names -/
theorem ev_replaceN {x xy xz y z X : Str} {t u v : Tok} {p1 p2 p3 p4 p5 : Pos} {Q : Value → Shared → Prop} (F : Fr h₀ L s.heap m) (hm : m x = some (.str X t)) (hmy : m xy = some (.str y u)) (hmz : m xz = some (.str z v))
    (hp : (p2.endLine == p5.line) = true) (hu : u ≠ 0) (hv : v ≠ 0) (huv : u ≠ v)
    (hyz : (y == z) = false ∨ NoneBooked s.heap) (hb : X.length + (X.length + 1) * z.length ≤ 16777216)
    (hk : cs.kind = .function) (hx : (envX cn cs L a ccd cl).kindOf x = some .local) (hd : (x == ("__debug__" : Str)) = false)
    (hxy : (envX cn cs L a ccd cl).kindOf xy = some .local) (hdy : (xy == ("__debug__" : Str)) = false) (hxz : (envX cn cs L a ccd cl).kindOf xz = some .local) (hdz : (xz == ("__debug__" : Str)) = false)
    (h : ∀ t' k, s.toks ≤ k → Q (.str (Txt.replace X y z) t') { s with toks := k }) :
    wpAny (model prog w) A (eval (.Call (.Attribute (.Name x p1) (Str.ofString "replace") p2) [.Name xy p3, .Name xz p4] [] p5) (envX cn cs L a ccd cl)) Q E s := by
  refine mcall hp rfl rfl (nameX_L F hm ?_ hk hx hd)
  refine GM.replace ?_
  refine callWith_method1 (spliced_more (nameX_L F hmy (spliced_more (nameX_L F hmz (spliced_none ?_) hk hxz hdz) rfl) hk hxy hdy) rfl) rfl rfl
  rcases hyz with hyz | hnb
  · exact toks_le (SC.replace hu hv huv hyz hb fun t' k hk' => h t' k hk')
  · exact toks_le (SC.replaceA hu hv huv hb (fun t' k hk' => h t' k hk') hnb)
end

theorem repls_take {l : List Ln} {i : Nat} {e : Ln} (X : Str) (h : l[i]? = some e) : repls X (lnReps (l.take (i + 1))) = Txt.replace (repls X (lnReps (l.take i))) e.1 e.2.2.1 := by
  rw [List.take_add_one, h]
  simp [lnReps, repls, List.foldl_append]

theorem fits_take : ∀ {l : List Ln} {i : Nat} {e : Ln} {X : Str}, Fits X (lnReps l) → l[i]? = some e → (repls X (lnReps (l.take i))).length + ((repls X (lnReps (l.take i))).length + 1) * e.2.2.1.length ≤ 16777216
  | e' :: r, 0, e, X, hf, h => by
    simp only [List.getElem?_cons_zero, Option.some.injEq] at h
    subst h
    exact hf.1
  | e' :: r, i + 1, e, X, hf, h => by
    have := fits_take (l := r) (i := i) (e := e) (X := Txt.replace X e'.1 e'.2.2.1) hf.2 (by simpa using h)
    simpa [lnReps, repls] using this

section
variable {prog : Program} {w : World} {K : Frag} {p : Program} {loose : List Str} {mean : ExcName → Option Value} {mg mb : Str → Option Value}

/-- def dict_replace(s, d): for key, value in d.items(): s = s.replace(key, value); return s -/
theorem body_dictrep {n : Nat} {f : Addr} {qual : Str} {scope : Scope} {cdv : Value} {m : Str → Option Value} {xs xd xk xv X : Str} {t : Tok} {d : Addr} {l : List Ln} {ep : Nat}
    {p1 p2 pt pd pa pc pos q0 q1 q2 q3 q4 q5 q6 r1 r2 : Pos} {k : Nat}
    (hm : m xs = some (.str X t)) (hmd : m xd = some (.ref d)) (hf : Fits X (lnReps l)) (hn : (l.map (·.1)).Nodup) (hok : ∀ e ∈ l, LnOk e) (hc : Clear K l) (lo : (d == sysModules) = false)
    (hp : (pa.endLine == pc.line) = true) (hp' : (q2.endLine == q5.line) = true)
    (hk : scope.kind = .function) (hxs : ∀ L, (envOf qual scope L f cdv).kindOf xs = some .local) (hxd : ∀ L, (envOf qual scope L f cdv).kindOf xd = some .local)
    (hxk : ∀ L, (envOf qual scope L f cdv).kindOf xk = some .local) (hxv : ∀ L, (envOf qual scope L f cdv).kindOf xv = some .local)
    (hds : (xs == ("__debug__" : Str)) = false) (hdd : (xd == ("__debug__" : Str)) = false) (hdk : (xk == ("__debug__" : Str)) = false) (hdv : (xv == ("__debug__" : Str)) = false)
    (hne1 : xs ≠ xk) (hne2 : xs ≠ xv) (hne3 : xk ≠ xv) :
    BodyGives prog w K p loose mean mg mb n f qual scope cdv
      [.For (.Tuple [.Name xk p1, .Name xv p2] k pt) (.Call (.Attribute (.Name xd pd) (Str.ofString "items") pa) [] [] pc)
        [.Assign [.Name xs q0] (.Call (.Attribute (.Name xs q1) (Str.ofString "replace") q2) [.Name xk q3, .Name xv q4] [] q5) q6] [] pos, .Return (some (.Name xs r1)) r2] m
      (fun _ news => (d, dObj w l ep) ∈ news) (fun v ex => ex = [] ∧ ∃ t', v = .str (repls X (lnReps l)) t') := by
  intro A A₀ base outer g L news s Q S F N h1 hr hpre hQ
  refine wpAny_execs_cons (toksQ ?_)
  refine for_items (cl := []) (l := l) (ep := ep) (fun i m₁ => ∃ t', m₁ xs = some (.str (repls X (lnReps (l.take i))) t')) S.hh F N S.T.nolimit hmd hpre hn lo hp hk (hxk L) (hxv L) (hxd L) hdd ⟨t, by simpa [lnReps, repls] using hm⟩ ?_ ?_
  · rintro i e m₁ s₁ own he ⟨t', hm₁⟩ F₁ N₁ h1₁
    obtain ⟨hu, hv, huv⟩ := hok e (List.mem_of_getElem? he)
    refine wpAny_execs_cons (wpAny_Assign_Name (ev_replaceN (cl := []) (xy := xk) (xz := xv) (X := repls X (lnReps (l.take i))) (t := t') (y := e.1) (z := e.2.2.1) (u := e.2.1) (v := e.2.2.2) F₁ ?_ ?_ ?_ hp' hu hv huv ?_ (fits_take hf he) hk (hxs L) hds (hxk L) hdk (hxv L) hdv fun t₂ k₂ hk₂ => ?_))
    · simp [upd, hne1, hne2, hm₁]
    · simp [upd, hne3]
    · simp [upd]
    · exact hc.imp (fun h => h e (List.mem_of_getElem? he)) fun h => h _ ((S.X.keeps fun b o q => F₁.keep b o q))
    · refine storeX_L (s := { s₁ with toks := k₂ }) F₁ N₁ (fun h₃ F₃ N₃ => ?_) hk (hxs L)
      exact wpAny_execs_nil ⟨rfl, h₃, k₂ + 1, _, rfl, F₃, N₃, t₂, by simp [repls_take X he]⟩
  · rintro h' tk m' F' N' ⟨t', hm'⟩ htk
    rw [List.take_length] at hm'
    refine wpAny_execs_cons (st_return (cl := []) (s := { s with heap := h', toks := tk }) F' hm' hk (hxs L) hds ?_)
    exact hQ _ [] h' tk m' F' N' (fun _ _ _ hx => nomatch hx) (Nat.le_trans h1 htk) ⟨rfl, t', rfl⟩
end
end Mine
end

section
open PySem PySem.W PyProof.Rows PyProof.V
set_option maxRecDepth 100000
namespace Mine

/-- an object that stands: made by the call, or at the top -/
def Stands (K : Frag) (news : List (Addr × Obj)) (d : Addr) (o : Obj) : Prop := (d, o) ∈ news ∨ ∀ h, K.In h → h.get? d = some o
theorem Stands.at {K : Frag} {news : List (Addr × Obj)} {d : Addr} {o : Obj} {h₀ h : Heap} {L : Addr} {m : Str → Option Value} (x : Stands K news d o) (N : News h₀ L h news) (F : Fr h₀ L h m) (X : K.In h₀) : h.get? d = some o :=
  x.elim (fun q => (N _ q).1) fun q => q h (X.keeps F.keep)

/-- the calls of one def from another's frame -/
theorem call_name {prog : Program} {w : World} {K : Frag} {p : Program} {loose : List Str} {mean : ExcName → Option Value} {mg mb : Str → Option Value} {A A₀ : Around} {base : Heap} {outer : List Env} {E : Value → Shared → Prop} {s : Shared} {h₀ : Heap} {L a : Addr} {m : Str → Option Value}
    {cn : Str} {cs : Scope} {ccd : Value} {cl : List (Str × Addr)} {x : Str} {f : Addr} {e : Expr} {rest : List Expr} {px pos : Pos} {Q : Value → Shared → Prop}
    (S : Site K p loose mean mg mb A (envX cn cs L a ccd cl) A₀ base outer h₀ L) (F : Fr h₀ L s.heap m) (he : nsIn K mainGlobals x = some (some (.ref f))) (hkp : keepIn K (.ref f) = true)
    (hx : (envX cn cs L a ccd cl).kindOf x = some .globalImplicit) (hd : (x == ("__debug__" : Str)) = false)
    (h : wpAny (model prog w) A (spliced (backTo pos (starEach (e :: rest) (envX cn cs L a ccd cl)))) (fun vs s₁ => K.In s₁.heap ∧ wpAny (model prog w) A (call (.ref f) vs) Q E s₁) E s)
    (he1 : starEach (e :: rest) (envX cn cs L a ccd cl) = (false, eval e (envX cn cs L a ccd cl)) :: starEach rest (envX cn cs L a ccd cl)) (hpl : (backTo pos (starEach rest (envX cn cs L a ccd cl))).any (·.1) = false) :
    wpAny (model prog w) A (eval (.Call (.Name x px) (e :: rest) [] pos) (envX cn cs L a ccd cl)) Q E s := by
  refine Call_ (nameX_K F S.X (topRead_of S.T) he ?_ S.hk hx hd)
  exact callWith_K (first := []) S.X hkp h he1 hpl
section
variable {prog : Program} {w : World} {K : Frag} {p : Program} {loose : List Str} {mean : ExcName → Option Value} {mg mb : Str → Option Value}

/-- if entities: data = dict_replace(data, entities), the rest behind it -/
theorem st_entities {n : Nat} {A A₀ : Around} {base : Heap} {outer : List Env} {E : Value → Shared → Prop} {s : Shared} {h₀ : Heap} {L a : Addr} {m : Str → Option Value} {news : List (Addr × Obj)}
    {cn : Str} {cs : Scope} {ccd : Value} {cl : List (Str × Addr)} {x xe xg X : Str} {g d : Addr} {t : Tok} {l : List Ln} {ep : Nat} {q1 q2 q3 q4 q5 q6 q7 q8 : Pos} {Q : Flow → Shared → Prop}
    (S : Site K p loose mean mg mb A (envX cn cs L a ccd cl) A₀ base outer h₀ L) (F : Fr h₀ L s.heap (upd m x (.str X t))) (N : News h₀ L s.heap news) (h1 : 1 ≤ s.toks) (hr : Room A n)
    (hme : m xe = some (.ref d)) (hxe : xe ≠ x) (hst : Stands K news d (dObj w l ep)) (hl : l ≠ [] → (d, dObj w l ep) ∈ news) (hn : (l.map (·.1)).Nodup) (lo : (d == sysModules) = false) (hlen : l.length < 100)
    (hg : l ≠ [] → ∀ t, Gives prog w K p loose mean mg mb n g [.str X t, .ref d] (fun _ news => (d, dObj w l ep) ∈ news) (fun v ex => ex = [] ∧ ∃ t', v = .str (repls X (lnReps l)) t'))
    (hgn : nsIn K mainGlobals xg = some (some (.ref g))) (hkp : keepIn K (.ref g) = true)
    (hkx : (envX cn cs L a ccd cl).kindOf x = some .local) (hke : (envX cn cs L a ccd cl).kindOf xe = some .local) (hkg : (envX cn cs L a ccd cl).kindOf xg = some .globalImplicit)
    (hdx : (x == ("__debug__" : Str)) = false) (hde : (xe == ("__debug__" : Str)) = false) (hdg : (xg == ("__debug__" : Str)) = false)
    (h : ∀ h' t' k, Fr h₀ L h' (upd m x (.str (repls X (lnReps l)) t')) → News h₀ L h' news → 1 ≤ k → Q .next { s with heap := h', toks := k }) :
    wpAny (model prog w) A (exec (.If (.Name xe q1) [.Assign [.Name x q2] (.Call (.Name xg q3) [.Name x q4, .Name xe q5] [] q6) q7] [] q8) (envX cn cs L a ccd cl)) Q E s := by
  have hm2 : upd m x (.str X t) xe = some (.ref d) := by simp [upd, hxe, hme]
  refine wpAny_If (isTrue_plain (nameX_L F hm2 ?_ S.hk hke hde) rfl)
  have hat := hst.at N F S.X
  refine truthy_tab (knd := strKind prog w) (enc := PyData.str) (dObj_tab hat hn lo) (by simp [lnPy]; omega) ?_
  by_cases hle : l = []
  · subst hle
    simp only [lnPy, List.map_nil, List.isEmpty_nil, Bool.not_true, Bool.false_eq_true, if_false]
    exact wpAny_execs_nil (h s.heap t (s.toks + 1 + 1) F N (by omega))
  · have he : (lnPy l).isEmpty = false := by cases l with | nil => exact absurd rfl hle | cons _ _ => rfl
    simp only [he, Bool.not_false, if_true]
    refine wpAny_execs_cons (wpAny_Assign_Name (call_name (s := { s with toks := s.toks + 1 + 1 }) S F hgn hkp hkg hdg ?_ rfl rfl))
    refine spliced_more (nameX_L (s := { s with toks := s.toks + 1 + 1 }) F (upd_at ..) (spliced_more (nameX_L (s := { s with toks := s.toks + 1 + 1 }) F hm2 (spliced_none ⟨S.X.keeps F.keep, ?_⟩) S.hk hke hde) rfl) S.hk hkx hdx) rfl
    refine hg hle t A _ A₀ base outer h₀ L _ news { s with toks := s.toks + 1 + 1 } _ _ S F N hr (hl hle) ?_
    rintro v ex h' tk' F' N' _ htk ⟨rfl, t', rfl⟩
    refine storeX_L (s := { s with heap := h', toks := tk' }) F' N' (fun h₃ F₃ N₃ => ?_) S.hk hkx
    refine wpAny_execs_nil (h h₃ t' (tk' + 1) ?_ N₃ (by omega))
    have := upd_upd m x (.str X t) (.str (repls X (lnReps l)) t')
    rw [← this]; exact F₃

/-- escape(data, entities) -/
theorem body_esc {n : Nat} {f g : Addr} {qual : Str} {scope : Scope} {cdv : Value} {m : Str → Option Value} {x xe xg X : Str} {t : Tok} {d : Addr} {l : List Ln} {ep : Nat} {reps : List (Str × Str)} {sts : List Stmt}
    {q1 q2 q3 q4 q5 q6 q7 q8 r1 r2 : Pos}
    (hc : Chain x reps sts [.If (.Name xe q1) [.Assign [.Name x q2] (.Call (.Name xg q3) [.Name x q4, .Name xe q5] [] q6) q7] [] q8, .Return (some (.Name x r1)) r2])
    (hm : m x = some (.str X t)) (hme : m xe = some (.ref d)) (hxe : xe ≠ x) (hf : Fits X reps) (hn : (l.map (·.1)).Nodup) (lo : (d == sysModules) = false) (hlen : l.length < 100)
    (hg : l ≠ [] → ∀ t, Gives prog w K p loose mean mg mb n g [.str (repls X reps) t, .ref d] (fun _ news => (d, dObj w l ep) ∈ news) (fun v ex => ex = [] ∧ ∃ t', v = .str (repls (repls X reps) (lnReps l)) t'))
    (hgn : nsIn K mainGlobals xg = some (some (.ref g))) (hkp : keepIn K (.ref g) = true) (hk : scope.kind = .function)
    (hkx : ∀ L, (envOf qual scope L f cdv).kindOf x = some .local) (hke : ∀ L, (envOf qual scope L f cdv).kindOf xe = some .local) (hkg : ∀ L, (envOf qual scope L f cdv).kindOf xg = some .globalImplicit)
    (hdx : (x == ("__debug__" : Str)) = false) (hde : (xe == ("__debug__" : Str)) = false) (hdg : (xg == ("__debug__" : Str)) = false) :
    BodyGives prog w K p loose mean mg mb n f qual scope cdv sts m (fun _ news => Stands K news d (dObj w l ep) ∧ (l ≠ [] → (d, dObj w l ep) ∈ news)) (fun v ex => ex = [] ∧ ∃ t', v = .str (repls (repls X reps) (lnReps l)) t') := by
  intro A A₀ base outer g' L news s Q S F N h1 hr hpre hQ
  rw [← upd_same hm] at F
  refine exec_chain (cl := []) hk (hkx L) hdx hc hf F N h1 fun h' t' k F' N' hk' => ?_
  refine wpAny_execs_cons (st_entities (cl := []) (s := { s with heap := h', toks := k }) S F' N' hk' hr hme hxe hpre.1 hpre.2 hn lo hlen hg hgn hkp (hkx L) (hke L) (hkg L) hdx hde hdg fun h₂ t₂ k₂ F₂ N₂ hk₂ => ?_)
  refine wpAny_execs_cons (st_return (cl := []) (s := { s with heap := h₂, toks := k₂ }) F₂ (upd_at ..) hk (hkx L) hdx ?_)
  exact hQ _ [] h₂ k₂ _ F₂ N₂ (fun _ _ _ hx => nomatch hx) hk₂ ⟨rfl, t₂, rfl⟩

/-- unescape(data, entities) -/
theorem body_unesc {n : Nat} {f g : Addr} {qual : Str} {scope : Scope} {cdv : Value} {m : Str → Option Value} {x xe xg X y z : Str} {t : Tok} {d : Addr} {l : List Ln} {ep : Nat} {reps : List (Str × Str)} {sts : List Stmt}
    {k1 k2 : Nat} {q1 q2 q3 q4 q5 q6 q7 q8 r0 r1 r2 r3 r4 r5 : Pos}
    (hc : Chain x reps sts [.If (.Name xe q1) [.Assign [.Name x q2] (.Call (.Name xg q3) [.Name x q4, .Name xe q5] [] q6) q7] [] q8,
      .Return (some (.Call (.Attribute (.Name x r1) (Str.ofString "replace") r2) [.Constant (.str y) k1 r3, .Constant (.str z) k2 r4] [] r5)) r0])
    (hp : (r2.endLine == r5.line) = true) (hyz : (y == z) = false)
    (hm : m x = some (.str X t)) (hme : m xe = some (.ref d)) (hxe : xe ≠ x) (hf : Fits X reps) (hf2 : Fits (repls (repls X reps) (lnReps l)) [(y, z)]) (hn : (l.map (·.1)).Nodup) (lo : (d == sysModules) = false) (hlen : l.length < 100)
    (hg : l ≠ [] → ∀ t, Gives prog w K p loose mean mg mb n g [.str (repls X reps) t, .ref d] (fun _ news => (d, dObj w l ep) ∈ news) (fun v ex => ex = [] ∧ ∃ t', v = .str (repls (repls X reps) (lnReps l)) t'))
    (hgn : nsIn K mainGlobals xg = some (some (.ref g))) (hkp : keepIn K (.ref g) = true) (hk : scope.kind = .function)
    (hkx : ∀ L, (envOf qual scope L f cdv).kindOf x = some .local) (hke : ∀ L, (envOf qual scope L f cdv).kindOf xe = some .local) (hkg : ∀ L, (envOf qual scope L f cdv).kindOf xg = some .globalImplicit)
    (hdx : (x == ("__debug__" : Str)) = false) (hde : (xe == ("__debug__" : Str)) = false) (hdg : (xg == ("__debug__" : Str)) = false) :
    BodyGives prog w K p loose mean mg mb n f qual scope cdv sts m (fun _ news => Stands K news d (dObj w l ep) ∧ (l ≠ [] → (d, dObj w l ep) ∈ news))
      (fun v ex => ex = [] ∧ ∃ t', v = .str (Txt.replace (repls (repls X reps) (lnReps l)) y z) t') := by
  intro A A₀ base outer g' L news s Q S F N h1 hr hpre hQ
  rw [← upd_same hm] at F
  refine exec_chain (cl := []) hk (hkx L) hdx hc hf F N h1 fun h' t' k F' N' hk' => ?_
  refine wpAny_execs_cons (st_entities (cl := []) (s := { s with heap := h', toks := k }) S F' N' hk' hr hme hxe hpre.1 hpre.2 hn lo hlen hg hgn hkp (hkx L) (hke L) (hkg L) hdx hde hdg fun h₂ t₂ k₂ F₂ N₂ hk₂ => ?_)
  refine wpAny_execs_cons (wpAny_Return_some (ev_replace (cl := []) (s := { s with heap := h₂, toks := k₂ }) F₂ (upd_at ..) hk₂ hp hyz hf2.1 hk (hkx L) hdx fun t₃ k₃ hk₃ => ?_))
  exact hQ _ [] h₂ k₃ _ F₂ N₂ (fun _ _ _ hx => nomatch hx) hk₃ ⟨rfl, t₃, rfl⟩
end
end Mine
end

section
open PySem PySem.W PyProof.Rows PyProof.V
set_option maxRecDepth 100000
namespace Mine

/-- a list that is not changed: the call's own, or one from outside -/
def ListAt (h₀ : Heap) (news : List (Addr × Obj)) (l : Addr) (vs : List Value) : Prop := (∃ n, (l, ({ cls := .type "list", data := .seq vs.toArray n } : Obj)) ∈ news) ∨ h₀.IsList l vs.toArray
theorem ListAt.at {h₀ h : Heap} {L l : Addr} {m : Str → Option Value} {news : List (Addr × Obj)} {vs : List Value} (x : ListAt h₀ news l vs) (F : Fr h₀ L h m) (N : News h₀ L h news) : h.IsList l vs.toArray := by
  rcases x with ⟨n, hm⟩ | hl
  · exact ⟨_, (N _ hm).1, rfl, _, rfl⟩
  · exact hl.at fun o e => F.keep l o e
theorem ListAt.ne {h₀ h : Heap} {L l : Addr} {m : Str → Option Value} {news : List (Addr × Obj)} {vs : List Value} (x : ListAt h₀ news l vs) (F : Fr h₀ L h m) (N : News h₀ L h news) : l ≠ L := by
  rcases x with ⟨n, hm⟩ | hl
  · exact (N _ hm).2.1
  · obtain ⟨o, ho, _⟩ := hl
    exact Nat.ne_of_lt (Nat.lt_of_lt_of_le (Heap.lt_size ho) F.above)

section
variable {prog : Program} {w : World} {A : Around} {E : Value → Shared → Prop} {s : Shared} {h₀ : Heap} {L a : Addr} {m : Str → Option Value}
  {cn : Str} {cs : Scope} {ccd : Value} {cl : List (Str × Addr)} {news : List (Addr × Obj)} {target : Expr} {body : List Stmt} {Q : Flow → Shared → Prop}

theorem iter_list {l : Addr} {vs : List Value} (J : Nat → (Str → Option Value) → List (Addr × Obj) → Prop)
    (hh : A.handled = none) (F : Fr h₀ L s.heap m) (N : News h₀ L s.heap news) (hl : ListAt h₀ news l vs) (h0 : J 0 m news)
    (step : ∀ i v m₁ news₁ h₁ tk₁ own I, vs[i]? = some v → J i m₁ news₁ → (∀ p ∈ news₁, p.1 ≠ I) → (∀ p ∈ own, p.1 = I ∨ p.1 = l) → Fr h₀ L h₁ m₁ → News h₀ L h₁ (own ++ news₁) →
      wpAny (model prog w) A (assign target (envX cn cs L a ccd cl) v) (fun _ s₂ => wpAny (model prog w) A (execs body (envX cn cs L a ccd cl))
        (LoopStepV h₀ L [I] own (J (i + 1)) { s with heap := h₁, toks := tk₁ } (fun v s' => Q (.ret v) s') fun s' => Q .next s') E s₂) E { s with heap := h₁, toks := tk₁ })
    (done : ∀ h' tk m' news', Fr h₀ L h' m' → News h₀ L h' news' → J vs.length m' news' → Q .next { s with heap := h', toks := tk }) :
    wpAny (model prog w) A (pyIter (.ref l)) (fun it s₂ => TurnsAt prog w A h₀ (envX cn cs L a ccd cl) target body Q E it s₂) E s := by
  have hls := hl.at F N
  have hne : l ≠ s.heap.objs.size := by obtain ⟨o, ho, _⟩ := hls; exact Nat.ne_of_lt (Heap.lt_size ho)
  refine wpAny_pyIter_list hls ?_
  refine ⟨s.heap.objs.size, [s.heap.objs.size, l], [s.heap.objs.size], vs.length, _, _, _, m, news, J, rfl,
    (by have W := KTurns.ofWalks (target := target) (Walks.list (prog := prog) (w := w) hh s.heap.objs.size l hne vs.toArray) fun i v s Q E st q => letGo_listiter st.1 q
        rw [List.size_toArray] at W; exact W), ?_, ?_, ?_, ?_, F.push _, ?_, h0, ?_, ?_⟩
  · intro hm'
    rcases List.mem_cons.mp hm' with e | e
    · exact absurd F.ns.lt (by rw [show L = s.heap.objs.size from e]; exact Nat.lt_irrefl _)
    · exact hl.ne F N (List.mem_singleton.mp e).symm
  · intro b hb
    rw [List.mem_singleton.mp hb]
    exact next_is_new F
  · intro q hq hI
    exact absurd (Heap.lt_size (N _ hq).1) ((List.mem_singleton.mp hI) ▸ Nat.lt_irrefl _)
  · exact ⟨⟨_, Heap.get?_push_size _ rfl, rfl, rfl⟩, hls.push _⟩
  · exact fun q hq => ⟨Heap.get?_push_of_some _ (N _ hq).1, (N _ hq).2⟩
  · intro i v m₁ news₁ h₁ tk₁ own _ hP hJ hoff hof _ _ _ F₁ N₁
    refine step i v m₁ news₁ h₁ tk₁ own s.heap.objs.size (by have hP' : vs.toArray[i]? = some v := hP; simpa using hP') hJ (fun p hp e => hoff p hp (by simp [e])) (fun p hp => by simpa using hof p hp) F₁ N₁
  · exact fun h' tk m' news' F' N' _ hJ => done h' tk m' news' F' N' hJ

theorem iter_range {x : Str} {px : Pos} {r : Addr} {a₀ b₀ : Int} {t₀ u₀ v₀ : Tok} {n : Nat} (J : Nat → (Str → Option Value) → List (Addr × Obj) → Prop)
    (hh : A.handled = none) (hr : IsRange s.heap r a₀ b₀ 1 t₀ u₀ v₀) (hsmall : Builtin.Range.small a₀ b₀ 1 = true) (hn : Builtin.Range.rangeSize a₀ b₀ 1 = (n : Int)) (F : Fr h₀ L s.heap m) (N : News h₀ L s.heap news) (h0 : J 0 m news)
    (step : ∀ i t m₁ news₁ h₁ tk₁ own I, i < n → J i m₁ news₁ → (∀ p ∈ news₁, p.1 ≠ I) → (∀ p ∈ own, p.1 = I) → Fr h₀ L h₁ m₁ → News h₀ L h₁ (own ++ news₁) →
      wpAny (model prog w) A (assign (.Name x px) (envX cn cs L a ccd cl) (.int (a₀ + (i : Int)) t)) (fun _ s₂ => wpAny (model prog w) A (execs body (envX cn cs L a ccd cl))
        (LoopStepV h₀ L [I] own (J (i + 1)) { s with heap := h₁, toks := tk₁ } (fun v s' => Q (.ret v) s') fun s' => Q .next s') E s₂) E { s with heap := h₁, toks := tk₁ })
    (done : ∀ h' tk m' news', Fr h₀ L h' m' → News h₀ L h' news' → J n m' news' → Q .next { s with heap := h', toks := tk }) :
    wpAny (model prog w) A (pyIter (.ref r)) (fun it s₂ => TurnsAt prog w A h₀ (envX cn cs L a ccd cl) (.Name x px) body Q E it s₂) E s := by
  refine wpAny_pyIter_range hr hsmall ?_
  have W : KTurns prog w A (.Name x px) s.heap.objs.size [s.heap.objs.size] [s.heap.objs.size] n _ _ _ := KTurns.ofWalks (Walks.range hh s.heap.objs.size a₀ 1 n).bound fun i v s Q E st q => wpAny_pure q
  refine ⟨s.heap.objs.size, [s.heap.objs.size], [s.heap.objs.size], n, _, _, _, m, news, J, rfl, W, ?_, ?_, ?_, ?_, F.push _, ?_, h0, ?_, ?_⟩
  · intro hm'
    exact absurd F.ns.lt (by rw [show L = s.heap.objs.size from List.mem_singleton.mp hm']; exact Nat.lt_irrefl _)
  · intro b hb
    rw [List.mem_singleton.mp hb]
    exact next_is_new F
  · intro q hq hI
    exact absurd (Heap.lt_size (N _ hq).1) ((List.mem_singleton.mp hI) ▸ Nat.lt_irrefl _)
  · show IsRangeIter _ _ _ _ _
    rw [hn]; simpa using Heap.get?_push_size _ rfl
  · exact fun q hq => ⟨Heap.get?_push_of_some _ (N _ hq).1, (N _ hq).2⟩
  · rintro i v m₁ news₁ h₁ tk₁ own _ ⟨hi, t, rfl⟩ hJ hoff hof _ _ _ F₁ N₁
    have := step i t m₁ news₁ h₁ tk₁ own s.heap.objs.size hi hJ (fun p hp e => hoff p hp (by simp [e])) (fun p hp => by simpa using hof p hp) F₁ N₁
    rw [Int.mul_one]
    exact this
  · exact fun h' tk m' news' F' N' _ hJ => done h' tk m' news' F' N' hJ
end
end Mine
end

section
open PySem PySem.W PyProof.Rows PyProof.V PySem.Calls
set_option maxRecDepth 100000
namespace Mine

section
variable {prog : Program} {w : World} {M : Model} {A : Around} {E : Value → Shared → Prop} {s : Shared} {K : Frag} {h₀ : Heap} {L : Addr} {m m₂ : Str → Option Value} {env : Env} {news : List (Addr × Obj)} {p : Program} {loose : List Str} {mg mb : Str → Option Value}
  {scope : Scope} {cl : List (Str × Addr)} {C c : Addr} {x : Str} {pos : Pos} {v : Value} {o : Obj} {Q : Value → Shared → Prop}

theorem nsObj_ns {oC : Obj} (h : LCg.NsObj oC m₂) {hp : Heap} (hg : hp.get? C = some oC) : hp.Ns C m₂ := by
  obtain ⟨es, ep, hd, hk, hf⟩ := h
  exact ⟨oC, es, ep, hg, hd, hk, hf⟩

/-- names within a comprehension -/
theorem cname_L (hn : s.heap.Ns C m₂) (hv : m₂ x = some v) (h : Q v s)
    (hk : (compEnvC scope cl C env).scope.kind = .function) (hx : (compEnvC scope cl C env).kindOf x = some .local) (hd : (x == ("__debug__" : Str)) = false) :
    wpAny M A (eval (.Name x pos) (compEnvC scope cl C env)) Q E s := wpAny_Name (wpAny_loadName_local hk hx hn hv h) hd
theorem cname_C (N : News h₀ L s.heap news) (hc : cl.lookup x = some c) (hm : (c, o) ∈ news) (hd : o.data = .cell (some v)) (h : Q v s)
    (hk : (compEnvC scope cl C env).scope.kind = .function) (hx : (compEnvC scope cl C env).kindOf x = some .cell) (hb : (x == ("__debug__" : Str)) = false) :
    wpAny M A (eval (.Name x pos) (compEnvC scope cl C env)) Q E s := wpAny_Name (wpAny_loadName_cell hk hx hc ⟨o, N.get hm, hd⟩ h) hb
theorem cname_K (F : Fr h₀ L s.heap m) (X : K.In h₀) (T : TopRead p loose mg mb h₀) (e : nsIn K mainGlobals x = some (some v)) (h : Q v s) (hg : env.globals = mainGlobals)
    (hk : (compEnvC scope cl C env).scope.kind = .function) (hx : (compEnvC scope cl C env).kindOf x = some .globalImplicit) (hd : (x == ("__debug__" : Str)) = false) :
    wpAny M A (eval (.Name x pos) (compEnvC scope cl C env)) Q E s :=
  Name_function_global hk hx (loadGlobal_global (env := compEnvC scope cl C env) (by show s.heap.Ns env.globals mg; rw [hg]; exact T.g.keeps F.keep) (mg_of X T.g e) h) hd

/-- [elt for x in iter]: iter a list, the elements plain -/
theorem comp_list {elt iter : Expr} {px : Pos} (R : Nat → Value → Prop) (hh : A.handled = none) (F : Fr h₀ L s.heap m)
    (hcl : closureFor scope env = pure cl) (hcell : ∀ y ∈ scope.names, y.2 ≠ .cell) (hk : scope.kind = .function) (hloc : ∀ y ∈ scope.names, y.2 = .local → scope.names.lookup y.1 = some .local) (hx : scope.names.lookup x = some .local)
    (hs : ∀ x, foldedSetIterable iter env x = pure x)
    (h : wpAny (model prog w) A (eval iter env) (fun xv s₁ => ∃ ax vs news, xv = .ref ax ∧ Fr h₀ L s₁.heap m ∧ News h₀ L s₁.heap news ∧ ListAt h₀ news ax vs ∧ vs.length ≤ sizeLine ∧
      (∀ i v C m₂ own s₂, vs[i]? = some v → s₂.heap.Ns C m₂ → m₂ x = some v → Fr h₀ L s₂.heap m → News h₀ L s₂.heap (own ++ news) →
        wpAny (model prog w) A (eval elt (compEnvC scope cl C env)) (fun y s₃ => ∃ h' tk, s₃ = { s₂ with heap := h', toks := tk } ∧ Fr h₀ L h' m ∧ News h₀ L h' (own ++ news) ∧ R i y) (fun _ _ => False) s₂) ∧
      (∀ ys D h' tk, ys.length = vs.length → (∀ i y, ys[i]? = some y → R i y) → Fr h₀ L h' m → News h₀ L h' ((D, LCg.lst ys) :: news) → (∀ q ∈ news, q.1 ≠ D) → Q (.ref D) { s₁ with heap := h', toks := tk })) E s) :
    wpAny (model prog w) A (eval (.ListComp elt [⟨.Name x px, iter, [], 0⟩] scope pos) env) Q E s := by
  refine LCg.ListComp_U (F₀ := F) hcl hcell hk hloc hx (wpAny_mono h ?_ fun _ _ x => x) hs
  rintro xv s₁ ⟨ax, vs, news, rfl, F₁, N₁, hl, hlen, step, fin⟩
  have hsrc : LCg.SrcAt h₀ ax vs.toArray news := by
    rcases hl with ⟨n, hm⟩ | hl
    · exact .inr ⟨_, hm, rfl, n, rfl⟩
    · exact .inl hl
  refine .inl ⟨ax, vs.toArray, news, rfl, hh, F₁, N₁, hsrc, by rw [List.size_toArray]; exact hlen, ?_⟩
  rintro s₂ ⟨hp₂, rfl⟩
  rw [List.size_toArray]
  have key : ∀ (j i : Nat) (ys : List Value), i + j = vs.length → ys.length = i → (∀ k y, ys[k]? = some y → R k y) →
      LCg.CompRest prog w A h₀ L m env elt x scope cl { s₁ with heap := hp₂ } (LCg.SrcAt h₀ ax vs.toArray) (fun i v => vs.toArray[i]? = some v) (LCg.FinE h₀ L m { s₁ with heap := hp₂ } Q) j i ys news := by
    intro j
    induction j with
    | zero =>
      intro i ys hi hy hR
      refine LCg.CompRest.zero fun D h' tk F' N' off => ?_
      refine fin ys D h' tk (by omega) hR F' N' ?_
      clear fin step N' N₁ hl hsrc
      induction news with
      | nil => intro q hq; nomatch hq
      | cons r rs ih =>
        intro q hq
        rcases List.mem_cons.mp hq with rfl | hq
        · exact off.1
        · exact ih off.2 q hq
    | succ j ih =>
      intro i ys hi hy hR
      refine LCg.CompRest.succ fun v I oI C oC D m₂ h' tk E' hv hC hxv F' N' off ne => ?_
      have hv' : vs[i]? = some v := by have q : vs.toArray[i]? = some v := hv; simpa using q
      refine wpAny_mono (step i v C m₂ [(I, oI), (C, oC), (D, LCg.lst ys)] _ hv' (nsObj_ns hC (N' _ (.tail _ (.head _))).1) hxv F' N') ?_ (fun _ _ x => x.elim)
      rintro y s₃ ⟨h₃, tk₃, rfl, F₃, N₃, hRy⟩
      refine ⟨h₃, tk₃, news, rfl, F₃, N₃, off, hsrc, ih (i + 1) (ys ++ [y]) (by omega) (by simp [hy]) ?_⟩
      intro k z hz
      rcases Nat.lt_trichotomy k ys.length with hk' | hk' | hk'
      · rw [List.getElem?_append_left hk'] at hz; exact hR k z hz
      · subst hk'
        simp at hz
        rw [hy, ← hz]; exact hRy
      · rw [List.getElem?_append_right (by omega), List.getElem?_eq_none (by simp; omega)] at hz
        cases hz
  exact key vs.length 0 [] (by omega) rfl (by simp)
end
end Mine
end

section
open PySem PySem.W PyProof.Rows PyProof.V PySem.Calls
set_option maxRecDepth 100000
namespace Mine

abbrev IsKI (h : Heap) (it d : Addr) (i n ep : Nat) : Prop :=
  h.get? it = some { cls := .type "dict_keyiterator", dict := none, data := .fields #[.ref d, .int i 0, .int n 0, .int ep 0], slots := #[] }
theorem IsKI.key {h : Heap} {it d : Addr} {i n ep : Nat} (x : IsKI h it d i n ep) : h.IsKeyIter it d i n ep := ⟨_, x, rfl, rfl⟩

section
variable {prog : Program} {w : World} {A : Around} {E : Value → Shared → Prop} {s : Shared}

/-- a key iterator's next key, as the table holds it -/
theorem next_key {it d : Addr} {i n ep : Nat} {od : Obj} {es : Array DictEntry} {e : DictEntry} {Q : Option Value → Shared → Prop}
    (hit : IsKI s.heap it d i n ep) (hd : s.heap.get? d = some od) (hdd : od.data = .dict es ep) (hn : es.size = n) (he : es[i]? = some e)
    (hQ : ∀ h', IsKI h' it d (i + 1) n ep → Heap.SameBut it s.heap h' → Q (some e.key) { s with heap := h' }) :
    wpAny (model prog w) A (pyNext (.ref it)) Q E s := by
  have hT : s.TypeIs (.ref it) "dict_keyiterator" := ⟨_, hit, rfl⟩
  have hown : Builtin.Dict_items.ownsTuple "dict_keyiterator" = false := by decide
  unfold pyNext
  refine wpAny_bind (wpAny_attempt (wpAny_callSpecial?_slot (name := Str.ofString "__next__") hT F.slot_dict_keyiterator_next (wpAny_call_entry F.slot_dict_keyiterator_next hT F.entry_dict_keyiterator_next ?_ (F.args_dict_keyiterator_next_1 _))))
  refine wpAny_bind (wpAny_pure (wpAny_bind (wpAny_bind (wpAny_bind (wpAny_typeNameOfWhole_keyiter hT (wpAny_pure (wpAny_bind (wpAny_fieldsOf hit rfl ?_))))))))
  simp only [hown, Bool.false_eq_true, if_false]
  show wpAny _ _ (if (Value.ref d == Value.none) = true then _ else _) _ _ _
  rw [if_neg (show ¬ ((Value.ref d == Value.none) = true) from Bool.false_ne_true)]
  refine wpAny_bind (wpAny_pure (wpAny_bind (wpAny_dictEntries hd hdd ?_)))
  rw [if_neg (by simp [hn])]
  refine wpAny_bind (wpAny_pure (wpAny_bind (wpAny_dictEpoch hd hdd ?_)))
  rw [if_neg (by simp)]
  refine wpAny_pure ?_
  simp only [show ¬ ((i : Int) < 0) from by omega, if_false, Int.toNat_natCast, he]
  refine wpAny_bind (wpAny_bind (wpAny_typeNameOfWhole_keyiter hT (wpAny_pure (wpAny_bind (wpAny_isOneOf_keyiter hT ?_)))))
  simp only [hown, Bool.false_eq_true, if_false]
  refine wpAny_bind (wpAny_setField_rec (k := 1) (x := rawInt ((i : Int) + 1)) hit (by simp) fun h₁ e₁ b₁ => ?_)
  have e₂ : IsKI h₁ it d (i + 1) n ep := by simpa [rawInt, IsKI] using e₁
  refine wpAny_bind (wpAny_holding (wpAny_bind (wpAny_isOneOf_keyiter (s := { s with heap := h₁ }) e₂.key.typeIs ?_)))
  show wpAny _ _ (pure e.key) _ _ _
  exact wpAny_pure (wpAny_pure ⟨_, rfl, wpAny_pure (hQ h₁ e₂ b₁)⟩)

/-- a new key at a dict's end -/
theorem dictSet_new {d : Addr} {l : List Ln} {ep : Nat} {k : Str} {t : Tok} {v : Str} {u : Tok} {Q : Unit → Shared → Prop} (hd : s.heap.get? d = some (dObj w l ep)) (hk : k ∉ l.map (·.1)) (hl : l.length < sizeLine)
    (hQ : ∀ h', h'.get? d = some (dObj w (l ++ [(k, t, v, u)]) (ep + 1)) → Heap.SameBut d s.heap h' → Q () { s with heap := h', toks := s.toks + 1 }) :
    wpAny (model prog w) A (dictSet d (.str k t) (.str v u)) Q E s := by
  have hkey := strKind_is prog w k t
  have hks : KeysOf (strKind prog w) (l.map (lnE w)).toArray := by
    intro e he
    have he' : e ∈ l.map (lnE w) := by simpa using he
    obtain ⟨x, _, rfl⟩ := List.mem_map.mp he'
    exact ⟨x.1, strKind_is prog w x.1 x.2.1, rfl⟩
  unfold dictSet
  try with_reducible refine wpAny_holding ?_
  refine wpAny_bind ((strKind prog w).pyHash hkey ?_)
  unfold dictSetHashed
  try with_reducible refine wpAny_holding ?_
  refine wpAny_bind (wpAny_dictFind_of (knd := strKind prog w) (s := { s with toks := s.toks + 1 }) hkey hd rfl hks ?_)
  have hi : ((l.map (lnE w)).toArray.findIdx? fun e => (strKind prog w).is k e.key) = none := by
    rw [Array.findIdx?_eq_none_iff]
    intro e he
    have he' : e ∈ l.map (lnE w) := by simpa using he
    obtain ⟨x, hx, rfl⟩ := List.mem_map.mp he'
    show Value.isStrOf k (.str x.1 x.2.1) = false
    cases hq : Value.isStrOf k (.str x.1 x.2.1) with
    | false => rfl
    | true =>
      obtain ⟨t', e'⟩ := Value.isStrOf_shape hq
      injection e' with e1
      exact absurd (List.mem_map.mpr ⟨x, hx, e1⟩) hk
  rw [hi]
  refine wpAny_bind (wpAny_rule (wpAny_updateDictKeys (hz := by simp; omega) (s := { s with toks := s.toks + 1 }) hd rfl (hQ _ ?_ (Heap.SameBut.update ..))))
  refine (Heap.get?_update_self _ hd rfl).trans ?_
  simp [dObj, Obj.mapDictKeys, lnE]
  rfl
end
end Mine
end

section
open PySem PySem.W PyProof.Rows PyProof.V PySem.Calls
set_option maxRecDepth 100000
namespace Mine

theorem fr_fresh {h₀ h : Heap} {L a : Addr} {m : Str → Option Value} (F : Fr h₀ L h m) (ha : h.objs.size ≤ a) : a ≠ L ∧ h₀.get? a = none := by
  have h1 := F.ns.lt
  refine ⟨Nat.ne_of_gt (Nat.lt_of_lt_of_le h1 ha), ?_⟩
  cases e : h₀.get? a with
  | none => rfl
  | some o => exact absurd (Heap.lt_size e) (Nat.not_lt.mpr (Nat.le_trans F.above (Nat.le_trans (Nat.le_of_lt h1) ha)))
theorem fr_but {h₀ h h' : Heap} {L I : Addr} {m : Str → Option Value} (F : Fr h₀ L h m) (hk : ∀ b o, b ≠ I → h.get? b = some o → h'.get? b = some o) (hL : I ≠ L) (hI : h₀.get? I = none) : Fr h₀ L h' m :=
  ⟨F.ns.at' fun o e => hk L o hL.symm e, fun b o e => hk b o (fun q => by rw [q, hI] at e; cases e) (F.keep b o e), F.above⟩
theorem news_but {h₀ h h' : Heap} {L I : Addr} {news : List (Addr × Obj)} (N : News h₀ L h news) (hk : ∀ b o, b ≠ I → h.get? b = some o → h'.get? b = some o) (hI : ∀ p ∈ news, p.1 ≠ I) : News h₀ L h' news :=
  fun p hp => ⟨hk _ _ (hI p hp) (N p hp).1, (N p hp).2⟩

section
variable {prog : Program} {w : World} {A : Around} {E : Value → Shared → Prop} {s : Shared} {h₀ : Heap} {L : Addr} {m : Str → Option Value} {env : Env} {news : List (Addr × Obj)}
  {scope : Scope} {cl : List (Str × Addr)} {x : Str} {Q : Value → Shared → Prop}

/-- {kx: vx for x in d}: d a dict of texts; each line makes one line -/
theorem comp_dict_keys {kx vx iter : Expr} {px pos : Pos} {d : Addr} {l : List Ln} {ep : Nat} (f : Ln → Ln) (hh : A.handled = none) (F : Fr h₀ L s.heap m) (N : News h₀ L s.heap news)
    (hd : (d, dObj w l ep) ∈ news) (hn : (l.map (·.1)).Nodup) (lo : (d == sysModules) = false) (hlen : l.length ≤ 1000) (hfn : ((l.map f).map (·.1)).Nodup) (hlim : h₀.NoLimit)
    (hcl : closureFor scope env = pure cl) (hcell : ∀ y ∈ scope.names, y.2 ≠ .cell) (hk : scope.kind = .function) (hloc : ∀ y ∈ scope.names, y.2 = .local → scope.names.lookup y.1 = some .local) (hx : scope.names.lookup x = some .local)
    (hs : ∀ x, foldedSetIterable iter env x = pure x)
    (hit : ∀ Q : Value → Shared → Prop, Q (.ref d) s → wpAny (model prog w) A (eval iter env) Q E s)
    (stepk : ∀ e C m₂ own s₂, e ∈ l → s₂.heap.Ns C m₂ → m₂ x = some (.str e.1 e.2.1) → Fr h₀ L s₂.heap m → News h₀ L s₂.heap (own ++ news) →
      wpAny (model prog w) A (eval kx (compEnvC scope cl C env)) (fun y s₃ => y = .str (f e).1 (f e).2.1 ∧ ∃ h' tk, s₃ = { s₂ with heap := h', toks := tk } ∧ Fr h₀ L h' m ∧ News h₀ L h' (own ++ news)) (fun _ _ => False) s₂)
    (stepv : ∀ e C m₂ own s₂, e ∈ l → s₂.heap.Ns C m₂ → m₂ x = some (.str e.1 e.2.1) → Fr h₀ L s₂.heap m → News h₀ L s₂.heap (own ++ news) →
      wpAny (model prog w) A (eval vx (compEnvC scope cl C env)) (fun y s₃ => y = .str (f e).2.2.1 (f e).2.2.2 ∧ ∃ h' tk, s₃ = { s₂ with heap := h', toks := tk } ∧ Fr h₀ L h' m ∧ News h₀ L h' (own ++ news)) (fun _ _ => False) s₂)
    (fin : ∀ D h' tk, Fr h₀ L h' m → News h₀ L h' ((D, dObj w (l.map f) l.length) :: news) → (∀ q ∈ news, q.1 ≠ D) → (D == sysModules) = false → Q (.ref D) { s with heap := h', toks := tk }) :
    wpAny (model prog w) A (eval (.DictComp kx vx [⟨.Name x px, iter, [], 0⟩] scope pos) env) Q E s := by
  rw [arm_eval_DictComp]
  have hdg := (N _ hd).1
  have hll : (lnKvs l).length = l.length := by simp [lnKvs]
  refine wpAny_comprehension_free (use := none) rfl hs hcl hk hloc (hit _ (wpAny_pyIter_dict (knd := PySem.strKind prog w) lo (dObj_at hdg hn) ?_))
  rw [hll]
  have FI := F.push { cls := .type "dict_keyiterator", data := .fields #[.ref d, .int 0 0, .int l.length 0, .int ep 0] }
  have hI := Heap.get?_push_size s.heap (o := { cls := .type "dict_keyiterator", data := .fields #[.ref d, .int 0 0, .int l.length 0, .int ep 0] }) rfl
  have NI : News h₀ L (s.heap.push { cls := .type "dict_keyiterator", data := .fields #[.ref d, .int 0 0, .int l.length 0, .int ep 0] }) news := fun q hq => ⟨Heap.get?_push_of_some _ (N q hq).1, (N q hq).2⟩
  have zI : (s.heap.push { cls := .type "dict_keyiterator", data := .fields #[.ref d, .int 0 0, .int l.length 0, .int ep 0] }).objs.size = s.heap.objs.size + 1 := Heap.size_push ..
  generalize hHI : s.heap.push { cls := .type "dict_keyiterator", data := .fields #[.ref d, .int 0 0, .int l.length 0, .int ep 0] } = HI at FI hI NI zI ⊢
  refine wpAny_newObj_type (wpAny_newFunctionEnv hcell (by intro y hy; simp at hy) (fun h₁ hns₁ hsb₁ => ?_) hk)
  dsimp only at hns₁ hsb₁ ⊢
  have FD := FI.push { cls := .type "dict", dict := none, data := .dict #[] }
  have hDg := Heap.get?_push_size HI (o := { cls := .type "dict", dict := none, data := .dict #[] }) rfl
  have hI2 := Heap.get?_push_of_some { cls := .type "dict", dict := none, data := .dict #[] } hI
  have ND : News h₀ L (HI.push { cls := .type "dict", dict := none, data := .dict #[] }) news := fun q hq => ⟨Heap.get?_push_of_some _ (NI q hq).1, (NI q hq).2⟩
  have zD : (HI.push { cls := .type "dict", dict := none, data := .dict #[] }).objs.size = s.heap.objs.size + 2 := by rw [Heap.size_push, zI]
  rw [zI] at hDg ⊢
  generalize hHD : HI.push { cls := .type "dict", dict := none, data := .dict #[] } = HD at FD hDg hI2 ND zD hns₁ hsb₁ ⊢
  rw [zD] at hns₁ hsb₁ ⊢
  have keep₁ : ∀ b o, b < s.heap.objs.size + 2 → HD.get? b = some o → h₁.get? b = some o := fun b o hb e => hsb₁.extBut b o (Nat.ne_of_lt hb) (Heap.get?_push_of_some _ e)
  have szL := F.ns.lt
  have szn : ∀ q ∈ news, q.1 < s.heap.objs.size := fun q hq => Heap.lt_size (N q hq).1
  have F₁ : Fr h₀ L h₁ m := fr_but FD (fun b o hb e => keep₁ b o (by have := Heap.lt_size e; rw [zD] at this; exact this) e) (fr_fresh F (a := s.heap.objs.size + 2) (by omega)).1 (fr_fresh F (a := s.heap.objs.size + 2) (by omega)).2
  have N₁ : News h₀ L h₁ news := fun q hq => ⟨keep₁ _ _ (Nat.lt_trans (szn q hq) (by omega)) (ND q hq).1, (ND q hq).2⟩
  have freshI := fr_fresh F (a := s.heap.objs.size) (Nat.le_refl _)
  have freshD := fr_fresh F (a := s.heap.objs.size + 1) (by omega)
  have freshC := fr_fresh F (a := s.heap.objs.size + 2) (by omega)
  have nI : ∀ q ∈ news, q.1 ≠ s.heap.objs.size := fun q hq => Nat.ne_of_lt (szn q hq)
  have nD : ∀ q ∈ news, q.1 ≠ s.heap.objs.size + 1 := fun q hq => Nat.ne_of_lt (Nat.lt_trans (szn q hq) (by omega))
  have nC : ∀ q ∈ news, q.1 ≠ s.heap.objs.size + 2 := fun q hq => Nat.ne_of_lt (Nat.lt_trans (szn q hq) (by omega))
  have loD : (s.heap.objs.size + 1 == sysModules) = false := beq_eq_false_iff_ne.mpr (Nat.ne_of_gt (Nat.lt_of_lt_of_le (modules_low hlim) (Nat.le_trans F.above (Nat.le_of_lt (Nat.lt_trans szL (Nat.lt_succ_self _))))))
  generalize s.heap.objs.size = Z at *
  have e20 : (Z + 2 : Nat) ≠ Z := by omega
  have e02 : (Z : Nat) ≠ Z + 2 := by omega
  have e12 : (Z + 1 : Nat) ≠ Z + 2 := by omega
  have e21 : (Z + 2 : Nat) ≠ Z + 1 := by omega
  have e10 : (Z + 1 : Nat) ≠ Z := by omega
  have e01 : (Z : Nat) ≠ Z + 1 := by omega
  let cenv := compEnvC scope cl (Z + 2) env
  have hkx : cenv.kindOf x = some .local := lookup_relabel_local hx
  have hpk : (cenv.scope.kind == .class || (cenv.scope.kind == .module && cenv.locals != cenv.globals)) = false := by simp [cenv, compEnvC, relabel, hk]
  have loop : ∀ s₃ : Shared, s₃ = { s with heap := h₁, toks := s.toks + ([] : List (Str × Value)).length } →
      codeAny (model prog w) A (.compLoop (.DictComp kx vx [⟨.Name x px, iter, [], 0⟩] scope pos) 0 (.ref Z) (.ref (Z + 1)) cenv) (compPost (model prog w) A E none Q (.ref (Z + 1)) (Z + 2)) s₃ := by
    rintro s₃ rfl
    refine codeAny_compLoop_testsD (fun k s' => ∃ i h' tk m', s' = { s with heap := h', toks := tk } ∧ i ≤ l.length ∧ k = l.length + 1 - i ∧ IsKI h' Z d i l.length ep ∧ h'.Ns (Z + 2) m' ∧
      h'.get? (Z + 1) = some (dObj w ((l.take i).map f) i) ∧ Fr h₀ L h' m ∧ News h₀ L h' news) ?_ (l.length + 1)
      ⟨0, h₁, _, _, rfl, Nat.zero_le _, rfl, keep₁ _ _ (by omega) hI2, hns₁, by simpa [dObj] using keep₁ _ _ (by omega) hDg, F₁, N₁⟩
    rintro k s' ⟨i, h', tk, m', rfl, hi, rfl, hit', hns', hD', F', N'⟩
    have hdg' := (N' _ hd).1
    by_cases hlt : i < l.length
    · have hle : l[i]? = some l[i] := by simp [hlt]
      have hmem : l[i] ∈ l := List.getElem_mem hlt
      refine next_key (e := lnE w l[i]) hit' hdg' rfl (by simp) (by simp [hlt]) fun h₂ hit₂ hs₂ => ?_
      have k₂ : ∀ b o, b ≠ Z → h'.get? b = some o → h₂.get? b = some o := fun b o hb e => hs₂.extBut b o hb e
      have hns₂ := hns'.sameBut hs₂ e20
      refine wpAny_assign_Name (wpAny_storeName_local hkx hns₂ (fun h₃ hns₃ hs₃ => ?_) hpk)
      have k₃ : ∀ b o, b ≠ Z + 2 → h₂.get? b = some o → h₃.get? b = some o := fun b o hb e => hs₃.extBut b o hb e
      have F₃ : Fr h₀ L h₃ m := fr_but (fr_but F' k₂ freshI.1 freshI.2) k₃ freshC.1 freshC.2
      have N₃ : News h₀ L h₃ news := news_but (news_but N' k₂ nI) k₃ nC
      have hit₃ : IsKI h₃ Z d (i + 1) l.length ep := k₃ _ _ e02 hit₂
      have hD₃ := k₃ _ _ e12 (k₂ _ _ e10 hD')
      obtain ⟨oC, esC, epC, hC, r⟩ := id hns₃
      have own : News h₀ L h₃ ([(Z, { cls := .type "dict_keyiterator", dict := none, data := .fields #[.ref d, .int (i + 1 : Nat) 0, .int l.length 0, .int ep 0], slots := #[] }), (Z + 1, dObj w ((l.take i).map f) i), (Z + 2, oC)] ++ news) := by
        intro q hq
        simp only [List.cons_append, List.nil_append, List.mem_cons] at hq
        rcases hq with rfl | rfl | rfl | hq
        · exact ⟨hit₃, freshI.1, freshI.2⟩
        · exact ⟨hD₃, freshD.1, freshD.2⟩
        · exact ⟨hC, freshC.1, freshC.2⟩
        · exact N₃ q hq
      refine wpAny_pure ?_
      simp only [if_true]
      refine wpAny_mono (stepk l[i] (Z + 2) _ _ { s with heap := h₃, toks := tk + 1 } hmem hns₃ (by simp [lnE]) F₃ own) ?_ (fun _ _ q => q.elim)
      rintro y s₄ ⟨rfl, h₄, tk₄, rfl, F₄, N₄⟩
      have hC₄ := (N₄ (Z + 2, oC) (.tail _ (.tail _ (.head _)))).1
      refine wpAny_mono (stepv l[i] (Z + 2) _ _ { s with heap := h₄, toks := tk₄ } hmem ⟨oC, esC, epC, hC₄, r⟩ (by simp [lnE]) F₄ N₄) ?_ (fun _ _ q => q.elim)
      rintro y s₅ ⟨rfl, h₅, tk₅, rfl, F₅, N₅⟩
      have hC₅ := (N₅ (Z + 2, oC) (.tail _ (.tail _ (.head _)))).1
      have hI₅ := (N₅ (Z, _) (.head _)).1
      have hD₅ := (N₅ (Z + 1, _) (.tail _ (.head _))).1
      have htk : (l.take (i + 1)).map f = (l.take i).map f ++ [f l[i]] := by rw [List.take_add_one, hle, List.map_append]; rfl
      refine dictSet_new (k := (f l[i]).1) (t := (f l[i]).2.1) (v := (f l[i]).2.2.1) (u := (f l[i]).2.2.2) hD₅ ?_ (by rw [sizeLine_eq, List.length_map, List.length_take]; omega) fun h₆ hD₆ hs₆ => ?_
      · have hsub : (((l.take (i + 1)).map f).map (·.1)).Nodup := by
          rw [List.map_take, List.map_take]
          exact hfn.sublist (List.take_sublist ..)
        rw [htk, List.map_append, List.nodup_append] at hsub
        intro hin
        exact hsub.2.2 _ hin _ (by simp) rfl
      · have k₆ : ∀ b o, b ≠ Z + 1 → h₅.get? b = some o → h₆.get? b = some o := fun b o hb e => hs₆.extBut b o hb e
        have N₅' : News h₀ L h₅ news := fun q hq => N₅ q (by simp [hq])
        exact ⟨_, by omega, i + 1, h₆, _, _, rfl, hlt, rfl, k₆ _ _ e01 hI₅, ⟨oC, esC, epC, k₆ _ _ e21 hC₅, r⟩, by rw [htk]; exact hD₆, fr_but F₅ k₆ freshD.1 freshD.2, news_but N₅' k₆ nD⟩
    · have hin : i = l.length := by omega
      subst hin
      have hit'' : h'.IsKeyIter Z d l.length (lnKvs l).length ep := by rw [hll]; exact hit'.key
      refine wpAny_pyNext_dict_end (knd := PySem.strKind prog w) (kvs := lnKvs l) hh hit'' (dObj_at hdg' hn) (by simp [lnKvs]) fun h₂ hs₂ => ?_
      refine ⟨m', hns'.extBut hs₂ e20, fun h₃ hs₃ => ?_⟩
      have k₂ : ∀ b o, b ≠ Z → h'.get? b = some o → h₂.get? b = some o := fun b o hb e => hs₂ b o hb e
      have k₃ : ∀ b o, b ≠ Z + 2 → h₂.get? b = some o → h₃.get? b = some o := fun b o hb e => hs₃.extBut b o hb e
      refine fin (Z + 1) h₃ tk (fr_but (fr_but F' k₂ freshI.1 freshI.2) k₃ freshC.1 freshC.2) ?_ nD loD
      intro q hq
      rcases List.mem_cons.mp hq with rfl | hq
      · rw [List.take_length] at hD'
        exact ⟨k₃ _ _ e12 (k₂ _ _ e10 hD'), freshD⟩
      · exact news_but (news_but N' k₂ nI) k₃ nC q hq
  have hKI : IsKI h₁ Z d 0 l.length ep := keep₁ _ _ (by omega) hI2
  exact codeAny_compStart_dict (loop _ rfl) (wpAny_pyIter_keyiter (IsKI.key hKI) (loop _ rfl))
end
end Mine
end

section
open PySem PySem.W PyProof.Rows PyProof.V PySem.Calls
set_option maxRecDepth 100000
namespace Mine

/-- written lines, their tokens drawn from t on -/
def lnFrom : Nat → List (Str × Str) → List Ln
  | _, [] => []
  | t, (k, v) :: r => (k, t, v, t + 1) :: lnFrom (t + 2) r
theorem lnFrom_length : ∀ (t : Nat) (r : List (Str × Str)), (lnFrom t r).length = r.length
  | _, [] => rfl
  | t, _ :: r => by simp [lnFrom, lnFrom_length (t + 2) r]
theorem lnFrom_ok : ∀ (t : Nat) (r : List (Str × Str)), 1 ≤ t → ∀ e ∈ lnFrom t r, LnOk e
  | _, [], _, e, he => nomatch he
  | t, (k, v) :: r, h, e, he => by
    rcases List.mem_cons.mp he with rfl | he
    · exact ⟨Nat.pos_iff_ne_zero.mp h, Nat.succ_ne_zero _, Nat.ne_of_lt (Nat.lt_succ_self _)⟩
    · exact lnFrom_ok (t + 2) r (by omega) e he
theorem lnFrom_reps : ∀ (t : Nat) (r : List (Str × Str)), lnReps (lnFrom t r) = r
  | _, [] => rfl
  | t, (k, v) :: r => by
    have := lnFrom_reps (t + 2) r
    simp only [lnReps] at this
    simp [lnFrom, lnReps, this]
theorem lnFrom_keys (t : Nat) (r : List (Str × Str)) : (lnFrom t r).map (·.1) = r.map (·.1) := by
  have := congrArg (List.map (·.1)) (lnFrom_reps t r)
  simpa [lnReps, Function.comp_def] using this
def lnVals (l : List Ln) : List (Value × Value) := l.map fun e => (.str e.1 e.2.1, .str e.2.2.1 e.2.2.2)

inductive DPairs : List (Option Expr) → List Expr → List (Str × Str) → Prop
  | nil : DPairs [] [] []
  | cons {k v : Str} {n1 n2 : Nat} {p1 p2 : Pos} {ks : List (Option Expr)} {vs : List Expr} {r : List (Str × Str)} : DPairs ks vs r → DPairs (some (.Constant (.str k) n1 p1) :: ks) (.Constant (.str v) n2 p2 :: vs) ((k, v) :: r)
theorem DPairs.some {ks : List (Option Expr)} {vs : List Expr} {r : List (Str × Str)} (h : DPairs ks vs r) : ks.all (·.isSome) = true := by induction h with | nil => rfl | cons _ ih => simpa using ih
theorem DPairs.len {ks : List (Option Expr)} {vs : List Expr} {r : List (Str × Str)} (h : DPairs ks vs r) : ks.length = vs.length ∧ ks.length = r.length := by induction h with | nil => exact ⟨rfl, rfl⟩ | cons _ ih => simp [ih.1, ← ih.2]

section
variable {prog : Program} {w : World} {A : Around} {E : Value → Shared → Prop} {env : Env}

theorem pairs_consts {ks : List (Option Expr)} {vs : List Expr} {r : List (Str × Str)} (h : DPairs ks vs r) {pos : Pos} : ∀ {s : Shared} {Q : List (Value × Value) → Shared → Prop}, Q (lnVals (lnFrom s.toks r)) { s with toks := s.toks + 2 * r.length } →
    wpAny (model prog w) A (evalPairs (pairTrees ks vs env pos)) Q E s := by
  induction h with
  | nil => intro s Q hQ; exact pairTrees_nil_walk (by simpa [lnVals, lnFrom] using hQ)
  | cons _ ih =>
    intro s Q hQ
    refine pairTrees_cons_walk (Constant_str (Constant_str (ih ?_)))
    simp only [lnVals, lnFrom, List.map_cons, List.length_cons] at hQ ⊢
    have e : s.toks + 1 + 1 = s.toks + 2 := rfl
    have e2 : ∀ n : Nat, s.toks + 2 + 2 * n = s.toks + 2 * (n + 1) := fun n => by omega
    rw [e, e2]; exact hQ

theorem store_lines {d : Addr} : ∀ (l acc : List Ln) (s : Shared) (ep : Nat) (Q : PUnit → Shared → Prop), s.heap.get? d = some (dObj w acc ep) → ((acc ++ l).map (·.1)).Nodup → acc.length + l.length ≤ 1000 →
    (∀ h', h'.get? d = some (dObj w (acc ++ l) (ep + l.length)) → Heap.SameBut d s.heap h' → Q PUnit.unit { s with heap := h', toks := s.toks + l.length }) →
    wpAny (model prog w) A (forIn (lnVals l) PUnit.unit fun (x : Value × Value) (_ : PUnit) => (do dictSet d x.1 x.2; pure (ForInStep.yield PUnit.unit) : Sem (ForInStep PUnit))) Q E s
  | [], acc, s, ep, Q, hd, _, _, hQ => by
    show wpAny _ _ (forIn [] _ _) _ _ _
    rw [List.forIn_nil]
    exact wpAny_pure (by simpa using hQ s.heap (by simpa using hd) (Heap.SameBut.refl _ _))
  | e :: r, acc, s, ep, Q, hd, hn, hl, hQ => by
    show wpAny _ _ (forIn ((Value.str e.1 e.2.1, Value.str e.2.2.1 e.2.2.2) :: lnVals r) _ _) _ _ _
    rw [List.forIn_cons]
    have hn' : e.1 ∉ acc.map (·.1) := by
      rw [List.map_append, List.nodup_append] at hn
      intro hin
      exact hn.2.2 _ hin e.1 (by simp) rfl
    refine wpAny_bind (wpAny_bind (dictSet_new hd hn' (by rw [sizeLine_eq]; simp at hl; omega) fun h₁ hd₁ hs₁ => wpAny_pure ?_))
    refine store_lines r (acc ++ [e]) _ (ep + 1) Q hd₁ (by simpa using hn) (by simp at hl ⊢; omega) fun h' hd' hs' => ?_
    have := hQ h' (by simpa [Nat.add_assoc, Nat.add_comm 1] using hd') (hs₁.trans hs')
    simpa [Nat.add_assoc, Nat.add_comm 1] using this

/-- a display of written texts -/
theorem ev_dict {ks : List (Option Expr)} {vs : List Expr} {r : List (Str × Str)} {pos : Pos} {s : Shared} {Q : Value → Shared → Prop} {h₀ : Heap} {L : Addr} {m : Str → Option Value} {news : List (Addr × Obj)}
    (F : Fr h₀ L s.heap m) (N : News h₀ L s.heap news) (hlim : h₀.NoLimit) (h : DPairs ks vs r) (h0 : r ≠ []) (hlen : r.length ≤ 15) (hn : (r.map (·.1)).Nodup)
    (hQ : ∀ h' tk, Fr h₀ L h' m → News h₀ L h' ((s.heap.objs.size, dObj w (lnFrom s.toks r) r.length) :: news) → (∀ q ∈ news, q.1 < s.heap.objs.size) → (s.heap.objs.size == sysModules) = false → s.toks ≤ tk → Q (.ref s.heap.objs.size) { s with heap := h', toks := tk }) :
    wpAny (model prog w) A (eval (.Dict ks vs pos) env) Q E s := by
  have hl := h.len
  have hpl := pairTrees_length ks vs env pos h.some hl.1
  rw [arm_eval_Dict, zip_pairTrees ks vs env pos h.some hl.1, dictDisplay_pairs _ (by intro e; rw [e] at hpl; exact h0 (List.length_eq_zero_iff.mp (by rw [← hl.2, ← hpl]; rfl))) (by rw [hpl, hl.2]; omega)]
  refine wpAny_bind (wpAny_standAt (wpAny_bind ?_))
  unfold subDict
  refine wpAny_bind (wpAny_alloc (wpAny_bind (wpAny_holding ?_)))
  rw [if_pos (by rw [hpl, hl.2]; exact hlen)]
  refine wpAny_bind (pairs_consts h (wpAny_holding (wpAny_bind ?_)))
  have hd := Heap.get?_push_size s.heap (o := { cls := .type "dict", data := .dict #[] }) rfl
  refine store_lines (lnFrom s.toks r) [] _ 0 _ hd (by rw [List.nil_append, lnFrom_keys]; exact hn) (by simp [lnFrom_length]; omega) fun h' hd' hs' => ?_
  refine wpAny_pure (wpAny_pure (wpAny_pure ?_))
  rw [List.nil_append, Nat.zero_add, lnFrom_length] at hd'
  rw [lnFrom_length]
  have szn : ∀ q ∈ news, q.1 < s.heap.objs.size := fun q hq => Heap.lt_size (N q hq).1
  have hfr := fr_fresh F (a := s.heap.objs.size) (Nat.le_refl _)
  have kp : ∀ b o, b ≠ s.heap.objs.size → (s.heap.push { cls := .type "dict", data := .dict #[] }).get? b = some o → h'.get? b = some o := fun b o hb e => hs'.extBut b o hb e
  refine hQ h' _ (fr_but (F.push _) kp hfr.1 hfr.2) ?_ szn ((F.notModules (modules_low hlim))) (by show s.toks ≤ s.toks + 2 * r.length + r.length; omega)
  intro q hq
  rcases List.mem_cons.mp hq with rfl | hq
  · exact ⟨hd', hfr⟩
  · exact ⟨kp _ _ (Nat.ne_of_lt (szn q hq)) (Heap.get?_push_of_some _ (N q hq).1), (N q hq).2⟩
end
end Mine
end

section
open PySem PySem.W PyProof.Rows PyProof.V PySem.Calls
set_option maxRecDepth 100000
namespace Mine

theorem upd_ne {m : Str → Option Value} {x y : Str} {v : Value} (h : y ≠ x) : upd m x v y = m y := by simp [upd, h]

def strVals : Nat → List Str → List Value
  | _, [] => []
  | t, x :: r => .str x t :: strVals (t + 1) r
theorem strVals_length : ∀ (t : Nat) (r : List Str), (strVals t r).length = r.length
  | _, [] => rfl
  | t, _ :: r => by simp [strVals, strVals_length (t + 1) r]
theorem strVals_at : ∀ (r : List Str) (t i : Nat) (x : Str), r[i]? = some x → (strVals t r)[i]? = some (.str x (t + i))
  | _ :: r, t, 0, x, h => by simp at h; subst h; rfl
  | _ :: r, t, i + 1, x, h => by
    have := strVals_at r (t + 1) i x (by simpa using h)
    simp only [strVals, List.getElem?_cons_succ]
    rw [this, show (t + 1 + i : Nat) = t + (i + 1) by omega]
inductive SConsts : List Expr → List Str → Prop
  | nil : SConsts [] []
  | cons {x : Str} {n : Nat} {p : Pos} {es : List Expr} {xs : List Str} : SConsts es xs → SConsts (.Constant (.str x) n p :: es) (x :: xs)

section
variable {prog : Program} {w : World} {M : Model} {A : Around} {E : Value → Shared → Prop} {env : Env} {h₀ : Heap} {L : Addr} {m : Str → Option Value} {news : List (Addr × Obj)}

theorem spliced_consts {es : List Expr} {xs : List Str} (h : SConsts es xs) {pos : Pos} : ∀ {s : Shared} {Q : List Value → Shared → Prop}, Q (strVals s.toks xs) { s with toks := s.toks + xs.length } → wpAny M A (spliced (backTo pos (starEach es env))) Q E s := by
  induction h with
  | nil => intro s Q hQ; exact spliced_none (by simpa [strVals] using hQ)
  | cons _ ih =>
    intro s Q hQ
    refine spliced_more (Constant_str (ih ?_)) rfl
    simp only [strVals, List.length_cons] at hQ ⊢
    have e : ∀ n : Nat, s.toks + 1 + n = s.toks + (n + 1) := fun n => by omega
    rw [e]; exact hQ

/-- ['a', 'b', ..] -/
theorem ev_strs {es : List Expr} {xs : List Str} {pos : Pos} {s : Shared} {Q : Value → Shared → Prop} (F : Fr h₀ L s.heap m) (N : News h₀ L s.heap news) (h : SConsts es xs) (hl : xs.length ≤ 1000)
    (hQ : ∀ h' tk, Fr h₀ L h' m → News h₀ L h' ((s.heap.objs.size, ({ cls := .type "list", data := .seq (strVals s.toks xs).toArray } : Obj)) :: news) → s.toks ≤ tk → Q (.ref s.heap.objs.size) { s with heap := h', toks := tk }) :
    wpAny M A (eval (.List es pos) env) Q E s := by
  refine List_ (spliced_consts h ?_)
  refine newList_N (s := { s with toks := s.toks + xs.length }) F N (fun h' F' N' => hQ h' _ F' N' (Nat.le_add_right _ _)) ?_
  rw [strVals_length, sizeLine_eq]; omega

/-- an item of a list -/
theorem tail_list {l : Addr} {vs : List Value} {k : Int} {t : Tok} {v : Value} {value slice : Expr} {s : Shared} {Q : Value → Shared → Prop} (hl : s.heap.IsList l vs.toArray) (h0 : 0 ≤ k) (hk : k < 2 ^ 63) (hx : vs[k.toNat]? = some v)
    (hs : subscripted slice false (.ref l) (.int k t) = operate [.ref l, .int k t] (getItem (.ref l) (.int k t))) (h : Q v s) :
    wpAny (model prog w) A (subscriptTail value slice (.ref l) (.int k t)) Q E s :=
  tail_any hl.typeIs slot_list_getitem.lookup (wpAny_getItem_list hl h0 hk (by simpa using hx) h) hs
end
end Mine
end

section
open PySem PySem.W PyProof.Rows PyProof.V PySem.Calls
set_option maxRecDepth 100000
namespace Mine
section
variable {prog : Program} {w : World} {M : Model} {A : Around} {E : Value → Shared → Prop} {s : Shared} {h₀ : Heap} {L a : Addr} {m : Str → Option Value}
  {cn : Str} {cs : Scope} {ccd : Value} {cl : List (Str × Addr)} {news : List (Addr × Obj)} {Q : Flow → Shared → Prop} {env : Env} {rest : List Stmt}

/-- x = value, and what follows -/
theorem seq_let {x : Str} {px pos : Pos} {value : Expr} (hs : swapsWith value (some (.Name x px)) pos.line (envX cn cs L a ccd cl) = pure false)
    (hk : cs.kind = .function) (hx : (envX cn cs L a ccd cl).kindOf x = some .local)
    (h : wpAny M A (eval value (envX cn cs L a ccd cl)) (fun v s₁ => ∃ m news, Fr h₀ L s₁.heap m ∧ News h₀ L s₁.heap news ∧ ∀ h', Fr h₀ L h' (upd m x v) → News h₀ L h' news →
      wpAny M A (execs rest (envX cn cs L a ccd cl)) Q E { s₁ with heap := h', toks := s₁.toks + 1 }) E s) :
    wpAny M A (execs (.Assign [.Name x px] value pos :: rest) (envX cn cs L a ccd cl)) Q E s := by
  refine wpAny_execs_cons ?_
  refine wpAny_Assign_Name (wpAny_mono h ?_ fun _ _ x => x) hs
  rintro v s₁ ⟨m, news, F, N, k⟩
  exact storeX_L F N (fun h' F' N' => k h' F' N') hk hx

theorem seq_ret {e : Expr} {pos : Pos} (h : wpAny M A (eval e env) (fun v s₁ => Q (.ret v) s₁) E s) : wpAny M A (execs (.Return (some e) pos :: rest) env) Q E s :=
  wpAny_execs_cons (wpAny_Return_some h)
theorem seq_if {test : Expr} {body orelse : List Stmt} {pos : Pos} (h : wpAny M A (PySem.isTrue test env (eval test env)) (fun b s₂ => if b = true then
      wpAny M A (execs body env) (fun f s' => match f with | .next => wpAny M A (execs rest env) Q E s' | f => Q f s') E s₂
      else wpAny M A (execs orelse env) (fun f s' => match f with | .next => wpAny M A (execs rest env) Q E s' | f => Q f s') E s₂) E s) :
    wpAny M A (execs (.If test body orelse pos :: rest) env) Q E s :=
  wpAny_execs_cons (wpAny_If h)

/-- x += value: texts -/
theorem seq_aug_str {x X : Str} {t : Tok} {px pos : Pos} {value : Expr} (F : Fr h₀ L s.heap m) (hm : m x = some (.str X t))
    (hk : cs.kind = .function) (hx : (envX cn cs L a ccd cl).kindOf x = some .local)
    (h : wpAny (model prog w) A (eval value (envX cn cs L a ccd cl)) (fun v s₁ => ∃ Y u m news, v = .str Y u ∧ X.length + Y.length ≤ sizeLine ∧ Fr h₀ L s₁.heap m ∧ News h₀ L s₁.heap news ∧ ∀ h' t' tk, Fr h₀ L h' (upd m x (.str (X ++ Y) t')) → News h₀ L h' news →
      wpAny (model prog w) A (execs rest (envX cn cs L a ccd cl)) Q E { s₁ with heap := h', toks := tk }) E s) :
    wpAny (model prog w) A (execs (.AugAssign (.Name x px) .Add value pos :: rest) (envX cn cs L a ccd cl)) Q E s := by
  refine wpAny_execs_cons ?_
  refine wpAny_AugAssign_Name (wpAny_loadName_local hk hx F.ns hm (wpAny_mono h ?_ fun _ _ x => x))
  rintro v s₁ ⟨Y, u, m, news, rfl, hsz, F₁, N₁, k⟩
  refine iadd_str (fun t' tk => ?_) hsz
  exact storeX_L (s := { s₁ with toks := tk }) F₁ N₁ (fun h' F' N' => k h' t' (tk + 1) F' N') hk hx

/-- a frame's name -/
theorem nm_L {x : Str} {pos : Pos} {v : Value} {Q : Value → Shared → Prop} (F : Fr h₀ L s.heap m) (hv : m x = some v) (hk : cs.kind = .function) (hx : (envX cn cs L a ccd cl).kindOf x = some .local) (hd : (x == ("__debug__" : Str)) = false) (h : Q v s) :
    wpAny M A (eval (.Name x pos) (envX cn cs L a ccd cl)) Q E s := nameX_L F hv h hk hx hd

/-- for x in xl: a list that stands; no turn leaves the loop early -/
theorem for_list_name {x xl : Str} {px pl pos : Pos} {body : List Stmt} {l : Addr} {vs : List Value} (J : Nat → (Str → Option Value) → List (Addr × Obj) → Prop)
    (hh : A.handled = none) (F : Fr h₀ L s.heap m) (N : News h₀ L s.heap news) (hm : m xl = some (.ref l)) (hl : ListAt h₀ news l vs) (h0 : J 0 m news)
    (hk : cs.kind = .function) (hx : (envX cn cs L a ccd cl).kindOf x = some .local) (hxl : (envX cn cs L a ccd cl).kindOf xl = some .local) (hd : (xl == ("__debug__" : Str)) = false)
    (hs : ∀ v, foldedSetIterable (.Name xl pl) (envX cn cs L a ccd cl) v = pure v)
    (step : ∀ i v m₁ news₁ s₁ own I, vs[i]? = some v → J i m₁ news₁ → (∀ p ∈ news₁, p.1 ≠ I) → (∀ p ∈ own, p.1 = I ∨ p.1 = l) → Fr h₀ L s₁.heap (upd m₁ x v) → News h₀ L s₁.heap (own ++ news₁) → 1 ≤ s₁.toks →
      wpAny (model prog w) A (execs body (envX cn cs L a ccd cl)) (fun fl s₂ => fl = .next ∧ ∃ h' tk m' news', s₂ = { s₁ with heap := h', toks := tk } ∧ Fr h₀ L h' m' ∧ News h₀ L h' (own ++ news') ∧ (∀ p ∈ news', p.1 ≠ I) ∧ J (i + 1) m' news') (fun _ _ => False) s₁)
    (done : ∀ h' tk m' news', Fr h₀ L h' m' → News h₀ L h' news' → J vs.length m' news' → s.toks ≤ tk → wpAny (model prog w) A (execs rest (envX cn cs L a ccd cl)) Q (fun _ _ => False) { s with heap := h', toks := tk }) :
    wpAny (model prog w) A (execs (.For (.Name x px) (.Name xl pl) body [] pos :: rest) (envX cn cs L a ccd cl)) Q (fun _ _ => False) s := by
  refine wpAny_execs_cons (toksQ ?_)
  refine For_turns (h₀ := h₀) (m := m) F ?_ hs PassesOwn.never
  refine nameX_L F hm ?_ hk hxl hd
  refine iter_list J hh F N hl h0 ?_ done
  intro i v m₁ news₁ h₁ tk₁ own I hv hJ hoff hown F₁ N₁
  refine assign_Name (storeX_L (s := { s with heap := h₁, toks := tk₁ }) F₁ N₁ (fun h₂ F₂ N₂ => ?_) hk hx)
  refine wpAny_mono (step i v m₁ news₁ { s with heap := h₂, toks := tk₁ + 1 } own I hv hJ hoff hown F₂ N₂ (by show 1 ≤ tk₁ + 1; omega)) ?_ (fun _ _ x => x)
  rintro fl s₂ ⟨rfl, h₃, tk₃, m₃, news₃, rfl, F₃, N₃, hoff₃, hJ₃⟩
  exact .next ⟨rfl, h₃, tk₃, m₃, news₃, rfl, F₃, N₃, fun p hp hI => hoff₃ p hp (List.mem_singleton.mp hI), hJ₃⟩

/-- a frame's name, the sides closed where it stands -/
theorem nm {x : Str} {pos : Pos} {v : Value} {Q : Value → Shared → Prop} (F : Fr h₀ L s.heap m) (hv : m x = some v) (h : Q v s)
    (hk : cs.kind = .function := by rfl) (hx : (envX cn cs L a ccd cl).kindOf x = some .local := by kernel_rfl) (hd : (x == ("__debug__" : Str)) = false := by decide +kernel) :
    wpAny M A (eval (.Name x pos) (envX cn cs L a ccd cl)) Q E s := nameX_L F hv h hk hx hd
theorem lt {x : Str} {px pos : Pos} {value : Expr} (h₀ : Heap)
    (h : wpAny M A (eval value (envX cn cs L a ccd cl)) (fun v s₁ => ∃ m news, Fr h₀ L s₁.heap m ∧ News h₀ L s₁.heap news ∧ ∀ h', Fr h₀ L h' (upd m x v) → News h₀ L h' news →
      wpAny M A (execs rest (envX cn cs L a ccd cl)) Q E { s₁ with heap := h', toks := s₁.toks + 1 }) E s)
    (hs : swapsWith value (some (.Name x px)) pos.line (envX cn cs L a ccd cl) = pure false := by rfl)
    (hk : cs.kind = .function := by rfl) (hx : (envX cn cs L a ccd cl).kindOf x = some .local := by kernel_rfl) :
    wpAny M A (execs (.Assign [.Name x px] value pos :: rest) (envX cn cs L a ccd cl)) Q E s := seq_let hs hk hx h
theorem ev_fdiv {l : Expr} {c : Int} {n : Nat} {p pos : Pos} {Q : Value → Shared → Prop} (h : wpAny (model prog w) A (eval l env) (fun v s₁ => ∃ i t, v = .int i t ∧ ∀ t', Q (.int (i.fdiv c) t') { s₁ with toks := s₁.toks + 1 + 1 }) E s)
    (hc : c ≠ 0 := by decide) (hp : c.natAbs.log2 < 9000 := by decide +kernel) : wpAny (model prog w) A (eval (.BinOp l .FloorDiv (.Constant (.int c) n p) pos) env) Q E s := by
  refine wpAny_BinOp (wpAny_mono h ?_ fun _ _ x => x)
  rintro v s₁ ⟨i, t, rfl, k⟩
  exact wpAny_Constant_int (floordiv_int hc (k _) (.inl (PyProof.noPylong_of_log2 hp)))
theorem ev_fmod {l : Expr} {c : Int} {n : Nat} {p pos : Pos} {Q : Value → Shared → Prop} (h : wpAny (model prog w) A (eval l env) (fun v s₁ => ∃ i t, v = .int i t ∧ ∀ t', Q (.int (i.fmod c) t') { s₁ with toks := s₁.toks + 1 + 1 }) E s)
    (hc : c ≠ 0 := by decide) : wpAny (model prog w) A (eval (.BinOp l .Mod (.Constant (.int c) n p) pos) env) Q E s := by
  refine wpAny_BinOp (wpAny_mono h ?_ fun _ _ x => x)
  rintro v s₁ ⟨i, t, rfl, k⟩
  exact wpAny_Constant_int (mod_int hc (k _))

/-- a built-in of one argument, called by its name -/
theorem call_b1 {K : Frag} {p : Program} {loose : List Str} {mean : ExcName → Option Value} {mg mb : Str → Option Value} {A₀ : Around} {base : Heap} {outer : List Env} {env' : Env} {x : Str} {px pos : Pos} {id : String} {e : Expr} {Q : Value → Shared → Prop}
    (S : Site K p loose mean mg mb A env' A₀ base outer h₀ L) (F : Fr h₀ L s.heap m) (he : nsIn K mainGlobals x = some none) (hv : bootBuiltins x = some (.builtin id))
    (h : wpAny (model prog w) A (eval e (envX cn cs L a ccd cl)) (fun v s₁ => wpAny (model prog w) A (call (.builtin id) [v]) Q E s₁) E s)
    (hn : x ≠ "__name__" := by decide +kernel) (hk : cs.kind = .function := by rfl) (hx : (envX cn cs L a ccd cl).kindOf x = some .globalImplicit := by kernel_rfl) (hd : (x == ("__debug__" : Str)) = false := by decide +kernel)
    (he1 : starEach [e] (envX cn cs L a ccd cl) = [(false, eval e (envX cn cs L a ccd cl))] := by rfl) :
    wpAny (model prog w) A (eval (.Call (.Name x px) [e] [] pos) (envX cn cs L a ccd cl)) Q E s := by
  refine Call_ (nameX_B F S.X (topRead_of S.T) he hv hn ?_ hk hx hd)
  exact PyProof.Rows.callWith_builtin1 (spliced_more (wpAny_mono h (fun v s₁ h₁ => spliced_none h₁) fun _ _ x => x) he1) he1 rfl
end
end Mine
end

section
open PySem PySem.W PyProof.Rows PyProof.V PySem.Calls
set_option maxRecDepth 100000
namespace Mine

/-- a law's end -/
def LawEnd (g : Heap) (L : Addr) (s : Shared) (fl : Flow) (s' : Shared) : Prop := ∃ h' tk m', fl = .ret (.bool true) ∧ s' = { s with heap := h', toks := tk } ∧ Fr g L h' m'
/-- what a law's walk has to show of its end -/
theorem law_out {M : Model} {A : Around} {t : Sem Flow} {Q : Flow → Shared → Prop} {E : Value → Shared → Prop} {s : Shared} {h₀ : Heap} {L : Addr} {m : Str → Option Value} (_F : Fr h₀ L s.heap m)
    (h : wpAny M A t (LawEnd h₀ L s) (fun _ _ => False) s)
    (k : ∀ h' tk m', Fr h₀ L h' m' → Q (.ret (.bool true)) { s with heap := h', toks := tk }) : wpAny M A t Q E s := by
  refine wpAny_mono h ?_ (fun _ _ x => x.elim)
  rintro fl s' ⟨h', tk, m', rfl, rfl, F⟩
  exact k h' tk m' F

/-- texts of which each is told -/
theorem strs_told {f : Str → Str} : ∀ {ys : List Value} {ps : List Str}, ys.length = ps.length → (∀ (i : Nat) (y : Value) (p : Str), ys[i]? = some y → ps[i]? = some p → ∃ t, y = Value.str (f p) t) →
    ∃ l : List (Str × Tok), ys = strValues l ∧ l.map (·.1) = ps.map f
  | [], [], _, _ => ⟨[], rfl, rfl⟩
  | y :: ys, p :: ps, hl, h => by
    obtain ⟨t, rfl⟩ := h 0 y p rfl rfl
    obtain ⟨l, rfl, e⟩ := strs_told (f := f) (ys := ys) (ps := ps) (by simpa using hl) fun i y p hy hp => h (i + 1) y p (by simpa using hy) (by simpa using hp)
    exact ⟨(f p, t) :: l, rfl, by simp [e]⟩

section
variable {prog : Program} {w : World} {M : Model} {A : Around} {E : Value → Shared → Prop} {s : Shared} {h₀ : Heap} {L a : Addr} {m : Str → Option Value}
  {cn : Str} {cs : Scope} {ccd : Value} {cl : List (Str × Addr)} {news : List (Addr × Obj)}

theorem ev_dict0 {ks : List (Option Expr)} {vs : List Expr} {r : List (Str × Str)} {pos : Pos} {env : Env} {Q : Value → Shared → Prop}
    (F : Fr h₀ L s.heap m) (N : News h₀ L s.heap news) (hlim : h₀.NoLimit) (h : DPairs ks vs r) (hlen : r.length ≤ 15) (hn : (r.map (·.1)).Nodup)
    (hQ : ∀ h' tk, Fr h₀ L h' m → News h₀ L h' ((s.heap.objs.size, dObj w (lnFrom s.toks r) r.length) :: news) → (∀ q ∈ news, q.1 < s.heap.objs.size) → (s.heap.objs.size == sysModules) = false → s.toks ≤ tk → Q (.ref s.heap.objs.size) { s with heap := h', toks := tk }) :
    wpAny (model prog w) A (eval (.Dict ks vs pos) env) Q E s := by
  by_cases h0 : r = []
  · subst h0
    cases h
    refine wpAny_Dict_empty (hQ _ _ (F.push _) (N.push F _) (fun q hq => Heap.lt_size (N q hq).1) (F.notModules (modules_low hlim)) (Nat.le_refl _))
  · exact ev_dict F N hlim h h0 hlen hn hQ

def tupO (vs : List Value) : Obj := { cls := .type "tuple", data := .seq vs.toArray }
def lstO (vs : List Value) : Obj := { cls := .type "list", data := .seq vs.toArray }

/-- for TARGET in xl: a list that stands; a turn may come back with True -/
theorem for_list_t {target : Expr} {xl : Str} {pl pos : Pos} {body rest : List Stmt} {l : Addr} {vs : List Value} {Q : Flow → Shared → Prop} (J : Nat → (Str → Option Value) → List (Addr × Obj) → Prop)
    (hh : A.handled = none) (F : Fr h₀ L s.heap m) (N : News h₀ L s.heap news) (hm : m xl = some (.ref l)) (hl : ListAt h₀ news l vs) (h0 : J 0 m news)
    (hk : cs.kind = .function) (hxl : (envX cn cs L a ccd cl).kindOf xl = some .local) (hd : (xl == ("__debug__" : Str)) = false)
    (hs : ∀ v, foldedSetIterable (.Name xl pl) (envX cn cs L a ccd cl) v = pure v)
    (step : ∀ i v m₁ news₁ h₁ tk₁ own I, vs[i]? = some v → J i m₁ news₁ → (∀ p ∈ news₁, p.1 ≠ I) → (∀ p ∈ own, p.1 = I ∨ p.1 = l) → Fr h₀ L h₁ m₁ → News h₀ L h₁ (own ++ news₁) →
      wpAny (model prog w) A (assign target (envX cn cs L a ccd cl) v) (fun _ s₂ => wpAny (model prog w) A (execs body (envX cn cs L a ccd cl))
        (fun fl s₃ => fl = .next ∧ ∃ h' tk m' news', s₃ = { s with heap := h', toks := tk } ∧ Fr h₀ L h' m' ∧ News h₀ L h' (own ++ news') ∧ (∀ p ∈ news', p.1 ≠ I) ∧ J (i + 1) m' news') (fun _ _ => False) s₂) (fun _ _ => False) { s with heap := h₁, toks := tk₁ })
    (done : ∀ h' tk m' news', Fr h₀ L h' m' → News h₀ L h' news' → J vs.length m' news' → s.toks ≤ tk → wpAny (model prog w) A (execs rest (envX cn cs L a ccd cl)) Q (fun _ _ => False) { s with heap := h', toks := tk }) :
    wpAny (model prog w) A (execs (.For target (.Name xl pl) body [] pos :: rest) (envX cn cs L a ccd cl)) Q (fun _ _ => False) s := by
  have hm0 : m = m := rfl
  refine wpAny_execs_cons (toksQ ?_)
  refine For_turns (h₀ := h₀) (m := m) F ?_ hs PassesOwn.never
  refine nameX_L F hm ?_ hk hxl hd
  refine iter_list J hh F N hl h0 ?_ done
  intro i v m₁ news₁ h₁ tk₁ own I hv hJ hoff hown F₁ N₁
  refine wpAny_mono (step i v m₁ news₁ h₁ tk₁ own I hv hJ hoff hown F₁ N₁) ?_ (fun _ _ x => x)
  intro _ s₂ h₂
  refine wpAny_mono h₂ ?_ (fun _ _ x => x)
  rintro fl s₃ ⟨rfl, h₃, tk₃, m₃, news₃, rfl, F₃, N₃, hoff₃, hJ₃⟩
  exact .next ⟨rfl, h₃, tk₃, m₃, news₃, rfl, F₃, N₃, fun p hp hI => hoff₃ p hp (List.mem_singleton.mp hI), hJ₃⟩

/-- an item of a dict of texts -/
theorem tail_line {d : Addr} {l : List Ln} {ep : Nat} {e : Ln} {t : Tok} {value slice : Expr} {Q : Value → Shared → Prop} (hd : s.heap.get? d = some (dObj w l ep)) (hn : (l.map (·.1)).Nodup) (he : e ∈ l)
    (hs : subscripted slice false (.ref d) (.str e.1 t) = operate [.ref d, .str e.1 t] (getItem (.ref d) (.str e.1 t)))
    (h : Q (.str e.2.2.1 e.2.2.2) { s with toks := s.toks + 1 }) : wpAny (model prog w) A (subscriptTail value slice (.ref d) (.str e.1 t)) Q E s := by
  have hD := dObj_at (prog := prog) hd hn
  refine tail_any hD.dictOf.mapOf.typeIs slot_dict_getitem.lookup (wpAny_getItem_of (strKind_is prog w e.1 t) hD.dictOf.mapOf ?_ h) hs
  clear hD hd
  unfold valueAt lnKvs
  induction l with
  | nil => nomatch he
  | cons q r ih =>
    rw [List.map_cons, List.nodup_cons] at hn
    rcases List.mem_cons.mp he with rfl | he
    · simp
    · have : ¬ q.1 = e.1 := fun hq => hn.1 (hq ▸ List.mem_map.mpr ⟨e, he, rfl⟩)
      rw [List.map_cons, List.find?_cons_of_neg (by simpa using this)]
      exact ih hn.2 he
end
end Mine
namespace Mine
theorem law_in0 {prog : Program} {w : World} {K : Frag} {p : Program} {loose : List Str} {mean : ExcName → Option Value} {mg mb : Str → Option Value} {env : Env} {cn : Str} {cs : Scope} {L a l : Addr} {ccd : Value} {body : List Stmt} {s : Shared} {g : Heap} {m : Str → Option Value} {vs : List Value}
    (F : Fr g L s.heap m) (N : News g L s.heap []) (hl : g.IsList l vs.toArray) (x : Str) (henv : env = envX cn cs L a ccd []) 
    (hk : cs.kind = .function) (hm : m x = some (.ref l)) (B : Below callerA g [] g) (X : K.In g) (T : Top p loose mean mg mb g)
    (H : ∀ A A₀ outer g L m s, Site K p loose mean mg mb A (envX cn cs L a ccd []) A₀ g outer g L → Room A 40 → Fr g L s.heap m → News g L s.heap [] → m x = some (.ref l) → g.IsList l vs.toArray →
      wpAny (model prog w) A (execs body (envX cn cs L a ccd [])) (LawEnd g L s) (fun _ _ => False) s) :
    wpAny (model prog w) (callerA.deeper env) (execs body env) (LawEnd g L s) (fun _ _ => False) s := by
  subst henv
  refine H _ callerA [] g L m s ⟨B, X, T, ?_, rfl, hk, rfl⟩ ⟨Nat.le_of_ble_eq_true rfl, Nat.le_of_ble_eq_true rfl⟩ F N hm hl
  show callerA.frames.map _ = _
  rfl
theorem law_in1 {prog : Program} {w : World} {K : Frag} {p : Program} {loose : List Str} {mean : ExcName → Option Value} {mg mb : Str → Option Value} {env : Env} {cn : Str} {cs : Scope} {L a l : Addr} {ccd : Value} {body : List Stmt} {s : Shared} {g : Heap} {m : Str → Option Value} {o : Obj} {v₀ : Option Value} {vs : List Value}
    (F : Fr g L s.heap m) (N : News g L s.heap [(L + 1, o)]) (hd : o.data = .cell v₀) (hl : g.IsList l vs.toArray) (x c : Str) (henv : env = envX cn cs L a ccd [(c, L + 1)]) 
    (hk : cs.kind = .function) (hm : m x = some (.ref l)) (B : Below callerA g [] g) (X : K.In g) (T : Top p loose mean mg mb g)
    (H : ∀ A A₀ outer g L m s o v₀, Site K p loose mean mg mb A (envX cn cs L a ccd [(c, L + 1)]) A₀ g outer g L → Room A 40 → Fr g L s.heap m → News g L s.heap [(L + 1, o)] → o.data = .cell v₀ → m x = some (.ref l) → g.IsList l vs.toArray →
      wpAny (model prog w) A (execs body (envX cn cs L a ccd [(c, L + 1)])) (LawEnd g L s) (fun _ _ => False) s) :
    wpAny (model prog w) (callerA.deeper env) (execs body env) (LawEnd g L s) (fun _ _ => False) s := by
  subst henv
  refine H _ callerA [] g L m s o v₀ ⟨B, X, T, ?_, rfl, hk, rfl⟩ ⟨Nat.le_of_ble_eq_true rfl, Nat.le_of_ble_eq_true rfl⟩ F N hd hm hl
  show callerA.frames.map _ = _
  rfl
end Mine
end

section
open PySem PySem.StrLaws PySem.Builtin.Str
namespace Mine

abbrev LRep := List Nat × List Nat
def rplL (reps : List LRep) (l : List Nat) : List Nat := reps.foldl (fun l yz => rpl yz.1 yz.2 0 l) l
def lreps (reps : List (Str × Str)) : List LRep := reps.map fun yz => (yz.1.cps.toList, yz.2.cps.toList)

theorem repls_list : ∀ (reps : List (Str × Str)) (X : Str), (∀ r ∈ reps, 1 ≤ r.1.length) → (repls X reps).cps.toList = rplL (lreps reps) X.cps.toList
  | [], _, _ => rfl
  | (y, z) :: r, X, h => by
    have ih := repls_list r (Txt.replace X y z) fun q hq => h q (List.mem_cons_of_mem _ hq)
    have h1 := replace_rpl X y z (h (y, z) (List.mem_cons_self ..))
    show (repls (Txt.replace X y z) r).cps.toList = _
    rw [ih, h1]; rfl

/-- one sign replaced: a homomorphism -/
theorem rpl_one (c : Nat) (z : List Nat) : ∀ l : List Nat, rpl [c] z 0 l = l.flatMap fun k => if k = c then z else [k]
  | [] => rfl
  | a :: t => by
    have ih := rpl_one c z t
    rw [List.flatMap_cons, rpl]
    by_cases h : a = c
    · subst h
      rw [if_pos (by simp [List.isPrefixOf]), if_pos rfl]
      show z ++ rpl [a] z 0 t = _
      rw [ih]
    · rw [if_neg (by simp [List.isPrefixOf, Ne.symm h]), if_neg h, ih]
      rfl
theorem rpl_one_append (c : Nat) (z a b : List Nat) : rpl [c] z 0 (a ++ b) = rpl [c] z 0 a ++ rpl [c] z 0 b := by simp [rpl_one, List.flatMap_append]

/-- the word that a chain of one-sign replaces makes of a sign -/
def enc (reps : List (Nat × List Nat)) (k : Nat) : List Nat := rplL (reps.map fun cz => ([cz.1], cz.2)) [k]

theorem rplL_append (reps : List (Nat × List Nat)) : ∀ a b : List Nat, rplL (reps.map fun cz => ([cz.1], cz.2)) (a ++ b) = rplL (reps.map fun cz => ([cz.1], cz.2)) a ++ rplL (reps.map fun cz => ([cz.1], cz.2)) b := by
  induction reps with
  | nil => intro a b; rfl
  | cons r rs ih =>
    intro a b
    simp only [rplL, List.map_cons, List.foldl_cons] at ih ⊢
    rw [rpl_one_append, ih]
theorem rplL_nil (reps : List (Nat × List Nat)) : rplL (reps.map fun cz => ([cz.1], cz.2)) [] = [] := by
  induction reps with
  | nil => rfl
  | cons r rs ih => simpa [rplL, rpl] using ih
theorem rplL_enc (reps : List (Nat × List Nat)) : ∀ l : List Nat, rplL (reps.map fun cz => ([cz.1], cz.2)) l = l.flatMap (enc reps)
  | [] => rplL_nil reps
  | a :: t => by
    rw [List.flatMap_cons, ← rplL_enc reps t]
    exact rplL_append reps [a] t
theorem enc_other {reps : List (Nat × List Nat)} {k : Nat} (h : k ∉ reps.map (·.1)) : enc reps k = [k] := by
  induction reps with
  | nil => rfl
  | cons r rs ih =>
    simp only [List.map_cons, List.mem_cons, not_or] at h
    have := ih h.2
    simp only [enc, rplL, List.map_cons, List.foldl_cons] at this ⊢
    rw [rpl_one]
    simpa [h.1] using this

/-- a reference: & .. ; with neither of the two within -/
def isRef (w : List Nat) : Bool := match w with
  | 38 :: t => t.getLast? == some 59 && t.dropLast.all fun x => x != 38 && x != 59
  | _ => false
def good (w : List Nat) : Bool := isRef w || match w with
  | [k] => k != 38
  | _ => false

theorem isRef_shape {w : List Nat} (h : isRef w = true) : ∃ b, w = 38 :: (b ++ [59]) ∧ ∀ x ∈ b, x ≠ 38 ∧ x ≠ 59 := by
  unfold isRef at h
  split at h
  · rename_i t
    simp only [Bool.and_eq_true, beq_iff_eq, List.all_eq_true, bne_iff_ne] at h
    obtain ⟨h1, h2⟩ := h
    refine ⟨t.dropLast, ?_, h2⟩
    have hne : t ≠ [] := by intro e; subst e; simp at h1
    rw [List.getLast?_eq_some_getLast hne, Option.some.injEq] at h1
    have := List.dropLast_concat_getLast hne
    rw [h1] at this
    rw [this]
  · cases h

/-- a text without & passes -/
theorem rpl_pass {y z : List Nat} (hy : y.head? = some 38) : ∀ (u r : List Nat), 38 ∉ u → rpl y z 0 (u ++ r) = u ++ rpl y z 0 r
  | [], _, _ => rfl
  | a :: t, r, h => by
    simp only [List.mem_cons, not_or] at h
    cases y with
    | nil => cases hy
    | cons b y =>
      simp only [List.head?_cons, Option.some.injEq] at hy
      subst hy
      have ih := rpl_pass (y := 38 :: y) (z := z) rfl t r h.2
      show rpl (38 :: y) z 0 (a :: (t ++ r)) = _
      rw [rpl, if_neg (by simp [List.isPrefixOf, h.1]), ih]
      rfl

theorem ref_prefix {b b' r : List Nat} (h : b' ++ [59] <+: b ++ [59] ++ r) (hb : ∀ x ∈ b, x ≠ 59) (hb' : ∀ x ∈ b', x ≠ 59) : b' = b := by
  induction b generalizing b' with
  | nil =>
    cases b' with
    | nil => rfl
    | cons x t =>
      simp only [List.nil_append, List.cons_append] at h
      have := (List.cons_prefix_cons.mp h).1
      exact absurd this (hb' x (List.mem_cons_self ..))
  | cons a t ih =>
    cases b' with
    | nil =>
      simp only [List.nil_append, List.cons_append] at h
      have := (List.cons_prefix_cons.mp h).1
      exact absurd this.symm (hb a (List.mem_cons_self ..))
    | cons x t' =>
      simp only [List.cons_append] at h
      obtain ⟨e, h'⟩ := List.cons_prefix_cons.mp h
      rw [e, ih (by simpa using h') (fun y hy => hb y (List.mem_cons_of_mem _ hy)) (fun y hy => hb' y (List.mem_cons_of_mem _ hy))]

theorem rpl_words {y z : List Nat} (hy : isRef y = true) : ∀ ws : List (List Nat), (∀ w ∈ ws, good w = true) → rpl y z 0 ws.flatten = (ws.map fun w => if w = y then z else w).flatten
  | [], _ => rfl
  | w :: ws, h => by
    have ih := rpl_words (z := z) hy ws fun q hq => h q (List.mem_cons_of_mem _ hq)
    obtain ⟨b, rfl, hb⟩ := isRef_shape hy
    have hw := h w (List.mem_cons_self ..)
    rw [List.flatten_cons, List.map_cons, List.flatten_cons, ← ih]
    unfold good at hw
    rw [Bool.or_eq_true] at hw
    rcases hw with hw | hw
    · obtain ⟨b', rfl, hb'⟩ := isRef_shape hw
      by_cases e : b' = b
      · subst e
        rw [if_pos rfl, rpl_hit (y := 38 :: (b' ++ [59])) (by simp) (List.take_left' rfl), List.drop_left' rfl]
      · rw [if_neg (by intro q; exact e (by simpa using q))]
        show rpl _ z 0 (38 :: (b' ++ [59] ++ ws.flatten)) = 38 :: (b' ++ [59]) ++ _
        rw [rpl, if_neg, rpl_pass rfl _ _ (by intro hm; rcases List.mem_append.mp hm with q | q; exact (hb' _ q).1 rfl; simp at q)]
        · simp
        · rw [List.isPrefixOf_iff_prefix]
          intro hp
          exact e (ref_prefix (List.cons_prefix_cons.mp hp).2 (fun x hx => (hb' x hx).2) fun x hx => (hb x hx).2).symm
    · split at hw
      · rename_i k
        have hk : k ≠ 38 := by simpa using hw
        rw [if_neg (by simp [hk])]
        exact rpl_pass rfl [k] _ (by simpa using fun q => hk q.symm)
      · cases hw

/-- what a chain of reference replaces makes of a word -/
def dec (ys : List LRep) (w : List Nat) : List Nat := ys.foldl (fun w yz => if w = yz.1 then yz.2 else w) w
theorem rplL_words : ∀ (ys : List LRep), (∀ r ∈ ys, isRef r.1 = true ∧ good r.2 = true) → ∀ ws : List (List Nat), (∀ w ∈ ws, good w = true) → rplL ys ws.flatten = (ws.map (dec ys)).flatten ∧ ∀ w ∈ ws.map (dec ys), good w = true
  | [], _, ws, hw => by
    have e : dec [] = id := rfl
    rw [e, List.map_id]
    exact ⟨rfl, hw⟩
  | (y, z) :: r, h, ws, hw => by
    have hyz := h _ (List.mem_cons_self ..)
    have hg : ∀ w ∈ ws.map fun w => if w = y then z else w, good w = true := by
      intro q hq
      obtain ⟨w, hm, rfl⟩ := List.mem_map.mp hq
      by_cases e : w = y
      · rw [if_pos e]; exact hyz.2
      · rw [if_neg e]; exact hw w hm
    have ih := rplL_words r (fun q hq => h q (List.mem_cons_of_mem _ hq)) _ hg
    rw [List.map_map] at ih
    refine ⟨?_, ih.2⟩
    show rplL r (rpl y z 0 ws.flatten) = _
    rw [rpl_words hyz.1 ws hw, ih.1]
    rfl

/-- encoded signs read back -/
theorem unesc_enc {e : Nat → List Nat} {ys : List LRep} {a z : List Nat} (hys : ∀ r ∈ ys, isRef r.1 = true ∧ good r.2 = true) (ha : isRef a = true) (l : List Nat) (hg : ∀ k ∈ l, good (e k) = true)
    (hd : ∀ k ∈ l, (if dec ys (e k) = a then z else dec ys (e k)) = [k]) : rpl a z 0 (rplL ys (l.flatMap e)) = l := by
  have e1 : l.flatMap e = (l.map e).flatten := by rw [List.flatMap_def]
  have h := rplL_words ys hys (l.map e) (by intro w hw; obtain ⟨k, hk, rfl⟩ := List.mem_map.mp hw; exact hg k hk)
  rw [e1, h.1, rpl_words ha _ h.2, List.map_map, List.map_map]
  have : (l.map (((fun w => if w = a then z else w) ∘ dec ys) ∘ e)) = l.map fun k => [k] := List.map_congr_left fun k hk => hd k hk
  rw [this]
  clear this h e1 hd hg
  induction l with
  | nil => rfl
  | cons a t ih => simp [ih]
end Mine
end

section
open PySem PySem.StrLaws PySem.Builtin.Str
namespace Mine

abbrev NRep := Nat × List Nat
def single (n : List NRep) : List LRep := n.map fun cz => ([cz.1], cz.2)

theorem str_ext {a b : Str} (h : a.cps.toList = b.cps.toList) : a = b := by
  cases a; cases b; simp only [Str.mk.injEq]; exact Array.toList_inj.mp h

theorem repls_append (X : Str) (a b : List (Str × Str)) : repls X (a ++ b) = repls (repls X a) b := by simp [repls, List.foldl_append]
theorem repls_enc {R : List (Str × Str)} {n : List NRep} (h : lreps R = single n) (X : Str) : (repls X R).cps.toList = X.cps.toList.flatMap (enc n) := by
  have h1 : ∀ r ∈ R, 1 ≤ r.1.length := by
    intro r hr
    have hm : (r.1.cps.toList, r.2.cps.toList) ∈ lreps R := List.mem_map.mpr ⟨r, hr, rfl⟩
    rw [h] at hm
    obtain ⟨cz, _, e⟩ := List.mem_map.mp hm
    have e1 : [cz.1] = r.1.cps.toList := congrArg Prod.fst e
    rw [← tl, ← e1]; simp
  rw [repls_list R X h1, h]
  exact rplL_enc n _

theorem single_take {R : List (Str × Str)} {n : List NRep} (h : lreps R = single n) (i : Nat) : lreps (R.take i) = single (n.take i) := by
  have := congrArg (List.take i) h
  simpa [lreps, single, List.map_take] using this

theorem flatMap_len {f : Nat → List Nat} {b : Nat} (h : ∀ k, (f k).length ≤ b) : ∀ l : List Nat, (l.flatMap f).length ≤ b * l.length
  | [] => by simp
  | a :: t => by
    have ih := flatMap_len h t
    have := h a
    rw [List.flatMap_cons, List.length_append, List.length_cons, Nat.mul_add, Nat.mul_one]; omega

theorem fits_enc {R : List (Str × Str)} {n : List NRep} (h : lreps R = single n) (hz : ∀ r ∈ R, r.2.length ≤ 8) {b : Nat} (hb : ∀ i k, (enc (n.take i) k).length ≤ b) {X : Str} (hX : 10 * (b * X.length) ≤ 16000000) : Fits X R := by
  have key : ∀ (suf pre : List (Str × Str)), R = pre ++ suf → Fits (repls X pre) suf := by
    intro suf
    induction suf with
    | nil => intro pre _; exact trivial
    | cons r s ih =>
      intro pre e
      have hl : (repls X pre).length ≤ b * X.length := by
        have hp : pre = R.take pre.length := by rw [e, List.take_left']; rfl
        have := repls_enc (single_take h pre.length) X
        rw [← hp] at this
        rw [← tl, this, ← tl X]
        exact flatMap_len (hb _) _
      refine ⟨?_, ?_⟩
      · have h2 := hz r (by rw [e]; simp)
        have : ((repls X pre).length + 1) * r.2.length ≤ ((repls X pre).length + 1) * 8 := Nat.mul_le_mul_left _ h2
        omega
      · have := ih (pre ++ [r]) (by rw [e]; simp)
        rw [repls_append] at this
        exact this
  exact key R [] rfl

theorem rpl_len {y z : List Nat} (hy : 1 ≤ y.length) (hz : z.length ≤ y.length) : ∀ (l : List Nat) (k : Nat), (rpl y z k l).length ≤ l.length - k ∨ (rpl y z k l).length + k ≤ l.length ∨ l.length < k ∧ (rpl y z k l) = []
  | [], k => by simp [rpl]
  | a :: t, 0 => by
    left
    rw [rpl]
    split
    · rename_i hp
      rw [List.isPrefixOf_iff_prefix] at hp
      have hl := hp.length_le
      rw [List.length_append]
      simp only [List.length_cons] at hl ⊢
      rcases rpl_len hy hz t (y.length - 1) with h | h | ⟨h, e⟩
      · omega
      · omega
      · omega
    · rcases rpl_len hy hz t 0 with h | h | ⟨h, e⟩
      · simp only [List.length_cons]; omega
      · simp only [List.length_cons]; omega
      · omega
  | a :: t, k + 1 => by
    rw [rpl]
    rcases rpl_len hy hz t k with h | h | ⟨h, e⟩
    · left; simp only [List.length_cons]; omega
    · right; left; simp only [List.length_cons]; omega
    · right; right; exact ⟨by simp only [List.length_cons]; omega, e⟩
theorem replace_len {X y z : Str} (hy : 1 ≤ y.length) (hz : z.length ≤ y.length) : (Txt.replace X y z).length ≤ X.length := by
  rw [← tl, replace_rpl X y z hy, ← tl X]
  rcases rpl_len (y := y.cps.toList) (z := z.cps.toList) (by rw [tl]; exact hy) (by rw [tl, tl]; exact hz) X.cps.toList 0 with h | h | ⟨h, e⟩
  · omega
  · omega
  · omega
theorem fits_shrink : ∀ {R : List (Str × Str)} {X : Str}, (∀ r ∈ R, 1 ≤ r.1.length ∧ r.2.length ≤ r.1.length ∧ r.2.length ≤ 8) → 10 * X.length ≤ 16000000 → Fits X R ∧ (repls X R).length ≤ X.length
  | [], _, _, _ => ⟨trivial, Nat.le_refl _⟩
  | (y, z) :: r, X, h, hX => by
    have h1 := h (y, z) (List.mem_cons_self ..)
    have hl : (Txt.replace X y z).length ≤ X.length := replace_len (X := X) h1.1 h1.2.1
    have ih := fits_shrink (R := r) (X := Txt.replace X y z) (fun q hq => h q (List.mem_cons_of_mem _ hq)) (by omega)
    refine ⟨⟨?_, ih.1⟩, Nat.le_trans ih.2 hl⟩
    have : (X.length + 1) * z.length ≤ (X.length + 1) * 8 := Nat.mul_le_mul_left _ h1.2.2
    omega

/-- read back -/
theorem unesc_str {R : List (Str × Str)} {n : List NRep} {U : List (Str × Str)} {a z : Str} {ys : List LRep} {al zl : List Nat} (h : lreps R = single n) (hU : lreps U = ys) (ha : a.cps.toList = al) (hz : z.cps.toList = zl)
    (hys : ∀ r ∈ ys, isRef r.1 = true ∧ good r.2 = true) (hal : isRef al = true) (hg : ∀ k, good (enc n k) = true) (hd : ∀ k, (if dec ys (enc n k) = al then zl else dec ys (enc n k)) = [k]) (X : Str) :
    Txt.replace (repls (repls X R) U) a z = X := by
  refine str_ext ?_
  have hne : ∀ {w : List Nat}, isRef w = true → 1 ≤ w.length := by
    intro w hw
    obtain ⟨b, rfl, _⟩ := isRef_shape hw
    simp
  have hU1 : ∀ r ∈ U, 1 ≤ r.1.length := by
    intro r hr
    have hm : (r.1.cps.toList, r.2.cps.toList) ∈ ys := by rw [← hU]; exact List.mem_map.mpr ⟨r, hr, rfl⟩
    have := hne (hys _ hm).1
    rw [← tl]; exact this
  rw [replace_rpl _ _ _ (by rw [← tl, ha]; exact hne hal), repls_list U _ hU1, repls_enc h, hU, ha, hz]
  exact unesc_enc hys hal _ (fun k _ => hg k) fun k _ => hd k
end Mine
end

section
open PySem PySem.StrLaws PySem.Builtin.Str
namespace Mine
namespace L05

abbrev o (s : String) : Str := Str.ofString s
def S : List (Str × Str) := [(o "&", o "&amp;"), (o ">", o "&gt;"), (o "<", o "&lt;")]
def R0 : List (Str × Str) := [(o "&", o "&amp;"), (o "<", o "&lt;"), (o ">", o "&gt;")]
def R1 : List (Str × Str) := [(o "&", o "&amp;"), (o "<", o "&lt;"), (o ">", o "&gt;"), (o "\x0d", o "&#xD;")]
def R2 : List (Str × Str) := [(o "&", o "&amp;"), (o "<", o "&lt;"), (o ">", o "&gt;"), (o "\"", o "&quot;"), (o "\x0d", o "&#13;"), (o "\n", o "&#10;"), (o "\t", o "&#09;")]
def R3 : List (Str × Str) := [(o "&", o "&amp;"), (o "<", o "&lt;"), (o "\"", o "&quot;"), (o "\t", o "&#x9;"), (o "\n", o "&#xA;"), (o "\x0d", o "&#xD;")]
def R4 : List (Str × Str) := [(o "&", o "&amp;"), (o ">", o "&gt;"), (o "\"", o "&quot;")]
def T0 : List (Str × Str) := []
def T1 : List (Str × Str) := [(o "\x0d", o "&#xD;")]
def T2 : List (Str × Str) := [(o "\"", o "&quot;"), (o "\t", o "&#09;"), (o "\n", o "&#10;"), (o "\x0d", o "&#13;")]
def T3 : List (Str × Str) := [(o "\"", o "&quot;"), (o "\t", o "&#x9;"), (o "\n", o "&#xA;"), (o "\x0d", o "&#xD;")]
def T4 : List (Str × Str) := [(o "\"", o "&quot;")]
def V : List (Str × Str) := [(o "&lt;", o "<"), (o "&gt;", o ">")]
def swap (T : List (Str × Str)) : List (Str × Str) := T.map fun e => (e.2, e.1)

def num (R : List (Str × Str)) : List NRep := R.map fun r => (r.1.cps.toList.headD 0, r.2.cps.toList)

/-- what a writer's two lists of replaces must meet; `c`: the sign that stays bare -/
structure Ok (R T : List (Str × Str)) (c : Option Nat) : Prop where
  r : lreps R = single (num R)
  st : lreps (S ++ T) = single (num (S ++ T))
  keys : ∀ k ∈ (num R ++ num (S ++ T)).map (·.1), k ∈ [9, 10, 13, 34, 38, 60, 62]
  len : (∀ q ∈ R, q.2.length ≤ 8) ∧ (∀ q ∈ S ++ T, q.2.length ≤ 8)
  same : ∀ k ∈ [9, 10, 13, 34, 38, 60, 62], some k ≠ c → enc (num R) k = enc (num (S ++ T)) k
  bare : (c.all fun k => enc (num R) k == [k]) = true
  small : ∀ i ∈ List.range 10, ∀ k ∈ [9, 10, 13, 34, 38, 60, 62], (enc ((num R).take i) k).length ≤ 6 ∧ (enc ((num (S ++ T)).take i) k).length ≤ 6
  len2 : (num R).length < 10 ∧ (num (S ++ T)).length < 10
  refs : ∀ r ∈ lreps (V ++ swap T), isRef r.1 = true ∧ good r.2 = true
  back : ∀ k ∈ [9, 10, 13, 34, 38, 60, 62], good (enc (num R) k) = true ∧ (if dec (lreps (V ++ swap T)) (enc (num R) k) = [38, 97, 109, 112, 59] then [38] else dec (lreps (V ++ swap T)) (enc (num R) k)) = [k]
  ulen : ∀ r ∈ V ++ swap T, 1 ≤ r.1.length ∧ r.2.length ≤ r.1.length ∧ r.2.length ≤ 8
  nodup : (T.map (·.1)).Nodup ∧ (T.map (·.2)).Nodup

theorem ok0 : Ok R0 T0 none := by constructor <;> decide +kernel
theorem ok1 : Ok R1 T1 none := by constructor <;> decide +kernel
theorem ok2 : Ok R2 T2 none := by constructor <;> decide +kernel
theorem ok3 : Ok R3 T3 (some 62) := by constructor <;> decide +kernel
theorem ok4 : Ok R4 T4 (some 60) := by constructor <;> decide +kernel

section
variable {R T : List (Str × Str)} {c : Option Nat}
theorem Ok.other (h : Ok R T c) {k : Nat} (hk : k ∉ [9, 10, 13, 34, 38, 60, 62]) : enc (num R) k = [k] ∧ enc (num (S ++ T)) k = [k] := by
  constructor
  · exact enc_other fun q => hk (h.keys k (by rw [List.map_append]; exact List.mem_append_left _ q))
  · exact enc_other fun q => hk (h.keys k (by rw [List.map_append]; exact List.mem_append_right _ q))
theorem Ok.sameAll (h : Ok R T c) {k : Nat} (hc : some k ≠ c) : enc (num R) k = enc (num (S ++ T)) k := by
  by_cases hk : k ∈ [9, 10, 13, 34, 38, 60, 62]
  · exact h.same k hk hc
  · obtain ⟨a, b⟩ := h.other hk
    rw [a, b]
theorem Ok.plain (h : Ok R T none) (X : Str) : repls X R = repls (repls X S) T := by
  refine str_ext ?_
  rw [← repls_append, repls_enc h.r, repls_enc h.st]
  have : enc (num R) = enc (num (S ++ T)) := funext fun k => h.sameAll (by simp)
  rw [this]
theorem join_enc {f : Str → Str} {e : Nat → List Nat} {c : Nat} (hc : e c = [c]) : ∀ parts : List Str, (∀ p ∈ parts, (f p).cps.toList = p.cps.toList.flatMap e) →
    (Str.join ⟨#[c]⟩ (parts.map f)).cps.toList = (Str.join ⟨#[c]⟩ parts).cps.toList.flatMap e
  | [], _ => rfl
  | [p], h => h p (List.mem_singleton.mpr rfl)
  | p :: q :: r, h => by
    have ih := join_enc hc (q :: r) fun x hx => h x (List.mem_cons_of_mem _ hx)
    show (f p ++ ⟨#[c]⟩ ++ Str.join ⟨#[c]⟩ ((q :: r).map f)).cps.toList = (p ++ ⟨#[c]⟩ ++ Str.join ⟨#[c]⟩ (q :: r)).cps.toList.flatMap e
    simp only [Str.cps_append, Array.toList_append, List.flatMap_append]
    rw [ih, h p (List.mem_cons_self ..)]
    simp [hc]
theorem fm_congr {f g : Nat → List Nat} : ∀ {l : List Nat}, (∀ k ∈ l, f k = g k) → l.flatMap f = l.flatMap g
  | [], _ => rfl
  | k :: l, h => by
    rw [List.flatMap_cons, List.flatMap_cons, h k (List.mem_cons_self ..), fm_congr fun q hq => h q (List.mem_cons_of_mem _ hq)]
theorem Ok.bareJoin {c : Nat} (h : Ok R T (some c)) (X : Str) : Txt.join ⟨#[c]⟩ ((Txt.split X ⟨#[c]⟩).map fun p => repls (repls p S) T) = repls X R := by
  refine str_ext ?_
  unfold Txt.join
  rw [glued_eq_join]
  have hb : enc (num R) c = [c] := by have := h.bare; simpa using this
  rw [join_enc hb, StrLaws.join_split, repls_enc h.r]
  intro p hp
  rw [← repls_append, repls_enc h.st]
  have hfree := StrLaws.split_free X c p hp
  refine fm_congr fun k hk => ?_
  exact (h.sameAll (by intro e; cases e; exact hfree hk)).symm
theorem Ok.read (h : Ok R T c) (X : Str) : Txt.replace (repls (repls (repls X R) V) (swap T)) (o "&amp;") (o "&") = X := by
  rw [← repls_append]
  refine unesc_str (al := [38, 97, 109, 112, 59]) (zl := [38]) h.r rfl (by decide +kernel) (by decide +kernel) h.refs (by decide +kernel) ?_ ?_ X
  · intro k
    by_cases hk : k ∈ [9, 10, 13, 34, 38, 60, 62]
    · exact (h.back k hk).1
    · rw [(h.other hk).1]
      have : k ≠ 38 := fun e => hk (by simp [e])
      simp [good, this]
  · intro k
    by_cases hk : k ∈ [9, 10, 13, 34, 38, 60, 62]
    · exact (h.back k hk).2
    · rw [(h.other hk).1]
      have hd : ∀ ys : List LRep, (∀ r ∈ ys, isRef r.1 = true) → dec ys [k] = [k] := by
        intro ys
        induction ys with
        | nil => intro _; rfl
        | cons r rs ih =>
          intro hr
          have h1 := hr r (List.mem_cons_self ..)
          obtain ⟨b, e, _⟩ := isRef_shape h1
          have : ¬ ([k] = r.1) := by rw [e]; simp
          show dec rs (if [k] = r.1 then r.2 else [k]) = [k]
          rw [if_neg this]
          exact ih fun q hq => hr q (List.mem_cons_of_mem _ hq)
      rw [hd _ fun r hr => (h.refs r hr).1, if_neg (by simp)]
theorem Ok.len6 (h : Ok R T c) (i k : Nat) : (enc ((num R).take i) k).length ≤ 6 ∧ (enc ((num (S ++ T)).take i) k).length ≤ 6 := by
  by_cases hk : k ∈ [9, 10, 13, 34, 38, 60, 62]
  · by_cases hi : i < 10
    · exact h.small i (List.mem_range.mpr hi) k hk
    · have := h.small 9 (by decide) k hk
      rw [List.take_of_length_le (by have := h.len2.1; omega), List.take_of_length_le (by have := h.len2.2; omega)] at this ⊢
      exact this
  · have e1 : k ∉ ((num R).take i).map (·.1) := fun q => hk (h.keys k (by rw [List.map_append]; exact List.mem_append_left _ (by rw [List.map_take] at q; exact List.mem_of_mem_take q)))
    have e2 : k ∉ ((num (S ++ T)).take i).map (·.1) := fun q => hk (h.keys k (by rw [List.map_append]; exact List.mem_append_right _ (by rw [List.map_take] at q; exact List.mem_of_mem_take q)))
    rw [enc_other e1, enc_other e2]
    exact ⟨by simp, by simp⟩
theorem Ok.fits (h : Ok R T c) {X : Str} (hX : X.length ≤ 20000) : Fits X R ∧ Fits X (S ++ T) :=
  ⟨fits_enc h.r h.len.1 (b := 6) (fun i k => (h.len6 i k).1) (by omega), fits_enc h.st h.len.2 (b := 6) (fun i k => (h.len6 i k).2) (by omega)⟩
theorem Ok.size (h : Ok R T c) (X : Str) : (repls X R).length ≤ 6 * X.length := by
  rw [← tl, repls_enc h.r, ← tl X]
  refine flatMap_len (fun k => ?_) _
  have := (h.len6 10 k).1
  rwa [List.take_of_length_le (by have := h.len2.1; omega)] at this
theorem Ok.sizeS (h : Ok R T c) (X : Str) : (repls (repls X S) T).length ≤ 6 * X.length := by
  rw [← repls_append, ← tl, repls_enc h.st, ← tl X]
  refine flatMap_len (fun k => ?_) _
  have := (h.len6 10 k).2
  rwa [List.take_of_length_le (by have := h.len2.2; omega)] at this
end
theorem fits_append {X : Str} : ∀ {a b : List (Str × Str)}, Fits X (a ++ b) ↔ Fits X a ∧ Fits (repls X a) b
  | [], _ => by simp [Fits, repls]
  | (y, z) :: r, b => by
    have ih := fits_append (X := Txt.replace X y z) (a := r) (b := b)
    show _ ∧ Fits (Txt.replace X y z) (r ++ b) ↔ (_ ∧ Fits (Txt.replace X y z) r) ∧ Fits (repls (Txt.replace X y z) r) b
    rw [ih, and_assoc]
end L05
end Mine
end

section
open PySem PySem.W PyProof.Rows
set_option maxRecDepth 100000
set_option maxHeartbeats 8000000
open_top hd05 for PySem.Challenge.rw_dn0034_05
end

section
open PySem PySem.W PyProof.Rows PyProof.V PySem.Calls Mine
set_option maxRecDepth 100000
set_option maxHeartbeats 60000
namespace Mine
def pcs05 : List Str := [Str.ofString "&", Str.ofString "<", Str.ofString ">", Str.ofString "\"", Str.ofString "\x0d", Str.ofString "\t", Str.ofString "\n", Str.ofString "&amp;", Str.ofString "&lt;", Str.ofString "&quot;", Str.ofString "&#13;", Str.ofString "&#xA;", Str.ofString "amp;", Str.ofString "#09;", Str.ofString "'", Str.ofString ";"]
theorem c88 (w : World) (p : Program) (loose : List Str) (mean : ExcName → Option Value) (mg mb : Str → Option Value) (l : Addr) (vs : List Value) (ns : List Int) (hi : IntsAre vs ns) (hlen : ns.length ≤ 63) :
    Gives PySem.Challenge.rw_dn0034_05.row.prog w (hd05.heap_39 w.params) p loose mean mg mb 5 88 [.ref l] (fun base _ => base.IsList l vs.toArray) (fun v ex => ex = [] ∧ ∃ X t, v = .str X t ∧ X.length ≤ 6 * ns.length) := by
  k_fill
  refine gives_def (binds := [(Str.ofString "script", .ref l)]) (by k_is) (by k_is) (fun s _ => BindsTo.of_eq (by kernel_rfl)) (locs (by kernel_rfl)) rfl rfl rfl (by decide) ?_
  intro A A₀ base outer g L news s Q S F N h1 hr hpre hQ
  refine seq_let (h₀ := g) (cl := []) ?a1 ?a2 ?a3 ?_
  case a1 => rfl
  case a2 => rfl
  case a3 => kernel_rfl
  refine (ev_strs (xs := pcs05) F N ?hc ?hl ?k :)
  case hc => repeat (first | exact SConsts.nil | refine SConsts.cons ?_)
  case hl => exact Nat.le_of_ble_eq_true rfl
  intro h₁ tk₁ F₁ N₁ _
  refine ⟨_, _, F₁, N₁, fun h₂ F₂ N₂ => ?_⟩
  refine seq_let (h₀ := g) (cl := []) ?a1 ?a2 ?a3 (Constant_str ⟨_, _, F₂, N₂, fun h₃ F₃ N₃ => ?_⟩)
  case a1 => rfl
  case a2 => rfl
  case a3 => kernel_rfl
  have hl : ListAt g ((s.heap.objs.size, ({ cls := .type "list", data := .seq (strVals s.toks pcs05).toArray } : Obj)) :: news) l vs := .inr (hpre.at fun o e => S.B.stays l o e)
  refine (for_list_name (cl := []) (s := { s with heap := h₃, toks := tk₁ + 1 + 1 + 1 }) (fun i m₁ n₁ => n₁ = (s.heap.objs.size, ({ cls := .type "list", data := .seq (strVals s.toks pcs05).toArray } : Obj)) :: news ∧ m₁ (Str.ofString "pieces") = some (.ref s.heap.objs.size) ∧ ∃ X t, m₁ (Str.ofString "text") = some (.str X t) ∧ X.length ≤ 6 * i)
    S.hh F₃ N₃ ?m1 hl ?j0 ?b0 ?b1 ?b2 ?b3 ?b4 ?step ?done :)
  case m1 => exact (upd_ne (by decide +kernel)).trans ((upd_ne (by decide +kernel)).trans rfl)
  case j0 => exact ⟨rfl, (upd_ne (by decide +kernel)).trans (upd_at ..), _, _, upd_at .., Nat.zero_le _⟩
  case b0 => rfl
  case b4 => exact fun _ => rfl
  case b1 => kernel_rfl
  case b2 => kernel_rfl
  case b3 => decide +kernel
  case done =>
    rintro h' tk m' news' F' N' ⟨rfl, _, X, t, hX, hlX⟩ htk
    refine seq_ret ?_
    refine (nm_L (cl := []) (s := { s with heap := h', toks := tk }) F' hX ?_ ?_ ?_ ?_ :)
    · rfl
    · kernel_rfl
    · decide +kernel
    · exact hQ _ [] h' tk m' F' (news_sub N' fun q hq => List.mem_cons_of_mem _ hq) (fun _ _ _ hx => nomatch hx) (by have q : tk₁ + 1 + 1 + 1 ≤ tk := htk; omega) ⟨rfl, X, t, rfl, by rw [hi.length] at hlX; exact hlX⟩
  rintro i v m₁ news₁ s₁ own I hv ⟨rfl, hP, X, t, hX, hlX⟩ hoff hown Fs Ns h1s
  obtain ⟨n, tn, rfl, _⟩ := IntsAre.at hi i v hv
  have eP : Str.ofString "pieces" ≠ Str.ofString "x" := by decide +kernel
  have eT : Str.ofString "text" ≠ Str.ofString "x" := by decide +kernel
  have hPx : upd m₁ (Str.ofString "x") (.int n tn) (Str.ofString "pieces") = some (.ref s.heap.objs.size) := (upd_ne eP).trans hP
  have hTx : upd m₁ (Str.ofString "x") (.int n tn) (Str.ofString "text") = some (.str X t) := (upd_ne eT).trans hX
  refine lt (cl := []) g (ev_fdiv (nm (cl := []) Fs (upd_at ..) ⟨_, _, rfl, fun t₁ => ⟨_, _, Fs, Ns, fun h₄ F₄ N₄ => ?_⟩⟩))
  refine lt (cl := []) g (ev_fmod (nm (cl := []) F₄ (upd_at ..) ⟨_, _, rfl, fun t₂ => ⟨_, _, F₄, N₄, fun h₅ F₅ N₅ => ?_⟩⟩))
  have hP5 : ∀ a b, upd (upd (upd m₁ (Str.ofString "x") (.int n tn)) (Str.ofString "half") a) (Str.ofString "code") b (Str.ofString "pieces") = some (.ref s.heap.objs.size) := fun a b => (upd_ne (by decide +kernel)).trans ((upd_ne (by decide +kernel)).trans hPx)
  have hT5 : ∀ a b, upd (upd (upd m₁ (Str.ofString "x") (.int n tn)) (Str.ofString "half") a) (Str.ofString "code") b (Str.ofString "text") = some (.str X t) := fun a b => (upd_ne (by decide +kernel)).trans ((upd_ne (by decide +kernel)).trans hTx)
  have hl5 : X.length + 6 ≤ sizeLine := by
    have := (List.getElem?_eq_some_iff.mp hv).1
    rw [sizeLine_eq]; rw [hi.length] at this; omega
  refine seq_if (wpAny_isTrue_Compare1 (ev_fmod (nm (cl := []) F₅ ((upd_ne (by decide +kernel)).trans ((upd_ne (by decide +kernel)).trans (upd_at ..))) ⟨_, _, rfl, fun t₃ => wpAny_Constant_int (eq_int (wpAny_truthy_bool ?_))⟩)))
  have fin : ∀ (Y : Str) (h' : Heap) (t' : Tok) (tk : Nat) a b, Y.length ≤ 6 → Fr g L h' (upd (upd (upd (upd m₁ (Str.ofString "x") (.int n tn)) (Str.ofString "half") a) (Str.ofString "code") b) (Str.ofString "text") (.str (X ++ Y) t')) →
      ∃ m', Fr g L h' m' ∧ m' (Str.ofString "pieces") = some (.ref s.heap.objs.size) ∧ ∃ X t, m' (Str.ofString "text") = some (.str X t) ∧ X.length ≤ 6 * (i + 1) := by
    intro Y h' t' tk a b hY F'
    refine ⟨_, F', (upd_ne (by decide +kernel)).trans (hP5 a b), _, _, upd_at .., ?_⟩
    rw [Str.length_append]; omega
  split
  · refine seq_aug_str (cl := []) F₅ (hT5 _ _) rfl (by kernel_rfl) ?_
    have hb := Int.fmod_nonneg_of_pos (n.fdiv 2) (b := 16) (by decide)
    have hb2 := Int.fmod_lt_of_pos (n.fdiv 2) (b := 16) (by decide)
    refine Subscript_ (nm (cl := []) F₅ (hP5 _ _) (ev_fmod (nm (cl := []) F₅ ((upd_ne (by decide +kernel)).trans (upd_at ..)) ⟨_, _, rfl, fun t₄ => ?_⟩)))
    have hpk : ∃ x, pcs05[((n.fdiv 2).fmod 16).toNat]? = some x ∧ x.length ≤ 6 := by
      have hall : ∀ k, k < 16 → ∃ x, pcs05[k]? = some x ∧ x.length ≤ 6 := by decide +kernel
      exact hall _ (by omega)
    obtain ⟨x, hx, hxl⟩ := hpk
    refine (tail_list (vs := strVals s.toks pcs05) (v := .str x (s.toks + ((n.fdiv 2).fmod 16).toNat)) (s := { s₁ with heap := h₅, toks := s₁.toks + 1 + 1 + 1 + 1 + 1 + 1 + 1 + 1 + 1 + 1 + 1 }) ⟨_, (N₅ _ (List.mem_append_right _ (.head _))).1, rfl, _, rfl⟩ hb (by omega) (strVals_at _ _ _ _ hx) ?hs ?_ :)
    case hs => rfl
    refine ⟨x, _, _, _, rfl, by omega, F₅, N₅, fun h' t' tk F' N' => ?_⟩
    refine wpAny_execs_nil (wpAny_execs_nil ?_)
    obtain ⟨m', F'', hPm, hXm⟩ := fin x h' t' tk _ _ hxl F'
    exact ⟨rfl, h', tk, m', _, rfl, F'', N', hoff, rfl, hPm, hXm⟩
  · refine seq_aug_str (cl := []) F₅ (hT5 _ _) rfl (by kernel_rfl) ?_
    have hc0 := Int.fmod_nonneg_of_pos (n.fdiv 2) (b := 1112064) (by decide)
    have hc1 := Int.fmod_lt_of_pos (n.fdiv 2) (b := 1112064) (by decide)
    refine call_b1 (cl := []) S F₅ (by k_is) boot_chr ?_
    refine wpAny_mono (Q := fun v s' => ∃ c tc tk, v = .int c tc ∧ s' = { s₁ with heap := h₅, toks := tk } ∧ 0 ≤ c ∧ c ≤ 1114111) (E := fun _ _ => False) ?_ ?_ (fun _ _ x => x)
    · refine IfExp_ (wpAny_isTrue_Compare1 (nm (cl := []) F₅ (upd_at ..) (wpAny_Constant_int (lt_int (wpAny_truthy_bool ?_)))))
      split
      · exact nm (cl := []) F₅ (upd_at ..) ⟨_, _, _, rfl, rfl, hc0, by omega⟩
      · exact wpAny_BinOp (nm (cl := []) F₅ (upd_at ..) (wpAny_Constant_int (add_int ⟨_, _, _, rfl, rfl, by omega, by omega⟩)))
    · rintro v s' ⟨c, tc, tk, rfl, rfl, h0, hc⟩
      refine chr_of_range h0 hc ?_
      refine ⟨_, _, _, _, rfl, ?_, F₅, N₅, fun h' t' tk F' N' => ?_⟩
      · show X.length + 1 ≤ sizeLine; omega
      · refine wpAny_execs_nil (wpAny_execs_nil ?_)
        obtain ⟨m', F'', hPm, hXm⟩ := fin ⟨#[c.toNat]⟩ h' t' tk _ _ (by show 1 ≤ 6; omega) F'
        exact ⟨rfl, h', tk, m', _, rfl, F'', N', hoff, rfl, hPm, hXm⟩
end Mine
end

section
open PySem PySem.W PyProof.Rows PyProof.V PySem.Calls Mine
set_option maxRecDepth 100000
set_option maxHeartbeats 400000
namespace Mine.L05
section
variable (w : World) (p : Program) (loose : List Str) (mean : ExcName → Option Value) (mg mb : Str → Option Value)

abbrev W05 (f : Addr) (R : List (Str × Str)) : Prop := ∀ X t, Fits X R →
  Mine.Gives PySem.Challenge.rw_dn0034_05.row.prog w (hd05.heap_39 w.params) p loose mean mg mb 3 f [.str X t] (fun _ _ => True) (fun v ex => ex = [] ∧ ∃ t', v = .str (repls X R) t')

theorem c28 : W05 w p loose mean mg mb 28 R0 := by
  intro X t hf
  k_fill
  refine gives_def (binds := [(Str.ofString "text", .str X t)]) (by k_is) (by k_is) (fun s _ => BindsTo.of_eq (by kernel_rfl)) (locs (by kernel_rfl)) rfl rfl rfl (by decide) ?_
  exact body_try (x := Str.ofString "text") (X := X) (t := t) rfl (by repeat (first | exact Chain.nil | (refine Chain.cons (.iff rfl) (by decide) ?_) | (refine Chain.cons (.plain rfl) (by decide) ?_))) hf rfl (fun _ => rfl) (by decide)
theorem c49 : W05 w p loose mean mg mb 49 R1 := by
  intro X t hf
  k_fill
  refine gives_def (binds := [(Str.ofString "text", .str X t)]) (by k_is) (by k_is) (fun s _ => BindsTo.of_eq (by kernel_rfl)) (locs (by kernel_rfl)) rfl rfl rfl (by decide) ?_
  exact body_try (x := Str.ofString "text") (X := X) (t := t) rfl (by repeat (first | exact Chain.nil | (refine Chain.cons (.iff rfl) (by decide) ?_) | (refine Chain.cons (.plain rfl) (by decide) ?_))) hf rfl (fun _ => rfl) (by decide)
theorem c35 : W05 w p loose mean mg mb 35 R2 := by
  intro X t hf
  k_fill
  refine gives_def (binds := [(Str.ofString "text", .str X t)]) (by k_is) (by k_is) (fun s _ => BindsTo.of_eq (by kernel_rfl)) (locs (by kernel_rfl)) rfl rfl rfl (by decide) ?_
  exact body_try (x := Str.ofString "text") (X := X) (t := t) rfl (by repeat (first | exact Chain.nil | (refine Chain.cons (.iff rfl) (by decide) ?_) | (refine Chain.cons (.plain rfl) (by decide) ?_))) hf rfl (fun _ => rfl) (by decide)
theorem c56 : W05 w p loose mean mg mb 56 R3 := by
  intro X t hf
  k_fill
  refine gives_def (binds := [(Str.ofString "text", .str X t)]) (by k_is) (by k_is) (fun s _ => BindsTo.of_eq (by kernel_rfl)) (locs (by kernel_rfl)) rfl rfl rfl (by decide) ?_
  exact body_try (x := Str.ofString "text") (X := X) (t := t) rfl (by repeat (first | exact Chain.nil | (refine Chain.cons (.iff rfl) (by decide) ?_) | (refine Chain.cons (.plain rfl) (by decide) ?_))) hf rfl (fun _ => rfl) (by decide)
theorem c42 : W05 w p loose mean mg mb 42 R4 := by
  intro X t hf
  k_fill
  refine gives_def (binds := [(Str.ofString "text", .str X t)]) (by k_is) (by k_is) (fun s _ => BindsTo.of_eq (by kernel_rfl)) (locs (by kernel_rfl)) rfl rfl rfl (by decide) ?_
  exact body_try (x := Str.ofString "text") (X := X) (t := t) rfl (by repeat (first | exact Chain.nil | (refine Chain.cons (.iff rfl) (by decide) ?_) | (refine Chain.cons (.plain rfl) (by decide) ?_))) hf rfl (fun _ => rfl) (by decide)

theorem c63 {X : Str} {t : Tok} {d : Addr} {l : List Ln} {ep : Nat} (hf : Fits X (lnReps l)) (hn : (l.map (·.1)).Nodup) (hok : ∀ e ∈ l, LnOk e) (hc : ∀ e ∈ l, (e.1 == e.2.2.1) = false) (lo : (d == sysModules) = false) :
    Mine.Gives PySem.Challenge.rw_dn0034_05.row.prog w (hd05.heap_39 w.params) p loose mean mg mb 3 63 [.str X t, .ref d] (fun _ news => (d, dObj w l ep) ∈ news) (fun v ex => ex = [] ∧ ∃ t', v = .str (repls X (lnReps l)) t') := by
  k_fill
  refine gives_def (binds := [(Str.ofString "s", .str X t), (Str.ofString "d", .ref d)]) (by k_is) (by k_is) (fun s _ => BindsTo.of_eq (by kernel_rfl)) (locs (by kernel_rfl)) rfl rfl rfl (by decide) ?_
  exact body_dictrep (xs := Str.ofString "s") (xd := Str.ofString "d") (xk := Str.ofString "key") (xv := Str.ofString "value") (X := X) (t := t) (d := d) (l := l) (ep := ep) (by kernel_rfl) (by kernel_rfl) hf hn hok (.inl hc) lo rfl rfl rfl
    (fun _ => by kernel_rfl) (fun _ => by kernel_rfl) (fun _ => by kernel_rfl) (fun _ => by kernel_rfl) (by decide +kernel) (by decide +kernel) (by decide +kernel) (by decide +kernel) (by decide +kernel) (by decide +kernel) (by decide +kernel)

theorem c72 {X : Str} {t : Tok} {d : Addr} {l : List Ln} {ep : Nat} (hf0 : Fits X S) (hf : Fits (repls X S) (lnReps l)) (hn : (l.map (·.1)).Nodup) (hok : ∀ e ∈ l, LnOk e) (hc : ∀ e ∈ l, (e.1 == e.2.2.1) = false) (lo : (d == sysModules) = false) (hlen : l.length < 100) :
    Mine.Gives PySem.Challenge.rw_dn0034_05.row.prog w (hd05.heap_39 w.params) p loose mean mg mb 4 72 [.str X t, .ref d] (fun _ news => Stands (hd05.heap_39 w.params) news d (dObj w l ep) ∧ (l ≠ [] → (d, dObj w l ep) ∈ news)) (fun v ex => ex = [] ∧ ∃ t', v = .str (repls (repls X S) (lnReps l)) t') := by
  have c := fun (t : Tok) => c63 (X := repls X S) (t := t) w p loose mean mg mb (ep := ep) hf hn hok hc lo
  revert c
  k_fill
  intro c
  refine gives_def (binds := [(Str.ofString "data", .str X t), (Str.ofString "entities", .ref d)]) (by k_is) (by k_is) (fun s hK => binds_K hK rfl (by k_is) rfl rfl rfl) (locs (by kernel_rfl)) rfl rfl rfl (by decide) ?_
  exact body_esc (x := Str.ofString "data") (xe := Str.ofString "entities") (xg := Str.ofString "dict_replace_saxutils") (g := 63) (X := X) (t := t) (d := d) (l := l) (ep := ep) (reps := S) (by repeat (first | exact Chain.nil | (refine Chain.cons (.iff rfl) (by decide) ?_) | (refine Chain.cons (.plain rfl) (by decide) ?_))) (by kernel_rfl) (by kernel_rfl) (by decide +kernel) hf0 hn lo hlen (fun _ => c) (by k_is) (by k_is) rfl
    (fun _ => by kernel_rfl) (fun _ => by kernel_rfl) (fun _ => by kernel_rfl) (by decide +kernel) (by decide +kernel) (by decide +kernel)

theorem c81 {X : Str} {t : Tok} {d : Addr} {l : List Ln} {ep : Nat} (hf0 : Fits X V) (hf : Fits (repls X V) (lnReps l)) (hf2 : Fits (repls (repls X V) (lnReps l)) [(o "&amp;", o "&")]) (hn : (l.map (·.1)).Nodup) (hok : ∀ e ∈ l, LnOk e) (hc : ∀ e ∈ l, (e.1 == e.2.2.1) = false) (lo : (d == sysModules) = false) (hlen : l.length < 100) :
    Mine.Gives PySem.Challenge.rw_dn0034_05.row.prog w (hd05.heap_39 w.params) p loose mean mg mb 4 81 [.str X t, .ref d] (fun _ news => Stands (hd05.heap_39 w.params) news d (dObj w l ep) ∧ (l ≠ [] → (d, dObj w l ep) ∈ news)) (fun v ex => ex = [] ∧ ∃ t', v = .str (Txt.replace (repls (repls X V) (lnReps l)) (o "&amp;") (o "&")) t') := by
  have c := fun (t : Tok) => c63 (X := repls X V) (t := t) w p loose mean mg mb (ep := ep) hf hn hok hc lo
  revert c
  k_fill
  intro c
  refine gives_def (binds := [(Str.ofString "data", .str X t), (Str.ofString "entities", .ref d)]) (by k_is) (by k_is) (fun s hK => binds_K hK rfl (by k_is) rfl rfl rfl) (locs (by kernel_rfl)) rfl rfl rfl (by decide) ?_
  exact body_unesc (x := Str.ofString "data") (xe := Str.ofString "entities") (xg := Str.ofString "dict_replace_saxutils") (g := 63) (X := X) (t := t) (d := d) (l := l) (ep := ep) (reps := V) (by repeat (first | exact Chain.nil | (refine Chain.cons (.iff rfl) (by decide) ?_) | (refine Chain.cons (.plain rfl) (by decide) ?_))) rfl (by decide +kernel) (by kernel_rfl) (by kernel_rfl) (by decide +kernel) hf0 hf2 hn lo hlen (fun _ => c) (by k_is) (by k_is) rfl
    (fun _ => by kernel_rfl) (fun _ => by kernel_rfl) (fun _ => by kernel_rfl) (by decide +kernel) (by decide +kernel) (by decide +kernel)
end
end Mine.L05
end

section
open PySem PySem.W PyProof.Rows PyProof.V PySem.Calls Mine
set_option maxRecDepth 100000
set_option maxHeartbeats 400000
namespace Mine.L05
/-- a writer as the law lists it -/
abbrev WE := Addr × Str × List (Str × Str) × List (Str × Str)
def partsOf (X bare : Str) : List Str := if bare.length = 0 then [X] else Txt.split X bare
structure Writer (prog : Program) (w : World) (K : Frag) (p : Program) (loose : List Str) (mean : ExcName → Option Value) (mg mb : Str → Option Value) (e : WE) : Prop where
  gives : ∀ X t, X.length ≤ 400 → Mine.Gives prog w K p loose mean mg mb 3 e.1 [.str X t] (fun _ _ => True) (fun v ex => ex = [] ∧ ∃ t', v = .str (repls X e.2.2.1) t')
  kp : keepIn K (.ref e.1) = true
  bare : e.2.1.length ≤ 1
  law : ∀ X, Txt.join e.2.1 ((partsOf X e.2.1).map fun p => repls (repls p S) e.2.2.2) = repls X e.2.2.1
  ok : ∃ c, Ok e.2.2.1 e.2.2.2 c
  few : e.2.2.2.length ≤ 15
  ne : ∀ r ∈ e.2.2.2, (r.1 == r.2) = false
theorem parts_len (X bare : Str) : ((partsOf X bare).map (·.length)).sum + (partsOf X bare).length ≤ X.length + 1 := by
  unfold partsOf
  split
  · simp
  · exact PyProof.Rows.split_weight X bare (by omega)
theorem parts_each {X bare p : Str} (h : p ∈ partsOf X bare) : p.length ≤ X.length := by
  have h1 := parts_len X bare
  have h2 : p.length ≤ ((partsOf X bare).map (·.length)).sum := by
    generalize partsOf X bare = l at h
    clear h1
    induction l with
    | nil => nomatch h
    | cons a r ih =>
      rw [List.map_cons, List.sum_cons]
      rcases List.mem_cons.mp h with rfl | h
      · omega
      · have := ih h; omega
  have h3 : 1 ≤ (partsOf X bare).length := List.length_pos_of_mem h
  omega
/-- a writer's tuple stands -/
def Wr (w : World) (news : List (Addr × Obj)) (e : WE) (v : Value) : Prop :=
  ∃ T tb d tk, v = .ref T ∧ (T, tupO [.ref e.1, .str e.2.1 tb, .ref d]) ∈ news ∧ (d, dObj w (lnFrom tk e.2.2.2) e.2.2.2.length) ∈ news ∧ 1 ≤ tk ∧ (d == sysModules) = false
theorem wr_plain {R T : List (Str × Str)} {X : Str} (h : Ok R T none) : Txt.join Str.empty ((partsOf X Str.empty).map fun p => repls (repls p S) T) = repls X R := by
  have : partsOf X Str.empty = [X] := rfl
  rw [this, h.plain]
  rfl
theorem wr_bare {R T : List (Str × Str)} {X : Str} {c : Nat} (h : Ok R T (some c)) : Txt.join ⟨#[c]⟩ ((partsOf X ⟨#[c]⟩).map fun p => repls (repls p S) T) = repls X R := by
  have : partsOf X ⟨#[c]⟩ = Txt.split X ⟨#[c]⟩ := rfl
  rw [this, h.bareJoin]

section
variable {prog : Program} {w : World} {A : Around} {E : Value → Shared → Prop} {s : Shared} {h₀ : Heap} {L a : Addr} {m : Str → Option Value}
  {cn : Str} {cs : Scope} {ccd : Value} {cl : List (Str × Addr)} {news : List (Addr × Obj)}

/-- (write, bare, table): the display -/
theorem ev_wr {K : Frag} {p : Program} {loose : List Str} {mean : ExcName → Option Value} {mg mb : Str → Option Value} {A₀ : Around} {base : Heap} {outer : List Env} {env' : Env} {fn : Str} {f : Addr} {b : Str} {n k : Nat} {p1 p2 p3 p4 : Pos}
    {ks : List (Option Expr)} {vs : List Expr} {R r : List (Str × Str)} {Q : Value → Shared → Prop}
    (S : Site K p loose mean mg mb A env' A₀ base outer h₀ L) (F : Fr h₀ L s.heap m) (N : News h₀ L s.heap news) (h1 : 1 ≤ s.toks)
    (he : nsIn K mainGlobals fn = some (some (.ref f))) (h : DPairs ks vs r) (hlen : r.length ≤ 15) (hn : (r.map (·.1)).Nodup)
    (hQ : ∀ T h' tk ex, Fr h₀ L h' m → News h₀ L h' (ex ++ news) → (∀ q ∈ news, ∀ x ∈ ex, q.1 ≠ x.1) → 1 ≤ tk → Wr w ex (f, b, R, r) (.ref T) → Q (.ref T) { s with heap := h', toks := tk })
    (hk : cs.kind = .function) (hx : (envX cn cs L a ccd cl).kindOf fn = some .globalImplicit) (hd : (fn == ("__debug__" : Str)) = false) :
    wpAny (model prog w) A (eval (.Tuple [.Name fn p1, .Constant (.str b) n p2, .Dict ks vs p3] k p4) (envX cn cs L a ccd cl)) Q E s := by
  refine Tuple_ (spliced_more (nameX_K F S.X (topRead_of S.T) he ?_ hk hx hd) rfl)
  refine spliced_more (Constant_str ?_) rfl
  refine spliced_more (ev_dict0 (s := { s with toks := s.toks + 1 }) F N S.T.nolimit h hlen hn fun h₁ tk₁ F₁ N₁ hlt lo htk => spliced_none ?_) rfl
  refine newTuple_N (s := { s with heap := h₁, toks := tk₁ }) F₁ N₁ (fun h₂ F₂ N₂ => ?_) (Nat.le_of_ble_eq_true rfl)
  have hlt2 := N₁
  refine hQ h₁.objs.size h₂ tk₁ [(h₁.objs.size, tupO [.ref f, .str b s.toks, .ref s.heap.objs.size]), (s.heap.objs.size, dObj w (lnFrom (s.toks + 1) r) r.length)] F₂ N₂ ?_ (Nat.le_trans h1 (Nat.le_trans (Nat.le_succ _) htk)) ?_
  · intro q hq x hx
    have hq1 : q.1 < s.heap.objs.size := hlt q hq
    have hz : s.heap.objs.size < h₁.objs.size := Heap.lt_size (N₁ _ (.head _)).1
    simp only [List.mem_cons, List.not_mem_nil, or_false] at hx
    rcases hx with rfl | rfl
    · exact Nat.ne_of_lt (Nat.lt_trans hq1 hz)
    · exact Nat.ne_of_lt hq1
  · exact ⟨_, s.toks, _, s.toks + 1, rfl, .head _, .tail _ (.head _), Nat.le_add_left _ _, lo⟩

theorem Wr.mono {news news' : List (Addr × Obj)} {e : WE} {v : Value} (h : Wr w news e v) (hs : ∀ q ∈ news, q ∈ news') : Wr w news' e v := by
  obtain ⟨T, tb, d, tk, rfl, h1, h2, h3⟩ := h
  exact ⟨T, tb, d, tk, rfl, hs _ h1, hs _ h2, h3⟩
end
end Mine.L05
namespace Mine.L05
theorem updF_mid {C : Addr} {o : Obj} {W : List (Addr × Obj)} (hW : ∀ p ∈ W, p.1 ≠ C) : ∀ {own : List (Addr × Obj)}, (∀ p ∈ own, p.1 ≠ C) → UpdF C o (own ++ (C, o) :: W) (fun o' => own ++ (C, o') :: W)
  | [], _ => .head hW
  | p :: r, h => .tail (h p (List.mem_cons_self ..)) (updF_mid hW fun q hq => h q (List.mem_cons_of_mem _ hq))
def flip (e : Ln) : Ln := (e.2.2.1, e.2.2.2, e.1, e.2.1)
theorem flip_reps (t : Nat) (T : List (Str × Str)) : lnReps ((lnFrom t T).map flip) = swap T := by
  have h := lnFrom_reps t T
  have : lnReps ((lnFrom t T).map flip) = swap (lnReps (lnFrom t T)) := by
    simp [lnReps, swap, flip, Function.comp_def]
  rw [this, h]
theorem flip_keys (t : Nat) (T : List (Str × Str)) : ((lnFrom t T).map flip).map (·.1) = T.map (·.2) := by
  have := congrArg (List.map (·.1)) (flip_reps t T)
  simpa [lnReps, swap, Function.comp_def] using this
theorem flip_ok (t : Nat) (T : List (Str × Str)) (h : 1 ≤ t) : ∀ e ∈ (lnFrom t T).map flip, LnOk e := by
  intro e he
  obtain ⟨q, hq, rfl⟩ := List.mem_map.mp he
  obtain ⟨a, b, c⟩ := lnFrom_ok t T h q hq
  exact ⟨b, a, c.symm⟩
theorem line_of {t : Nat} {T : List (Str × Str)} {e : Ln} (h : e ∈ lnFrom t T) : (e.1, e.2.2.1) ∈ T := by
  have : (e.1, e.2.2.1) ∈ lnReps (lnFrom t T) := List.mem_map.mpr ⟨e, h, rfl⟩
  rwa [lnFrom_reps] at this
theorem ln_ne {t : Nat} {T : List (Str × Str)} (h : ∀ r ∈ T, (r.1 == r.2) = false) : ∀ e ∈ lnFrom t T, (e.1 == e.2.2.1) = false := fun _ he => h _ (line_of he)
theorem flip_ne {t : Nat} {T : List (Str × Str)} (h : ∀ r ∈ T, (r.1 == r.2) = false) : ∀ e ∈ (lnFrom t T).map flip, (e.1 == e.2.2.1) = false := by
  intro e he
  obtain ⟨q, hq, rfl⟩ := List.mem_map.mp he
  have := h _ (line_of hq)
  rw [beq_eq_false_iff_ne] at this ⊢
  exact fun e => this e.symm
/-- what unescape asks -/
theorem Ok.back3 {R T : List (Str × Str)} {c : Option Nat} (h : Ok R T c) {X : Str} (hX : X.length ≤ 400) :
    Fits (repls X R) V ∧ Fits (repls (repls X R) V) (swap T) ∧ Fits (repls (repls (repls X R) V) (swap T)) [(o "&amp;", o "&")] := by
  have hl := h.size X
  have h1 := fits_shrink (R := V ++ swap T) (X := repls X R) h.ulen (by omega)
  rw [fits_append, repls_append] at h1
  refine ⟨h1.1.1, h1.1.2, ?_, trivial⟩
  have hz : (o "&").length = 1 := by decide +kernel
  rw [hz]
  have := h1.2
  omega
end Mine.L05
namespace Mine.L05
theorem bare_iff (b : Str) : (b == Str.ofString "") = true ↔ b.length = 0 := by
  rw [beq_iff_eq]
  constructor
  · rintro rfl; decide +kernel
  · intro h
    refine str_ext ?_
    have e : (Str.ofString "").cps.toList = [] := by decide +kernel
    rw [e]
    rw [← tl] at h
    exact List.length_eq_zero_iff.mp h
end Mine.L05
namespace Mine.L05
theorem wt_of {prog : Program} {w : World} {K : Frag} {p : Program} {loose : List Str} {mean : ExcName → Option Value} {mg mb : Str → Option Value} {A A₀ : Around} {env : Env} {base g : Heap} {outer : List Env} {L : Addr} {e : WE} (_S : Site K p loose mean mg mb A env A₀ base outer g L)
    (h : ∀ p loose mean mg mb, Writer prog w K p loose mean mg mb e) : Writer prog w K p loose mean mg mb e := h _ _ _ _ _
end Mine.L05
namespace Mine.L05
theorem sum_six {f : Str → Str} (h : ∀ p, (f p).length ≤ 6 * p.length) : ∀ l : List Str, ((l.map f).map (·.length)).sum ≤ 6 * (l.map (·.length)).sum
  | [] => by simp
  | p :: r => by
    have ih := sum_six h r
    have := h p
    simp only [List.map_cons, List.sum_cons]
    omega
theorem Writer.joinOk {prog : Program} {w : World} {K : Frag} {p : Program} {loose : List Str} {mean : ExcName → Option Value} {mg mb : Str → Option Value} {e : WE} (W : Writer prog w K p loose mean mg mb e) {X : Str} (hX : X.length ≤ 400) :
    JoinOk e.2.1 ((partsOf X e.2.1).map fun p => repls (repls p S) e.2.2.2) = true := by
  obtain ⟨c, ok⟩ := W.ok
  refine joinOk_of ?_
  have h1 := sum_six (f := fun p => repls (repls p S) e.2.2.2) (fun p => ok.sizeS p) (partsOf X e.2.1)
  have h2 := parts_len X e.2.1
  rw [List.length_map]
  have h3 : (partsOf X e.2.1).length * e.2.1.length ≤ (partsOf X e.2.1).length * 1 := Nat.mul_le_mul_left _ W.bare
  omega
theorem strValues_at {l : List (Str × Tok)} {i : Nat} {v : Value} (h : (strValues l)[i]? = some v) : ∃ p t, v = .str p t ∧ (l.map (·.1))[i]? = some p := by
  unfold strValues at h
  rw [List.getElem?_map] at h ⊢
  cases e : l[i]? with
  | none => rw [e] at h; cases h
  | some q => rw [e] at h; cases h; exact ⟨q.1, q.2, rfl, rfl⟩
end Mine.L05
end

section
open PySem PySem.W PyProof.Rows PyProof.V PySem.Calls Mine Mine.L05
set_option maxRecDepth 100000
set_option maxHeartbeats 400000
namespace Mine.L05
def wlist : List WE := [(28, o "", R0, T0), (49, o "", R1, T1), (35, o "", R2, T2), (56, o ">", R3, T3), (42, o "<", R4, T4)]
theorem cw05 (w : World) (p : Program) (loose : List Str) (mean : ExcName → Option Value) (mg mb : Str → Option Value) : ∀ e ∈ wlist, Writer PySem.Challenge.rw_dn0034_05.row.prog w (hd05.heap_39 w.params) p loose mean mg mb e := by
  k_fill
  have kp28 : keepIn (hd05.heap_39 w.params) (.ref 28) = true := by k_is
  have kp49 : keepIn (hd05.heap_39 w.params) (.ref 49) = true := by k_is
  have kp35 : keepIn (hd05.heap_39 w.params) (.ref 35) = true := by k_is
  have kp56 : keepIn (hd05.heap_39 w.params) (.ref 56) = true := by k_is
  have kp42 : keepIn (hd05.heap_39 w.params) (.ref 42) = true := by k_is
  intro e he
  simp only [wlist, List.mem_cons, List.not_mem_nil, or_false] at he
  rcases he with rfl | rfl | rfl | rfl | rfl
  · exact ⟨fun X t h => c28 _ _ _ _ _ _ X t (ok0.fits (by omega)).1, kp28, by decide +kernel, fun X => wr_plain ok0, ⟨_, ok0⟩, by decide, by decide +kernel⟩
  · exact ⟨fun X t h => c49 _ _ _ _ _ _ X t (ok1.fits (by omega)).1, kp49, by decide +kernel, fun X => wr_plain ok1, ⟨_, ok1⟩, by decide, by decide +kernel⟩
  · exact ⟨fun X t h => c35 _ _ _ _ _ _ X t (ok2.fits (by omega)).1, kp35, by decide +kernel, fun X => wr_plain ok2, ⟨_, ok2⟩, by decide, by decide +kernel⟩
  · exact ⟨fun X t h => c56 _ _ _ _ _ _ X t (ok3.fits (by omega)).1, kp56, by decide +kernel, fun X => wr_bare ok3, ⟨_, ok3⟩, by decide, by decide +kernel⟩
  · exact ⟨fun X t h => c42 _ _ _ _ _ _ X t (ok4.fits (by omega)).1, kp42, by decide +kernel, fun X => wr_bare ok4, ⟨_, ok4⟩, by decide, by decide +kernel⟩
end Mine.L05
end

open PySem PySem.W PyProof.Rows PyProof.V PySem.Calls Mine Mine.L05
set_option maxRecDepth 100000
set_option maxHeartbeats 400000
theorem PySem.Challenge.cw_dn0034_05_holds : PySem.Challenge.rw_dn0034_05.Holds :=
  hd05 (by
  k_go0
  refine law_out ‹Fr _ _ _ _› ?body ?post
  case post =>
    intro h' tk m' F'
    k_steps
    all_goals w_report
  case body =>
    have F9 := ‹Fr _ _ _ _›
    have N9 := ‹News _ _ _ _›
    have hl9 := ‹Heap.IsList _ _ _›
    have hi9 := ‹IntsAre _ _›
    have hlen9 := ‹¬ _ < (_ : Int)›
    have hc9 := ‹Obj.data _ = Data.cell _›
    refine' law_in1 ?a0 ?a1 ?ac ?a2 (Str.ofString "script") (Str.ofString "table") ?a3 ?a4 ?a5 ?a6 ?a7 ?a8 ?a9
    case a3 => exact rfl
    case a0 => exact F9
    case a1 => exact N9
    case ac => exact hc9
    case a2 => exact hl9
    case a4 => exact rfl
    case a5 => kernel_rfl
    case a6 => assumption
    case a7 => assumption
    case a8 => assumption
    case a9 =>
      intro A A₀ outer g L m s oc vc S hr F N hoc hm hl
      clear F9 N9
      dsimp only at S ⊢
      have hlen : ∀ n : Nat, ¬ (63 : Int) < n → n ≤ 63 := fun n h => by omega
      have hlen := hlen _ hlen9
      refine seq_let (h₀ := g) (cl := [(Str.ofString "table", L + 1)]) ?n1 ?n2 ?n3 ?n4
      case n1 => rfl
      case n2 => rfl
      case n3 => kernel_rfl
      refine call_name S F (f := 88) ?k1 ?k2 ?k3 ?k4 ?k5 rfl rfl
      case k1 => k_is
      case k2 => k_is
      case k3 => kernel_rfl
      case k4 => decide +kernel
      refine spliced_more ?_ rfl
      refine nm F hm ?_
      refine spliced_none ⟨S.X.keeps F.keep, ?_⟩
      refine c88 _ _ _ _ _ _ _ _ _ hi9 hlen _ _ _ _ _ _ _ _ _ _ _ _ S F N (hr.le (by decide)) hl ?_
      rintro v ex h₁ tk₁ F₁ N₁ _ htk₁ ⟨rfl, X, t, rfl, hX⟩
      refine ⟨_, _, F₁, N₁, fun h₂ F₂ N₂ => ?_⟩
      refine lt (cl := [(Str.ofString "table", L + 1)]) g ?_
      refine List_ ?_
      refine spliced_more ?_ rfl
      refine ev_wr (R := R0) (r := T0) (f := 28) S F₂ N₂ ?w0k0 ?w0k1 ?w0k2 ?w0k3 ?w0k4 ?w0k5 ?w0k6 ?w0k7 ?w0k8
      case w0k0 => exact Nat.le_add_left _ _
      case w0k1 => k_is
      case w0k2 => repeat (first | exact DPairs.nil | refine DPairs.cons ?_)
      case w0k3 => exact Nat.le_of_ble_eq_true rfl
      case w0k4 => decide +kernel
      case w0k6 => rfl
      case w0k7 => kernel_rfl
      case w0k8 => decide +kernel
      intro w0 hw0 tkw0 ex0 Fw0 Nw0 hne0 htk0 hWr0
      refine spliced_more ?_ rfl
      refine ev_wr (R := R1) (r := T1) (f := 49) S Fw0 Nw0 ?w1k0 ?w1k1 ?w1k2 ?w1k3 ?w1k4 ?w1k5 ?w1k6 ?w1k7 ?w1k8
      case w1k0 => exact htk0
      case w1k1 => k_is
      case w1k2 => repeat (first | exact DPairs.nil | refine DPairs.cons ?_)
      case w1k3 => exact Nat.le_of_ble_eq_true rfl
      case w1k4 => decide +kernel
      case w1k6 => rfl
      case w1k7 => kernel_rfl
      case w1k8 => decide +kernel
      intro w1 hw1 tkw1 ex1 Fw1 Nw1 hne1 htk1 hWr1
      refine spliced_more ?_ rfl
      refine ev_wr (R := R2) (r := T2) (f := 35) S Fw1 Nw1 ?w2k0 ?w2k1 ?w2k2 ?w2k3 ?w2k4 ?w2k5 ?w2k6 ?w2k7 ?w2k8
      case w2k0 => exact htk1
      case w2k1 => k_is
      case w2k2 => repeat (first | exact DPairs.nil | refine DPairs.cons ?_)
      case w2k3 => exact Nat.le_of_ble_eq_true rfl
      case w2k4 => decide +kernel
      case w2k6 => rfl
      case w2k7 => kernel_rfl
      case w2k8 => decide +kernel
      intro w2 hw2 tkw2 ex2 Fw2 Nw2 hne2 htk2 hWr2
      refine spliced_more ?_ rfl
      refine ev_wr (R := R3) (r := T3) (f := 56) S Fw2 Nw2 ?w3k0 ?w3k1 ?w3k2 ?w3k3 ?w3k4 ?w3k5 ?w3k6 ?w3k7 ?w3k8
      case w3k0 => exact htk2
      case w3k1 => k_is
      case w3k2 => repeat (first | exact DPairs.nil | refine DPairs.cons ?_)
      case w3k3 => exact Nat.le_of_ble_eq_true rfl
      case w3k4 => decide +kernel
      case w3k6 => rfl
      case w3k7 => kernel_rfl
      case w3k8 => decide +kernel
      intro w3 hw3 tkw3 ex3 Fw3 Nw3 hne3 htk3 hWr3
      refine spliced_more ?_ rfl
      refine ev_wr (R := R4) (r := T4) (f := 42) S Fw3 Nw3 ?w4k0 ?w4k1 ?w4k2 ?w4k3 ?w4k4 ?w4k5 ?w4k6 ?w4k7 ?w4k8
      case w4k0 => exact htk3
      case w4k1 => k_is
      case w4k2 => repeat (first | exact DPairs.nil | refine DPairs.cons ?_)
      case w4k3 => exact Nat.le_of_ble_eq_true rfl
      case w4k4 => decide +kernel
      case w4k6 => rfl
      case w4k7 => kernel_rfl
      case w4k8 => decide +kernel
      intro w4 hw4 tkw4 ex4 Fw4 Nw4 hne4 htk4 hWr4
      refine spliced_none ?_
      refine newList_N (s := { s with heap := hw4, toks := tkw4 }) Fw4 Nw4 (fun h₃ F₃ N₃ => ?_) (Nat.le_of_ble_eq_true rfl)
      refine ⟨_, _, F₃, N₃, fun h₄ F₄ N₄ => ?_⟩
      obtain ⟨W, NW, hWC, hWrs, hlW⟩ : ∃ W, News g L h₄ ((L + 1, oc) :: W) ∧ (∀ p ∈ W, p.1 ≠ L + 1) ∧ (∀ v ∈ [Value.ref w0, .ref w1, .ref w2, .ref w3, .ref w4], ∃ e ∈ wlist, Wr _ W e v) ∧ (hw4.objs.size, lstO [Value.ref w0, .ref w1, .ref w2, .ref w3, .ref w4]) ∈ W := by
        refine ⟨(hw4.objs.size, lstO [Value.ref w0, .ref w1, .ref w2, .ref w3, .ref w4]) :: (ex4 ++ (ex3 ++ (ex2 ++ (ex1 ++ ex0)))), ?_, ?_, ?_, .head _⟩
        · refine news_sub N₄ fun q hq => ?_
          simp only [List.mem_cons, List.mem_append, List.nil_append, List.not_mem_nil, or_false, lstO] at hq ⊢
          rcases hq with h | h | h | h | h | h | h <;> simp [h]
        · have c0 := hne0 (L + 1, oc) (by simp)
          have c1 := hne1 (L + 1, oc) (by simp)
          have c2 := hne2 (L + 1, oc) (by simp)
          have c3 := hne3 (L + 1, oc) (by simp)
          have c4 := hne4 (L + 1, oc) (by simp)
          have cz : L + 1 < hw4.objs.size := Heap.lt_size (Nw4 (L + 1, oc) (by simp)).1
          intro p hp
          simp only [List.mem_cons, List.mem_append] at hp
          rcases hp with rfl | hp | hp | hp | hp | hp
          · exact Nat.ne_of_gt cz
          · exact (c4 p hp).symm
          · exact (c3 p hp).symm
          · exact (c2 p hp).symm
          · exact (c1 p hp).symm
          · exact (c0 p hp).symm
        · intro v hv
          simp only [List.mem_cons, List.not_mem_nil, or_false] at hv
          rcases hv with rfl | rfl | rfl | rfl | rfl
          · exact ⟨_, List.mem_of_getElem? (i := 0) rfl, hWr0.mono fun q hq => by simp [hq]⟩
          · exact ⟨_, List.mem_of_getElem? (i := 1) rfl, hWr1.mono fun q hq => by simp [hq]⟩
          · exact ⟨_, List.mem_of_getElem? (i := 2) rfl, hWr2.mono fun q hq => by simp [hq]⟩
          · exact ⟨_, List.mem_of_getElem? (i := 3) rfl, hWr3.mono fun q hq => by simp [hq]⟩
          · exact ⟨_, List.mem_of_getElem? (i := 4) rfl, hWr4.mono fun q hq => by simp [hq]⟩
      clear N₄ N₃ Nw4 Nw3 Nw2 Nw1 Nw0 hWr0 hWr1 hWr2 hWr3 hWr4
      refine for_list_t (cl := [(Str.ofString "table", L + 1)]) (vs := [Value.ref w0, .ref w1, .ref w2, .ref w3, .ref w4]) (l := hw4.objs.size) (fun _ m₁ n₁ => (∃ o v, n₁ = (L + 1, o) :: W ∧ o.data = .cell v) ∧ m₁ (Str.ofString "text") = some (.str X t)) S.hh F₄ NW ?f1 ?f2 ?f3 ?f4 ?f5 ?f6 ?f7 ?f8 ?f9
      case f1 => exact upd_at ..
      case f2 => exact .inl ⟨0, .tail _ hlW⟩
      case f3 => exact ⟨⟨oc, vc, rfl, hoc⟩, (upd_ne (by decide +kernel)).trans (upd_at ..)⟩
      case f4 => rfl
      case f5 => kernel_rfl
      case f6 => decide +kernel
      case f7 => exact fun _ => rfl
      case f9 =>
        intro h' tk m' news' F' N' _ _
        refine seq_ret ?_
        exact wpAny_Constant_bool ⟨_, _, _, rfl, rfl, F'⟩
      rintro i v m₁ news₁ h₅ tk₅ own I hv ⟨⟨o₁, v₁, rfl, ho₁⟩, ht₁⟩ hoff hown F₅ N₅
      obtain ⟨e, he, T, tb, d, tkd, rfl, hT, hd, htkd, lod⟩ := hWrs v (List.mem_of_getElem? hv)
      have Wt := wt_of S fun p loose mean mg mb => cw05 _ p loose mean mg mb e he
      have hX4 : X.length ≤ 400 := by omega
      have hownC : ∀ p ∈ own, p.1 ≠ L + 1 := by
        intro p hp
        rcases hown p hp with h | h
        · rw [h]; exact (hoff _ (.head _)).symm
        · rw [h]; exact hWC _ hlW
      have hmem : ∀ q ∈ W, q ∈ own ++ (L + 1, o₁) :: W := fun q hq => List.mem_append_right _ (.tail _ hq)
      have hTup : IsTup h₅ T #[.ref e.1, .str e.2.1 tb, .ref d] := ⟨_, (N₅ _ (hmem _ hT)).1, rfl, _, rfl⟩
      refine assign_Tuple_tuple S.hh hTup rfl rfl fun h₆ hx => ?_
      have F₆ := F₅.extBut hx (Nat.le_refl _)
      have N₆ := news_ext N₅ hx
      refine assignInOrder_cons (PyProof.Rows.assign_Name ?_)
      refine storeX_L (s := { s with heap := h₆, toks := tk₅ }) F₆ N₆ (fun h₇ F₇ N₇ => ?_) rfl (by kernel_rfl)
      refine assignInOrder_cons (PyProof.Rows.assign_Name ?_)
      refine storeX_L (s := { s with heap := h₇, toks := tk₅ + 1 }) F₇ N₇ (fun h₈ F₈ N₈ => ?_) rfl (by kernel_rfl)
      refine assignInOrder_cons (PyProof.Rows.assign_Name ?_)
      refine storeX_C (s := { s with heap := h₈, toks := tk₅ + 1 + 1 }) (c := L + 1) F₈ N₈ rfl (updF_mid hWC hownC) ho₁ (fun h₉ o₉ F₉ N₉ hd₉ => ?_) rfl (by kernel_rfl)
      refine assignInOrder_nil ?_
      obtain ⟨m₂, F, hmw, hmb, hmt⟩ : ∃ m₂, Fr g L h₉ m₂ ∧ m₂ (Str.ofString "write") = some (.ref e.1) ∧ m₂ (Str.ofString "bare") = some (.str e.2.1 tb) ∧ m₂ (Str.ofString "text") = some (.str X t) :=
        ⟨upd (upd m₁ (Str.ofString "write") (.ref e.1)) (Str.ofString "bare") (.str e.2.1 tb), F₉, (upd_ne (by decide +kernel)).trans (upd_at ..), upd_at .., (upd_ne (by decide +kernel)).trans ((upd_ne (by decide +kernel)).trans ht₁)⟩
      have hq1 : ∀ q ∈ W, q ∈ own ++ (L + 1, o₉) :: W := fun q hq => List.mem_append_right _ (.tail _ hq)
      have hq2 : (L + 1, o₉) ∈ own ++ (L + 1, o₉) :: W := List.mem_append_right _ (.head _)
      have N := N₉
      generalize hnws : own ++ (L + 1, o₉) :: W = nws at N hq1 hq2
      clear F₉ N₉ F₈ N₈ F₇ N₇ F₆ N₆ F₅ N₅ F₄ NW
      refine lt (cl := [(Str.ofString "table", L + 1)]) g ?_
      refine wpAny_mono (Q := fun v s' => ∃ P pl h tk, v = .ref P ∧ s' = { s with heap := h, toks := tk } ∧ pl.map (·.1) = partsOf X e.2.1 ∧ Fr g L h m₂ ∧ News g L h ((P, lstO (strValues pl)) :: nws)) (E := fun _ _ => False) ?q1 ?q2 (fun _ _ x => x)
      case q1 =>
        refine IfExp_ (wpAny_isTrue_Compare1 ?_)
        refine nm F hmb ?_
        refine wpAny_Constant_str ?_
        refine eq_str (wpAny_truthy_bool ?_)
        split
        · rename_i hz
          have hz := (bare_iff _).mp hz
          refine List_ (spliced_more ?_ rfl)
          refine nm F hmt ?_
          refine spliced_none ?_
          refine newList_N (s := { s with heap := h₉, toks := tk₅ + 1 + 1 + 1 }) F N (fun h F N => ⟨_, [(X, t)], h, _, rfl, rfl, ?_, F, N⟩) (Nat.le_of_ble_eq_true rfl)
          unfold partsOf
          rw [if_pos hz]; rfl
        · rename_i hz
          have hz : ¬ e.2.1.length = 0 := fun q => hz ((bare_iff _).mpr q)
          refine mcall rfl rfl rfl ?_
          refine nm F hmt ?_
          refine GM.split ?_
          refine callWith_method1 (spliced_more ?_ rfl) rfl rfl
          refine nm F hmb ?_
          refine spliced_none ?_
          refine splitN1 (s := { s with heap := h₉, toks := tk₅ + 1 + 1 + 1 }) F N ?_ (fun l h k hl F N => ⟨_, l, h, k, rfl, rfl, ?_, F, N⟩) ?_
          · exact beq_eq_false_iff_ne.mpr hz
          · rw [hl]; unfold partsOf; rw [if_neg hz]
          · rw [sizeLine_eq]; omega
      rintro v s' ⟨P, pl, h₁₀, tk₁₀, rfl, rfl, hpl, F₁₀, N₁₀⟩
      refine ⟨_, _, F₁₀, N₁₀, fun h₁₁ F₁₁ N₁₁ => ?_⟩
      have hmt1 : upd m₂ (Str.ofString "parts") (.ref P) (Str.ofString "text") = some (.str X t) := (upd_ne (by decide +kernel)).trans hmt
      have hmw1 : upd m₂ (Str.ofString "parts") (.ref P) (Str.ofString "write") = some (.ref e.1) := (upd_ne (by decide +kernel)).trans hmw
      refine lt (cl := [(Str.ofString "table", L + 1)]) g ?_
      refine Call_ ?_
      refine nm F₁₁ hmw1 ?_
      refine callWith_K (first := []) S.X Wt.kp ?_ rfl rfl
      refine spliced_more ?_ rfl
      refine nm F₁₁ hmt1 ?_
      refine spliced_none ⟨S.X.keeps F₁₁.keep, ?_⟩
      refine Wt.gives X t hX4 _ _ _ _ _ _ _ _ _ _ _ _ S F₁₁ N₁₁ (hr.le (by decide)) trivial ?_
      rintro v ex h₁₂ tk₁₂ F₁₂ N₁₂ _ htk₁₂ ⟨rfl, t', rfl⟩
      refine ⟨_, _, F₁₂, N₁₂, fun h₁₃ F₁₃ N₁₃ => ?_⟩
      obtain ⟨m₃, F, hmo, hmb, hmt, hmp⟩ : ∃ m₃, Fr g L h₁₃ m₃ ∧ m₃ (Str.ofString "told") = some (.str (repls X e.2.2.1) t') ∧ m₃ (Str.ofString "bare") = some (.str e.2.1 tb) ∧ m₃ (Str.ofString "text") = some (.str X t) ∧ m₃ (Str.ofString "parts") = some (.ref P) :=
        ⟨_, F₁₃, upd_at .., (upd_ne (by decide +kernel)).trans ((upd_ne (by decide +kernel)).trans hmb), (upd_ne (by decide +kernel)).trans hmt1, (upd_ne (by decide +kernel)).trans (upd_at ..)⟩
      have N : News g L h₁₃ ((P, lstO (strValues pl)) :: nws) := N₁₃
      clear F₁₃ N₁₃ F₁₂ N₁₂ F₁₁ N₁₁ F₁₀ N₁₀ hmt1 hmw1
      obtain ⟨c, ok⟩ := Wt.ok
      have hcount : (partsOf X e.2.1).length ≤ 1000 := by have := parts_len X e.2.1; omega
      refine seq_if ?_
      refine wpAny_isTrue_Compare1 ?_
      refine nm F hmo ?_
      refine mcall rfl rfl rfl ?_
      refine nm F hmb ?_
      refine GM.join ?_
      refine callWith_method1 (spliced_more ?_ rfl) rfl rfl
      refine comp_list (cl := [(Str.ofString "table", L + 1)]) (h₀ := g) (L := L) (m := m₃) (fun i y => ∃ p t, (partsOf X e.2.1)[i]? = some p ∧ y = .str (repls (repls p L05.S) e.2.2.2) t) S.hh F ?r1 ?r2 rfl ?r3 ?r4 ?r5 ?r6
      case r1 => rfl
      case r2 => decide +kernel
      case r3 => decide +kernel
      case r4 => kernel_rfl
      case r5 => exact fun _ => rfl
      case r6 =>
      refine nm F hmp ?_
      refine ⟨P, strValues pl, (P, lstO (strValues pl)) :: nws, rfl, F, N, .inl ⟨0, .head _⟩, ?s1, ?s2, ?s3⟩
      case s1 =>
        have : (strValues pl).length = (partsOf X e.2.1).length := by rw [← hpl]; simp [strValues]
        rw [this, sizeLine_eq]; omega
      case s2 =>
        intro i v C m₄ own' s₂ hv hns hxv F N
        obtain ⟨p, tp, rfl, hp⟩ := strValues_at hv
        rw [hpl] at hp
        have hpX := parts_each (List.mem_of_getElem? hp)
        refine Call_ ?_
        refine cname_K F S.X (topRead_of S.T) (v := .ref 72) ?k11 ?k12 rfl rfl ?k13 ?k14
        case k11 => k_is
        case k13 => kernel_rfl
        case k14 => decide +kernel
        refine callWith_K (first := []) S.X ?k15 ?_ rfl rfl
        case k15 => k_is
        refine spliced_more ?_ rfl
        refine cname_L hns hxv ?_ rfl (by kernel_rfl) (by decide +kernel)
        refine spliced_more ?_ rfl
        have hq3 : ∀ q ∈ nws, q ∈ own' ++ (P, lstO (strValues pl)) :: nws := fun q hq => List.mem_append_right _ (.tail _ hq)
        refine cname_C (c := L + 1) (o := o₉) N rfl (hq3 _ hq2) hd₉ ?_ rfl (by kernel_rfl) (by decide +kernel)
        refine spliced_none ⟨S.X.keeps F.keep, ?_⟩
        have hfit := fits_append.mp (ok.fits (X := p) (by omega)).2
        refine c72 (X := p) (t := tp) (d := d) (l := lnFrom tkd e.2.2.2) (ep := e.2.2.2.length) _ _ _ _ _ _ hfit.1 (by rw [lnFrom_reps]; exact hfit.2) (by rw [lnFrom_keys]; exact ok.nodup.1) (lnFrom_ok _ _ htkd) (ln_ne Wt.ne) lod (by rw [lnFrom_length]; have := Wt.few; omega)
          _ _ _ _ _ _ _ _ _ _ _ _ S F N (hr.le (by decide)) ⟨.inl (hq3 _ (hq1 _ hd)), fun _ => hq3 _ (hq1 _ hd)⟩ ?_
        rintro v ex h' tk' F' N' _ _ ⟨rfl, t₂, rfl⟩
        exact ⟨_, _, rfl, F', N', p, t₂, hp, by rw [lnFrom_reps]⟩
      intro ys D h tk hlen hR F N hne
      obtain ⟨l', rfl, hl'⟩ := strs_told (f := fun p => repls (repls p L05.S) e.2.2.2) (ys := ys) (ps := partsOf X e.2.1) (by rw [hlen, ← hpl]; simp [strValues]) (fun i y p hy hp => by
        obtain ⟨p', t₃, hp', rfl⟩ := hR i y hy
        rw [hp] at hp'; cases hp'
        exact ⟨t₃, rfl⟩)
      refine spliced_none ?_
      refine SC.join (l := l') ⟨_, (N _ (.head _)).1, rfl, _, rfl⟩ hl' (Wt.joinOk hX4) ?_
      intro t₃ k₃
      rw [Wt.law]
      refine ne_str (wpAny_truthy_bool ?_)
      rw [bne_self_eq_false, if_neg Bool.false_ne_true]
      refine wpAny_execs_nil ?_
      dsimp only
      have hq4 : ∀ q ∈ nws, q ∈ (D, LCg.lst (strValues l')) :: (P, lstO (strValues pl)) :: nws := fun q hq => .tail _ (.tail _ hq)
      refine seq_if ?_
      refine wpAny_isTrue_Compare1 ?_
      refine call_name S F (f := 81) ?x1 ?x2 ?x3 ?x4 ?x5 rfl rfl
      case x1 => k_is
      case x2 => k_is
      case x3 => kernel_rfl
      case x4 => decide +kernel
      refine spliced_more ?_ rfl
      refine nm F hmo ?_
      refine spliced_more ?_ rfl
      refine comp_dict_keys (cl := [(Str.ofString "table", L + 1)]) (d := d) (l := lnFrom tkd e.2.2.2) (ep := e.2.2.2.length) (h₀ := g) (L := L) (m := m₃) flip S.hh F N (hq4 _ (hq1 _ hd)) ?y1 lod ?y2 ?y3 S.T.nolimit ?y4 ?y5 rfl ?y6 ?y7 ?y8 ?y9 ?y10 ?y11 ?y12
      case y1 => rw [lnFrom_keys]; exact ok.nodup.1
      case y2 => rw [lnFrom_length]; have := Wt.few; omega
      case y3 => rw [flip_keys]; exact ok.nodup.2
      case y4 => rfl
      case y5 => decide +kernel
      case y6 => decide +kernel
      case y7 => kernel_rfl
      case y8 => exact fun _ => rfl
      case y9 =>
        intro Q h
        exact nameX_C (c := L + 1) (o := o₉) N rfl (hq4 _ hq2) hd₉ h rfl (by kernel_rfl) (by decide +kernel)
      case y10 =>
        intro e' C m₄ own' s₂ he' hns hxv F N
        refine Subscript_ ?_
        refine cname_C (c := L + 1) (o := o₉) N rfl (List.mem_append_right _ (hq4 _ hq2)) hd₉ ?_ rfl (by kernel_rfl) (by decide +kernel)
        refine cname_L hns hxv ?_ rfl (by kernel_rfl) (by decide +kernel)
        refine tail_line (N _ (List.mem_append_right _ (hq4 _ (hq1 _ hd)))).1 (by rw [lnFrom_keys]; exact ok.nodup.1) he' rfl ⟨rfl, _, _, rfl, F, N⟩
      case y11 =>
        intro e' C m₄ own' s₂ he' hns hxv F N
        exact cname_L hns hxv ⟨rfl, _, _, rfl, F, N⟩ rfl (by kernel_rfl) (by decide +kernel)
      intro D₂ h₂₀ tk₂₀ F N hne₂ loD
      refine spliced_none ⟨S.X.keeps F.keep, ?_⟩
      obtain ⟨fa, fb, fc⟩ := ok.back3 hX4
      refine c81 (X := repls X e.2.2.1) (t := t') (d := D₂) (l := (lnFrom tkd e.2.2.2).map flip) (ep := (lnFrom tkd e.2.2.2).length) _ _ _ _ _ _ fa (by rw [flip_reps]; exact fb) (by rw [flip_reps]; exact fc) (by rw [flip_keys]; exact ok.nodup.2) (flip_ok _ _ htkd) (flip_ne Wt.ne) loD (by rw [List.length_map, lnFrom_length]; have := Wt.few; omega)
          _ _ _ _ _ _ _ _ _ _ _ _ S F N (hr.le (by decide)) ⟨.inl (.head _), fun _ => .head _⟩ ?_
      rintro v ex h₂₁ tk₂₁ F N _ _ ⟨rfl, t₄, rfl⟩
      refine nm F hmt ?_
      refine ne_str (wpAny_truthy_bool ?_)
      rw [flip_reps, ok.read, bne_self_eq_false, if_neg Bool.false_ne_true]
      refine wpAny_execs_nil ?_
      dsimp only
      refine wpAny_execs_nil ?_
      refine ⟨rfl, h₂₁, tk₂₁, m₃, (L + 1, o₉) :: W, rfl, F, ?_, ?_, ⟨o₉, _, rfl, hd₉⟩, hmt⟩
      · rw [hnws]
        exact news_sub N fun q hq => .tail _ (.tail _ (.tail _ hq))
      · intro p hp
        rcases List.mem_cons.mp hp with rfl | hp
        · exact hoff (L + 1, o₁) (.head _)
        · exact hoff p (.tail _ hp))
