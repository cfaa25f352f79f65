import PyProof.Rows.All
import Wide.All
import OpenK.AllK
import Wide.FinOn
import PySem.Challenge.RW_dn0034_03
set_option Elab.async false
set_option linter.unusedVariables false

section
open PySem PySem.StrLaws PySem.Builtin.Str
namespace Mine

/-- replace, sign by sign: `k` signs are still to be skipped -/
def rpl (y z : List Nat) : Nat → List Nat → List Nat
  | _, [] => []
  | 0, a :: t => if y.isPrefixOf (a :: t) then z ++ rpl y z (y.length - 1) t else a :: rpl y z 0 t
  | k + 1, _ :: t => rpl y z k t

theorem rpl_drop (y z : List Nat) : ∀ (k : Nat) (l : List Nat), rpl y z k l = rpl y z 0 (l.drop k)
  | 0, l => by simp
  | k + 1, [] => by simp [rpl]
  | k + 1, a :: t => by simp only [rpl, List.drop_succ_cons]; exact rpl_drop y z k t

theorem rpl_hit {y z l : List Nat} (hy : 1 ≤ y.length) (h : (l.take y.length) = y) : rpl y z 0 l = z ++ rpl y z 0 (l.drop y.length) := by
  cases l with
  | nil => simp at h; subst h; simp at hy
  | cons a t =>
    have hp : y.isPrefixOf (a :: t) = true := by
      rw [List.isPrefixOf_iff_prefix]
      exact ⟨(a :: t).drop y.length, by rw (occs := .pos [1]) [← h]; exact List.take_append_drop _ _⟩
    rw [rpl, if_pos hp, rpl_drop]
    congr 2
    cases hl : y.length with
    | zero => omega
    | succ n => simp

theorem rpl_miss {y z : List Nat} : ∀ (n : Nat) (l : List Nat), (∀ k, k < n → ¬ ((l.drop k).take y.length = y)) → rpl y z 0 l = l.take n ++ rpl y z 0 (l.drop n)
  | 0, l, _ => by simp
  | n + 1, [], _ => by simp [rpl]
  | n + 1, a :: t, h => by
    have hp : ¬ (y.isPrefixOf (a :: t) = true) := by
      rw [List.isPrefixOf_iff_prefix]
      rintro ⟨r, e⟩
      exact h 0 (by omega) (by rw [List.drop_zero, ← e, List.take_left])
    rw [rpl, if_neg hp, rpl_miss n t (fun k hk => by have := h (k + 1) (by omega); simpa using this)]
    simp

theorem rpl_nil (y z : List Nat) : rpl y z 0 [] = [] := rfl

theorem at_iff (x y : Str) (i : Nat) : At x y x.length i ↔ i + y.length ≤ x.length ∧ (x.cps.toList.drop i).take y.length = y.cps.toList := by
  unfold At
  rw [subAt_eq, beq_iff_eq]

theorem tl (x : Str) : x.cps.toList.length = x.length := by simp [Str.length]

theorem not_at {x y : Str} {i : Nat} (hy : 1 ≤ y.length) (h : ¬ At x y x.length i) : ¬ ((x.cps.toList.drop i).take y.cps.toList.length = y.cps.toList) := by
  intro e
  rw [tl] at e
  refine h ((at_iff x y i).mpr ⟨?_, e⟩)
  have := congrArg List.length e
  rw [List.length_take, List.length_drop, tl, tl] at this
  omega

theorem toList_join_cons (z p : Str) (r : List Str) (hr : r ≠ []) : (Str.join z (p :: r)).cps.toList = p.cps.toList ++ z.cps.toList ++ (Str.join z r).cps.toList := by
  cases r with
  | nil => exact absurd rfl hr
  | cons q r => simp only [Str.join, Str.cps_append, Array.toList_append]

theorem partsFrom_nonempty (x : Str) (w a : Nat) (cuts : List Nat) : StrLaws.partsFrom x w a cuts ≠ [] := by
  cases cuts <;> simp [StrLaws.partsFrom]

theorem join_chain (x y z : Str) (hy : 1 ≤ y.length) : ∀ (cuts : List Nat) (a f : Nat), ChainG x y x.length a cuts f → (∀ k, f ≤ k → ¬ At x y x.length k) →
    (Str.join z (StrLaws.partsFrom x y.length a cuts)).cps.toList = rpl y.cps.toList z.cps.toList 0 (x.cps.toList.drop a)
  | [], a, f, h, hf => by
    have e : f = a := h
    subst e
    show (strSub x f x.length).cps.toList = _
    rw [strSub_toList, rpl_miss (x.length - f) _ (fun k _ => by rw [List.drop_drop]; exact not_at hy (hf _ (by omega)))]
    rw [List.drop_drop, List.drop_eq_nil_of_le (as := x.cps.toList) (i := f + (x.length - f)) (by rw [tl]; have := h; omega), rpl_nil, List.append_nil]
  | c :: r, a, f, h, hf => by
    obtain ⟨hac, hA, hno, hr⟩ := h
    have ih := join_chain x y z hy r (c + y.length) f hr hf
    rw [StrLaws.partsFrom, toList_join_cons _ _ _ (partsFrom_nonempty _ _ _ _), ih, strSub_toList]
    rw [rpl_miss (c - a) (x.cps.toList.drop a) (fun k hk => by rw [List.drop_drop]; exact not_at hy (hno _ (by omega) (by omega)))]
    rw [List.drop_drop, show a + (c - a) = c by omega]
    have h2 := ((at_iff x y c).mp hA).2
    rw [← tl y] at h2
    rw [rpl_hit (y := y.cps.toList) (by rw [tl]; exact hy) h2, List.drop_drop, tl, List.append_assoc]

/-- str.replace, sign by sign -/
theorem replace_rpl (x y z : Str) (hy : 1 ≤ y.length) : (Txt.replace x y z).cps.toList = rpl y.cps.toList z.cps.toList 0 x.cps.toList := by
  obtain ⟨f, hc, hf⟩ := occ_tight x y hy
  have key := join_chain x y z hy _ 0 f hc hf
  rw [List.drop_zero] at key
  unfold Txt.replace
  have hy0 : (y.length == 0) = false := by rw [beq_eq_false_iff_ne]; omega
  rw [hy0, Bool.false_and, Bool.or_false]
  split
  · rename_i he
    rw [List.isEmpty_iff.mp he] at key
    rw [← key]
    show _ = (strSub x 0 x.length).cps.toList
    rw [sub_whole]
  · rw [glued_eq_join, partsBetween_eq, key]
end Mine
end

section
open PySem
namespace Mine

theorem runs_toks {M : Model} {Γ : Ctx} {p : Pos} {t : Sem Fin} {fs : List Frame} {s : Shared} {e : End} {s' : Shared} (h : Runs M Γ p t fs s e s') : s.toks ≤ s'.toks := by
  induction h with
  | done => exact Nat.le_refl _
  | raise => exact Nat.le_refl _
  | yield => exact Nat.le_refl _
  | fresh _ ih => exact Nat.le_trans (Nat.le_succ _) ih
  | call _ _ ih1 ih2 => exact Nat.le_trans ih1 ih2
  | resumeFresh _ _ _ _ ih1 ih2 => exact Nat.le_trans ih1 ih2
  | resumeSuspended _ _ _ _ ih1 ih2 => exact Nat.le_trans ih1 ih2
  | segRet _ _ ih1 ih2 => exact Nat.le_trans ih1 ih2
  | segGen _ _ ih1 ih2 => exact Nat.le_trans ih1 ih2
  | segSuspGen _ _ _ _ ih1 ih2 => exact Nat.le_trans ih1 ih2
  | _ => assumption

theorem wakes_toks {M : Model} {Γ : Ctx} {p : Pos} {g : Nat} {r : Resume} {s : Shared} {res : GenResult} {s' : Shared} (h : Wakes M Γ p g r s res s') : s.toks ≤ s'.toks := by
  unfold Wakes at h
  split at h
  · exact h.elim
  · split at h
    · obtain ⟨e, s1, hr, _, _, rfl⟩ := h; have := runs_toks hr; exact this
    · obtain ⟨_, rfl⟩ := h; exact Nat.le_refl _
    · obtain ⟨_, rfl⟩ := h; exact Nat.le_refl _
  · obtain ⟨e, s1, hr, _, _, rfl⟩ := h; have := runs_toks hr; exact this
  · obtain ⟨_, rfl⟩ := h; exact Nat.le_refl _
  · obtain ⟨_, rfl⟩ := h; exact Nat.le_refl _

/-- what runs never lowers the tokens -/
theorem wp_toks {α : Type} {M : Model} {Γ : Ctx} {n : Nat} {E : Value → Pos → Shared → Prop} {Q : α → Pos → Shared → Prop} : ∀ (t : Sem α) (p : Pos) (s : Shared), n ≤ s.toks →
    Sem.wp M Γ t (fun a p s' => n ≤ s'.toks → Q a p s') (fun e p s' => n ≤ s'.toks → E e p s') p s → Sem.wp M Γ t Q E p s := by
  intro t
  induction t with
  | pure a => intro p s hn h; rw [Sem.wp] at h ⊢; exact h hn
  | raise e => intro p s hn h; rw [Sem.wp] at h ⊢; exact h hn
  | unsupported w => intro p s hn h; rw [Sem.wp] at h; exact h.elim
  | finish w => intro p s hn h; rw [Sem.wp] at h; exact h.elim
  | rule t k ih => intro p s hn h; rw [Sem.wp] at h ⊢; exact ih () _ _ hn h
  | «at» p' k ih => intro p s hn h; rw [Sem.wp] at h ⊢; exact ih () _ _ hn h
  | load a pt k ih => intro p s hn h; rw [Sem.wp] at h ⊢; obtain ⟨o, ho, h⟩ := h; exact ⟨o, ho, ih o _ _ hn h⟩
  | update a pt f k ih => intro p s hn h; rw [Sem.wp] at h ⊢; exact ⟨h.1, ih () _ _ hn h.2⟩
  | alloc o k ih => intro p s hn h; rw [Sem.wp] at h ⊢; exact ih _ _ _ hn h
  | loadIfAlive a k ih => intro p s hn h; rw [Sem.wp] at h ⊢; exact ih _ _ _ hn h
  | point l k ih => intro p s hn h; rw [Sem.wp] at h ⊢; exact ih () _ _ hn h
  | register a k ih => intro p s hn h; rw [Sem.wp] at h; exact h.elim
  | fresh k ih => intro p s hn h; rw [Sem.wp] at h ⊢; exact ih _ _ _ (Nat.le_succ_of_le hn) h
  | ask k ih => intro p s hn h; rw [Sem.wp] at h ⊢; exact ih _ _ _ hn h
  | choose src n k ih => intro p s hn h; rw [Sem.wp] at h ⊢; exact ⟨h.1, ih _ _ _ hn h.2⟩
  | os q l k ih => intro p s hn h; rw [Sem.wp] at h ⊢; exact ih _ _ _ hn h
  | call c hd g l k ih =>
    intro p s hn h
    rw [Sem.wp] at h ⊢
    obtain ⟨r, s', hr, h⟩ := h
    exact ⟨r, s', hr, ih r _ _ (Nat.le_trans hn (runs_toks hr)) h⟩
  | handled o k ih => intro p s hn h; rw [Sem.wp] at h ⊢; exact ih _ _ _ hn h
  | newGen c k ih => intro p s hn h; rw [Sem.wp] at h ⊢; exact ih _ _ _ hn h
  | genState g k ih => intro p s hn h; rw [Sem.wp] at h ⊢; obtain ⟨o, ho, h⟩ := h; exact ⟨o, ho, ih _ _ _ hn h⟩
  | resume g r l k ih =>
    intro p s hn h
    rw [Sem.wp] at h ⊢
    obtain ⟨r, s', hr, h⟩ := h
    exact ⟨r, s', hr, ih r _ _ (Nat.le_trans hn (wakes_toks hr)) h⟩
  | yield v g l k ih => intro p s hn h; rw [Sem.wp] at h; exact h.elim
  | stack k ih => intro p s hn h; rw [Sem.wp] at h ⊢; exact ih _ _ _ hn h
  | fork c k ih => intro p s hn h; rw [Sem.wp] at h; exact h.elim
  | thread k ih => intro p s hn h; rw [Sem.wp] at h ⊢; exact ih _ _ _ hn h
  | await a f d l k ih => intro p s hn h; rw [Sem.wp] at h; exact h.elim

theorem toks_le {α : Type} {M : Model} {A : Around} {t : Sem α} {E : Value → Shared → Prop} {Q : α → Shared → Prop} {s : Shared}
    (h : wpAny M A t (fun a s' => s.toks ≤ s'.toks → Q a s') (fun e s' => s.toks ≤ s'.toks → E e s') s) : wpAny M A t Q E s :=
  fun Γ p hΓ => wp_toks t p s (Nat.le_refl _) (h Γ p hΓ)
theorem toksQ {α : Type} {M : Model} {A : Around} {t : Sem α} {E : Value → Shared → Prop} {Q : α → Shared → Prop} {s : Shared}
    (h : wpAny M A t (fun a s' => s.toks ≤ s'.toks → Q a s') E s) : wpAny M A t Q E s :=
  toks_le (wpAny_mono h (fun _ _ x => x) fun _ _ x _ => x)

end Mine
end

section
open PySem PySem.W PyProof.Rows
set_option maxRecDepth 100000
namespace Mine
section
variable {M : Model} {prog : Program} {w : World} {A : Around} {E : Value → Shared → Prop} {s : Shared} {h₀ : Heap} {L a : Addr} {m : Str → Option Value}
  {cn : Str} {cs : Scope} {ccd : Value} {cl : List (Str × Addr)} {news : List (Addr × Obj)} {env : Env}

/-- a method's call, the receiver not a call of super -/
theorem mcall {o : Expr} {name : Str} {apos pos : Pos} {args : List Expr} {Q : Value → Shared → Prop}
    (hp : (apos.endLine == pos.line) = true) (hf : methodCallForm (args.length + ([] : List Keyword).length) (backTo pos (starEach args env)) (backToKw pos (keywordEach [] env)) = true)
    (ho : attributeBase o name env (eval o env) = eval o env)
    (h : wpAny M A (eval o env) (fun ov s₁ => wpAny M A (getMethod ov name (do return (← importBound o env).getD true)) (fun fx s₂ => wpAny M A (callWith pos fx.1 fx.2 (backTo pos (starEach args env)) []) Q E s₂) E s₁) E s) :
    wpAny M A (eval (.Call (.Attribute o name apos) args [] pos) env) Q E s := by
  have he : eval (.Call (.Attribute o name apos) args [] pos) env = (do
    let ov ← attributeBase o name env (eval o env)
    standAt apos.atName
    methodCall o name apos pos env ov (args.length + ([] : List Keyword).length) (backTo pos (starEach args env)) (backToKw pos (keywordEach [] env))) := rfl
  rw [he, ho]
  refine wpAny_bind (wpAny_mono h (fun ov s₁ h₁ => wpAny_bind (wpAny_standAt ?_)) fun _ _ x => x)
  unfold methodCall
  rw [hf]
  refine wpAny_bind (wpAny_holding ?_)
  unfold calleeOf
  rw [if_pos rfl]
  refine wpAny_mono h₁ (fun fx s₂ h₂ => ?_) fun _ _ x => x
  unfold methodCallPos
  rw [hp]
  exact wpAny_bind (wpAny_pure h₂)

/-- x.replace(y, z), y and z written -/
theorem ev_replace {x y z X : Str} {t : Tok} {k1 k2 : Nat} {p1 p2 p3 p4 p5 : Pos} {Q : Value → Shared → Prop} (F : Fr h₀ L s.heap m) (hm : m x = some (.str X t)) (h1 : 1 ≤ s.toks)
    (hp : (p2.endLine == p5.line) = true)
    (hyz : (y == z) = false) (hb : X.length + (X.length + 1) * z.length ≤ 16777216)
    (hk : cs.kind = .function) (hx : (envX cn cs L a ccd cl).kindOf x = some .local) (hd : (x == ("__debug__" : Str)) = false)
    (h : ∀ t' k, 1 ≤ k → Q (.str (Txt.replace X y z) t') { s with toks := k }) :
    wpAny (model prog w) A (eval (.Call (.Attribute (.Name x p1) (Str.ofString "replace") p2) [.Constant (.str y) k1 p3, .Constant (.str z) k2 p4] [] p5) (envX cn cs L a ccd cl)) Q E s := by
  refine mcall hp rfl rfl (nameX_L F hm ?_ hk hx hd)
  refine GM.replace ?_
  refine callWith_method1 (spliced_more (Calls.Constant_str (spliced_more (Calls.Constant_str (spliced_none ?_)) rfl)) rfl) rfl rfl
  refine toks_le (SC.replace ?_ ?_ ?_ hyz hb ?_)
  · show s.toks ≠ 0; omega
  · show s.toks + 1 ≠ 0; omega
  · exact Nat.ne_of_lt (Nat.lt_succ_self s.toks)
  · intro t' k hk'
    exact h t' k (by have : s.toks + 1 + 1 ≤ k := hk'; omega)

/-- a frame's map with one name set -/
def upd (m : Str → Option Value) (x : Str) (v : Value) : Str → Option Value := fun q => if q = x then some v else m q
theorem upd_at (m : Str → Option Value) (x : Str) (v : Value) : upd m x v x = some v := by simp [upd]
theorem upd_upd (m : Str → Option Value) (x : Str) (v v' : Value) : upd (upd m x v) x v' = upd m x v' := by
  funext q; unfold upd; by_cases h : q = x <;> simp [h]
theorem upd_same {m : Str → Option Value} {x : Str} {v : Value} (h : m x = some v) : upd m x v = m := by
  funext q; unfold upd; by_cases e : q = x <;> simp [e, h]

/-- x = x.replace(y, z) -/
theorem st_replace {x y z X : Str} {t : Tok} {k1 k2 : Nat} {p0 p1 p2 p3 p4 p5 p6 : Pos} {Q : Flow → Shared → Prop} (F : Fr h₀ L s.heap (upd m x (.str X t))) (N : News h₀ L s.heap news) (h1 : 1 ≤ s.toks)
    (hp : (p2.endLine == p5.line) = true)
    (hyz : (y == z) = false) (hb : X.length + (X.length + 1) * z.length ≤ 16777216)
    (hk : cs.kind = .function) (hx : (envX cn cs L a ccd cl).kindOf x = some .local) (hd : (x == ("__debug__" : Str)) = false)
    (h : ∀ h' t' k, Fr h₀ L h' (upd m x (.str (Txt.replace X y z) t')) → News h₀ L h' news → 1 ≤ k → Q .next { s with heap := h', toks := k }) :
    wpAny (model prog w) A (exec (.Assign [.Name x p0] (.Call (.Attribute (.Name x p1) (Str.ofString "replace") p2) [.Constant (.str y) k1 p3, .Constant (.str z) k2 p4] [] p5) p6) (envX cn cs L a ccd cl)) Q E s := by
  refine wpAny_Assign_Name (ev_replace F (upd_at ..) h1 hp hyz hb hk hx hd fun t' k hk' => ?_)
  refine storeX_L F N (fun h' F' N' => ?_) hk hx
  exact h h' t' (k + 1) (by have := upd_upd m x (.str X t) (.str (Txt.replace X y z) t'); rw [← this]; exact F') N' (by omega)

theorem replace_none {X y z : Str} (h : (Builtin.Str.occurrences X y 0 X.length 1).isEmpty = true) : Txt.replace X y z = X := by
  unfold Txt.replace
  have : (Builtin.Str.occurrences X y 0 X.length (X.length + 1)).isEmpty = true := by
    have hf := StrLaws.found_iff X y
    rw [h] at hf
    have hno : ¬ ∃ i, i + y.length ≤ X.length ∧ Builtin.Str.subAt X y i = true := fun e => by simpa using hf.mpr e
    cases ho : Builtin.Str.occurrences X y 0 X.length (X.length + 1) with
    | nil => rfl
    | cons i r =>
      obtain ⟨f, hc⟩ := StrLaws.occ_chain X y (X.length + 1)
      rw [ho] at hc
      exact absurd ⟨i, hc.2.1⟩ hno
  rw [this]; rfl

/-- if y in x: x = x.replace(y, z) -/
theorem if_replace {x y z X : Str} {t : Tok} {k0 k1 k2 : Nat} {p0 p1 p2 p3 p4 p5 p6 q0 q1 q2 q3 : Pos} {Q : Flow → Shared → Prop} (F : Fr h₀ L s.heap (upd m x (.str X t))) (N : News h₀ L s.heap news) (h1 : 1 ≤ s.toks)
    (hp : (p2.endLine == p5.line) = true)
    (hyz : (y == z) = false) (hb : X.length + (X.length + 1) * z.length ≤ 16777216)
    (hk : cs.kind = .function) (hx : (envX cn cs L a ccd cl).kindOf x = some .local) (hd : (x == ("__debug__" : Str)) = false)
    (h : ∀ h' t' k, Fr h₀ L h' (upd m x (.str (Txt.replace X y z) t')) → News h₀ L h' news → 1 ≤ k → Q .next { s with heap := h', toks := k }) :
    wpAny (model prog w) A (exec (.If (.Compare (.Constant (.str y) k0 q0) [.In] [.Name x q1] q2)
      [.Assign [.Name x p0] (.Call (.Attribute (.Name x p1) (Str.ofString "replace") p2) [.Constant (.str y) k1 p3, .Constant (.str z) k2 p4] [] p5) p6] [] q3) (envX cn cs L a ccd cl)) Q E s := by
  refine wpAny_If (wpAny_isTrue_Compare1 (Calls.Constant_str (nameX_L F (upd_at ..) (in_str (wpAny_truthy_bool ?_)) hk hx hd)))
  split
  · refine wpAny_execs_cons (st_replace F N (by show 1 ≤ s.toks + 1; omega) hp hyz hb hk hx hd fun h' t' k F' N' hk' => ?_)
    exact wpAny_execs_nil (h h' t' k F' N' hk')
  · rename_i hno
    refine wpAny_execs_nil ?_
    have he : (Builtin.Str.occurrences X y 0 X.length 1).isEmpty = true := by simpa using hno
    have := h s.heap t (s.toks + 1) (by rw [replace_none he]; exact F) N (by omega)
    exact this

/-- return x -/
theorem st_return {x : Str} {v : Value} {p q : Pos} {Q : Flow → Shared → Prop} (F : Fr h₀ L s.heap m) (hm : m x = some v)
    (hk : cs.kind = .function) (hx : (envX cn cs L a ccd cl).kindOf x = some .local) (hd : (x == ("__debug__" : Str)) = false) (h : Q (.ret v) s) :
    wpAny (model prog w) A (exec (.Return (some (.Name x p)) q) (envX cn cs L a ccd cl)) Q E s :=
  wpAny_Return_some (nameX_L F hm h hk hx hd)
end
end Mine
end

section
open PySem PySem.W PyProof.Rows
set_option maxRecDepth 100000
namespace Mine

def Room (A : Around) (n : Nat) : Prop := A.depth + n < recursionLimit ∧ A.units + 10 * n < cLine
theorem Room.deeper {A : Around} {n : Nat} {env : Env} (h : Room A (n + 1)) : Room (A.deeper env) n := by
  obtain ⟨h1, h2⟩ := h
  constructor
  · show A.depth + 1 + n < recursionLimit; omega
  · show A.units + 3 + 10 * n < cLine; omega
theorem Room.le {A : Around} {n k : Nat} (h : Room A n) (hk : k ≤ n) : Room A k := by
  obtain ⟨h1, h2⟩ := h
  exact ⟨by omega, by omega⟩

/-- what stands around a frame of the text's -/
structure Site (K : Frag) (p : Program) (loose : List Str) (mean : ExcName → Option Value) (mg mb : Str → Option Value) (A : Around) (env : Env) (A₀ : Around) (base : Heap) (outer : List Env) (h₀ : Heap) (L : Addr) : Prop where
  B : Below A₀ base outer h₀
  X : K.In h₀
  T : Top p loose mean mg mb h₀
  hA : A.frames = some (env :: outer)
  hf : env.frame = some L
  hk : env.scope.kind = .function
  hh : A.handled = none

/-- a def of the text's called with vs: it comes back with a value and new objects of which R speaks -/
def Gives (prog : Program) (w : World) (K : Frag) (p : Program) (loose : List Str) (mean : ExcName → Option Value) (mg mb : Str → Option Value) (n : Nat) (f : Addr) (vs : List Value)
    (pre : Heap → List (Addr × Obj) → Prop) (R : Value → List (Addr × Obj) → Prop) : Prop :=
  ∀ (A : Around) (env : Env) (A₀ : Around) (base : Heap) (outer : List Env) (h₀ : Heap) (L : Addr) (m : Str → Option Value) (news : List (Addr × Obj)) (s : Shared) (Q E : Value → Shared → Prop),
    Site K p loose mean mg mb A env A₀ base outer h₀ L → Fr h₀ L s.heap m → News h₀ L s.heap news → Room A n → pre base news →
    (∀ v ex h' tk', Fr h₀ L h' m → News h₀ L h' (ex ++ news) → (∀ q ∈ news, ∀ x ∈ ex, q.1 ≠ x.1) → 1 ≤ tk' → R v ex → Q v { s with heap := h', toks := tk' }) →
    wpAny (model prog w) A (call (.ref f) vs) Q E s

section
variable {prog : Program} {w : World} {K : Frag} {p : Program} {loose : List Str} {mean : ExcName → Option Value} {mg mb : Str → Option Value}

/-- what a body has to show -/
def BodyGives (prog : Program) (w : World) (K : Frag) (p : Program) (loose : List Str) (mean : ExcName → Option Value) (mg mb : Str → Option Value) (n : Nat) (f : Addr) (qual : Str) (scope : Scope) (cdv : Value) (body : List Stmt) (m : Str → Option Value)
    (pre : Heap → List (Addr × Obj) → Prop) (R : Value → List (Addr × Obj) → Prop) : Prop :=
  ∀ (A : Around) (A₀ : Around) (base : Heap) (outer : List Env) (g : Heap) (L : Addr) (news : List (Addr × Obj)) (s : Shared) (Q : Flow → Shared → Prop),
    Site K p loose mean mg mb A (envOf qual scope L f cdv) A₀ base outer g L → Fr g L s.heap m → News g L s.heap news → 1 ≤ s.toks → Room A n → pre base news →
    (∀ v ex h' tk' m', Fr g L h' m' → News g L h' (ex ++ news) → (∀ q ∈ news, ∀ x ∈ ex, q.1 ≠ x.1) → 1 ≤ tk' → R v ex → Q (.ret v) { s with heap := h', toks := tk' }) →
    wpAny (model prog w) A (execs body (envOf qual scope L f cdv)) Q (fun _ _ => False) s

theorem gives_def {n : Nat} {f : Addr} {vs : List Value} {pre : Heap → List (Addr × Obj) → Prop} {R : Value → List (Addr × Obj) → Prop}
    {name qual : Str} {params : Arguments} {body : List Stmt} {scope : Scope} {dV kV doc pm cdv ct oc : Value} {an od : Option Addr} {osl : Array (Option Value)} {binds : List (Str × Value)}
    (ho : K.lookup f = some ⟨oc, od, .func (fnOf name qual params body scope dV kV doc pm an cdv ct), osl⟩) (hcd : codeIn K cdv qual = true)
    (hbind : ∀ s : Shared, K.In s.heap → BindsTo s (fnOf name qual params body scope dV kV doc pm an cdv ct) ⟨vs, []⟩ binds) (hloc : ∀ y ∈ binds, scope.names.lookup y.1 = some .local)
    (hco : scope.isCoroutine = false) (hgen : scope.isGenerator = false) (hk : scope.kind = .function) (hcell : ∀ x ∈ scope.names, x.2 ≠ .cell)
    (hb : BodyGives prog w K p loose mean mg mb n f qual scope cdv body (fun y => binds.reverse.lookup y) pre R) (hne : 1 ≤ binds.length := by exact Nat.succ_le_succ (Nat.zero_le _)) :
    Gives prog w K p loose mean mg mb (n + 1) f vs pre R := by
  intro A env A₀ base outer h₀ L m news s Q E S F N hr hpre hQ
  refine wpAny_call (code_def S.B F S.X N S.T S.hA S.hf S.hk ho hcd (by have := hr.1; omega) (hbind s (S.X.keeps F.keep)) hloc (fun g L' h₁ FG F' N' B' X' T' => ?_) hco hgen hk hcell)
  refine wpAny_mono (hb (A.deeper (envOf qual scope L' f cdv)) A base (env :: outer) g L' news _ _ ⟨B', X', T', ?_, rfl, hk, S.hh⟩ F' N' ?_ hr.deeper hpre (fun v ex h' tk' m' F₂ N₂ hne htk hR => ?_)) (fun _ _ x => x) (fun _ _ x => x.elim)
  · show A.frames.map _ = _
    rw [S.hA]; rfl
  · show 1 ≤ s.toks + binds.length; omega
  · exact leaveK_ F₂ N₂ fun F₃ N₃ => hQ v ex h' tk' F₃ N₃ hne htk hR
end
end Mine
end

section
open PySem PySem.W PyProof.Rows
set_option maxRecDepth 100000
namespace Mine

/-- replace after replace -/
def repls (X : Str) (reps : List (Str × Str)) : Str := reps.foldl (fun X yz => Txt.replace X yz.1 yz.2) X
/-- each step's room -/
def Fits : Str → List (Str × Str) → Prop
  | _, [] => True
  | X, (y, z) :: r => X.length + (X.length + 1) * z.length ≤ 16777216 ∧ Fits (Txt.replace X y z) r

inductive ReplStmt (x y z : Str) : Stmt → Prop
  | plain {k1 k2 : Nat} {p0 p1 p2 p3 p4 p5 p6 : Pos} (hp : (p2.endLine == p5.line) = true) :
      ReplStmt x y z (.Assign [.Name x p0] (.Call (.Attribute (.Name x p1) (Str.ofString "replace") p2) [.Constant (.str y) k1 p3, .Constant (.str z) k2 p4] [] p5) p6)
  | iff {k0 k1 k2 : Nat} {p0 p1 p2 p3 p4 p5 p6 q0 q1 q2 q3 : Pos} (hp : (p2.endLine == p5.line) = true) :
      ReplStmt x y z (.If (.Compare (.Constant (.str y) k0 q0) [.In] [.Name x q1] q2)
        [.Assign [.Name x p0] (.Call (.Attribute (.Name x p1) (Str.ofString "replace") p2) [.Constant (.str y) k1 p3, .Constant (.str z) k2 p4] [] p5) p6] [] q3)

inductive Chain (x : Str) : List (Str × Str) → List Stmt → List Stmt → Prop
  | nil {rest : List Stmt} : Chain x [] rest rest
  | cons {y z : Str} {reps : List (Str × Str)} {st : Stmt} {sts rest : List Stmt} (h : ReplStmt x y z st) (hyz : (y == z) = false) (hr : Chain x reps sts rest) : Chain x ((y, z) :: reps) (st :: sts) rest

section
variable {prog : Program} {w : World} {A : Around} {E : Value → Shared → Prop} {h₀ : Heap} {L a : Addr} {m : Str → Option Value}
  {cn : Str} {cs : Scope} {ccd : Value} {cl : List (Str × Addr)} {news : List (Addr × Obj)}

theorem exec_chain {x : Str} {Q : Flow → Shared → Prop} (hk : cs.kind = .function) (hx : (envX cn cs L a ccd cl).kindOf x = some .local) (hd : (x == ("__debug__" : Str)) = false) :
    ∀ {reps : List (Str × Str)} {sts rest : List Stmt}, Chain x reps sts rest → ∀ {X : Str} {t : Tok} {s : Shared}, Fits X reps → Fr h₀ L s.heap (upd m x (.str X t)) → News h₀ L s.heap news → 1 ≤ s.toks →
      (∀ h' t' k, Fr h₀ L h' (upd m x (.str (repls X reps) t')) → News h₀ L h' news → 1 ≤ k → wpAny (model prog w) A (execs rest (envX cn cs L a ccd cl)) Q E { s with heap := h', toks := k }) →
      wpAny (model prog w) A (execs sts (envX cn cs L a ccd cl)) Q E s := by
  intro reps sts rest hc
  induction hc with
  | nil => intro X t s _ F N h1 h; exact h s.heap t s.toks F N h1
  | cons hs hyz _ ih =>
    intro X t s hf F N h1 h
    refine wpAny_execs_cons ?_
    cases hs with
    | plain hp => exact st_replace F N h1 hp hyz hf.1 hk hx hd fun h' t' k F' N' hk' => ih hf.2 F' N' hk' fun h'' t'' k'' F'' N'' hk'' => h h'' t'' k'' F'' N'' hk''
    | iff hp => exact if_replace F N h1 hp hyz hf.1 hk hx hd fun h' t' k F' N' hk' => ih hf.2 F' N' hk' fun h'' t'' k'' F'' N'' hk'' => h h'' t'' k'' F'' N'' hk''
end

section
variable {prog : Program} {w : World} {K : Frag} {p : Program} {loose : List Str} {mean : ExcName → Option Value} {mg mb : Str → Option Value}

/-- a body that is one try, a chain of replaces, a return -/
theorem body_try {n : Nat} {f : Addr} {qual : Str} {scope : Scope} {cdv : Value} {m : Str → Option Value} {pre : Heap → List (Addr × Obj) → Prop} {x X : Str} {t : Tok} {reps : List (Str × Str)} {sts : List Stmt} {h₀ : ExceptHandler} {hs : List ExceptHandler} {q r1 r2 : Pos}
    (hm : m x = some (.str X t)) (hc : Chain x reps sts [.Return (some (.Name x r1)) r2]) (hf : Fits X reps)
    (hk : scope.kind = .function) (hx : ∀ L, (envOf qual scope L f cdv).kindOf x = some .local) (hd : (x == ("__debug__" : Str)) = false) :
    BodyGives prog w K p loose mean mg mb n f qual scope cdv [.Try sts (h₀ :: hs) [] [] q] m pre (fun v ex => ex = [] ∧ ∃ t', v = .str (repls X reps) t') := by
  intro A A₀ base outer g L news s Q S F N h1 hr hpre hQ
  refine wpAny_execs_cons (wpAny_Try_except ?_)
  refine wpAny_mono (Q := fun fl s' => ∃ t' h' tk m', fl = .ret (.str (repls X reps) t') ∧ s' = { s with heap := h', toks := tk } ∧ Fr g L h' m' ∧ News g L h' news ∧ 1 ≤ tk) (E := fun _ _ => False) ?_ ?_ (fun _ _ h => h.elim)
  · rw [← upd_same hm] at F
    refine exec_chain (cl := []) hk (hx L) hd hc hf F N h1 fun h' t' k F' N' hk' => ?_
    exact wpAny_execs_cons (st_return (cl := []) F' (upd_at ..) hk (hx L) hd ⟨t', h', k, _, rfl, rfl, F', N', hk'⟩)
  · rintro fl s' ⟨t', h', tk, m', rfl, rfl, F', N', htk⟩
    exact hQ _ [] h' tk m' F' N' (fun _ _ _ hx => nomatch hx) htk ⟨rfl, t', rfl⟩
end
end Mine
end

section
open PySem PySem.StrLaws PySem.Builtin.Str
namespace Mine

abbrev LRep := List Nat × List Nat
def rplL (reps : List LRep) (l : List Nat) : List Nat := reps.foldl (fun l yz => rpl yz.1 yz.2 0 l) l
def lreps (reps : List (Str × Str)) : List LRep := reps.map fun yz => (yz.1.cps.toList, yz.2.cps.toList)

theorem repls_list : ∀ (reps : List (Str × Str)) (X : Str), (∀ r ∈ reps, 1 ≤ r.1.length) → (repls X reps).cps.toList = rplL (lreps reps) X.cps.toList
  | [], _, _ => rfl
  | (y, z) :: r, X, h => by
    have ih := repls_list r (Txt.replace X y z) fun q hq => h q (List.mem_cons_of_mem _ hq)
    have h1 := replace_rpl X y z (h (y, z) (List.mem_cons_self ..))
    show (repls (Txt.replace X y z) r).cps.toList = _
    rw [ih, h1]; rfl

/-- one sign replaced: a homomorphism -/
theorem rpl_one (c : Nat) (z : List Nat) : ∀ l : List Nat, rpl [c] z 0 l = l.flatMap fun k => if k = c then z else [k]
  | [] => rfl
  | a :: t => by
    have ih := rpl_one c z t
    rw [List.flatMap_cons, rpl]
    by_cases h : a = c
    · subst h
      rw [if_pos (by simp [List.isPrefixOf]), if_pos rfl]
      show z ++ rpl [a] z 0 t = _
      rw [ih]
    · rw [if_neg (by simp [List.isPrefixOf, Ne.symm h]), if_neg h, ih]
      rfl
theorem rpl_one_append (c : Nat) (z a b : List Nat) : rpl [c] z 0 (a ++ b) = rpl [c] z 0 a ++ rpl [c] z 0 b := by simp [rpl_one, List.flatMap_append]

/-- the word that a chain of one-sign replaces makes of a sign -/
def enc (reps : List (Nat × List Nat)) (k : Nat) : List Nat := rplL (reps.map fun cz => ([cz.1], cz.2)) [k]

theorem rplL_append (reps : List (Nat × List Nat)) : ∀ a b : List Nat, rplL (reps.map fun cz => ([cz.1], cz.2)) (a ++ b) = rplL (reps.map fun cz => ([cz.1], cz.2)) a ++ rplL (reps.map fun cz => ([cz.1], cz.2)) b := by
  induction reps with
  | nil => intro a b; rfl
  | cons r rs ih =>
    intro a b
    simp only [rplL, List.map_cons, List.foldl_cons] at ih ⊢
    rw [rpl_one_append, ih]
theorem rplL_nil (reps : List (Nat × List Nat)) : rplL (reps.map fun cz => ([cz.1], cz.2)) [] = [] := by
  induction reps with
  | nil => rfl
  | cons r rs ih => simpa [rplL, rpl] using ih
theorem rplL_enc (reps : List (Nat × List Nat)) : ∀ l : List Nat, rplL (reps.map fun cz => ([cz.1], cz.2)) l = l.flatMap (enc reps)
  | [] => rplL_nil reps
  | a :: t => by
    rw [List.flatMap_cons, ← rplL_enc reps t]
    exact rplL_append reps [a] t
theorem enc_other {reps : List (Nat × List Nat)} {k : Nat} (h : k ∉ reps.map (·.1)) : enc reps k = [k] := by
  induction reps with
  | nil => rfl
  | cons r rs ih =>
    simp only [List.map_cons, List.mem_cons, not_or] at h
    have := ih h.2
    simp only [enc, rplL, List.map_cons, List.foldl_cons] at this ⊢
    rw [rpl_one]
    simpa [h.1] using this

/-- a reference: & .. ; with neither of the two within -/
def isRef (w : List Nat) : Bool := match w with
  | 38 :: t => t.getLast? == some 59 && t.dropLast.all fun x => x != 38 && x != 59
  | _ => false
def good (w : List Nat) : Bool := isRef w || match w with
  | [k] => k != 38
  | _ => false

theorem isRef_shape {w : List Nat} (h : isRef w = true) : ∃ b, w = 38 :: (b ++ [59]) ∧ ∀ x ∈ b, x ≠ 38 ∧ x ≠ 59 := by
  unfold isRef at h
  split at h
  · rename_i t
    simp only [Bool.and_eq_true, beq_iff_eq, List.all_eq_true, bne_iff_ne] at h
    obtain ⟨h1, h2⟩ := h
    refine ⟨t.dropLast, ?_, h2⟩
    have hne : t ≠ [] := by intro e; subst e; simp at h1
    rw [List.getLast?_eq_some_getLast hne, Option.some.injEq] at h1
    have := List.dropLast_concat_getLast hne
    rw [h1] at this
    rw [this]
  · cases h

/-- a text without & passes -/
theorem rpl_pass {y z : List Nat} (hy : y.head? = some 38) : ∀ (u r : List Nat), 38 ∉ u → rpl y z 0 (u ++ r) = u ++ rpl y z 0 r
  | [], _, _ => rfl
  | a :: t, r, h => by
    simp only [List.mem_cons, not_or] at h
    cases y with
    | nil => cases hy
    | cons b y =>
      simp only [List.head?_cons, Option.some.injEq] at hy
      subst hy
      have ih := rpl_pass (y := 38 :: y) (z := z) rfl t r h.2
      show rpl (38 :: y) z 0 (a :: (t ++ r)) = _
      rw [rpl, if_neg (by simp [List.isPrefixOf, h.1]), ih]
      rfl

theorem ref_prefix {b b' r : List Nat} (h : b' ++ [59] <+: b ++ [59] ++ r) (hb : ∀ x ∈ b, x ≠ 59) (hb' : ∀ x ∈ b', x ≠ 59) : b' = b := by
  induction b generalizing b' with
  | nil =>
    cases b' with
    | nil => rfl
    | cons x t =>
      simp only [List.nil_append, List.cons_append] at h
      have := (List.cons_prefix_cons.mp h).1
      exact absurd this (hb' x (List.mem_cons_self ..))
  | cons a t ih =>
    cases b' with
    | nil =>
      simp only [List.nil_append, List.cons_append] at h
      have := (List.cons_prefix_cons.mp h).1
      exact absurd this.symm (hb a (List.mem_cons_self ..))
    | cons x t' =>
      simp only [List.cons_append] at h
      obtain ⟨e, h'⟩ := List.cons_prefix_cons.mp h
      rw [e, ih (by simpa using h') (fun y hy => hb y (List.mem_cons_of_mem _ hy)) (fun y hy => hb' y (List.mem_cons_of_mem _ hy))]

theorem rpl_words {y z : List Nat} (hy : isRef y = true) : ∀ ws : List (List Nat), (∀ w ∈ ws, good w = true) → rpl y z 0 ws.flatten = (ws.map fun w => if w = y then z else w).flatten
  | [], _ => rfl
  | w :: ws, h => by
    have ih := rpl_words (z := z) hy ws fun q hq => h q (List.mem_cons_of_mem _ hq)
    obtain ⟨b, rfl, hb⟩ := isRef_shape hy
    have hw := h w (List.mem_cons_self ..)
    rw [List.flatten_cons, List.map_cons, List.flatten_cons, ← ih]
    unfold good at hw
    rw [Bool.or_eq_true] at hw
    rcases hw with hw | hw
    · obtain ⟨b', rfl, hb'⟩ := isRef_shape hw
      by_cases e : b' = b
      · subst e
        rw [if_pos rfl, rpl_hit (y := 38 :: (b' ++ [59])) (by simp) (List.take_left' rfl), List.drop_left' rfl]
      · rw [if_neg (by intro q; exact e (by simpa using q))]
        show rpl _ z 0 (38 :: (b' ++ [59] ++ ws.flatten)) = 38 :: (b' ++ [59]) ++ _
        rw [rpl, if_neg, rpl_pass rfl _ _ (by intro hm; rcases List.mem_append.mp hm with q | q; exact (hb' _ q).1 rfl; simp at q)]
        · simp
        · rw [List.isPrefixOf_iff_prefix]
          intro hp
          exact e (ref_prefix (List.cons_prefix_cons.mp hp).2 (fun x hx => (hb' x hx).2) fun x hx => (hb x hx).2).symm
    · split at hw
      · rename_i k
        have hk : k ≠ 38 := by simpa using hw
        rw [if_neg (by simp [hk])]
        exact rpl_pass rfl [k] _ (by simpa using fun q => hk q.symm)
      · cases hw

/-- what a chain of reference replaces makes of a word -/
def dec (ys : List LRep) (w : List Nat) : List Nat := ys.foldl (fun w yz => if w = yz.1 then yz.2 else w) w
theorem rplL_words : ∀ (ys : List LRep), (∀ r ∈ ys, isRef r.1 = true ∧ good r.2 = true) → ∀ ws : List (List Nat), (∀ w ∈ ws, good w = true) → rplL ys ws.flatten = (ws.map (dec ys)).flatten ∧ ∀ w ∈ ws.map (dec ys), good w = true
  | [], _, ws, hw => by
    have e : dec [] = id := rfl
    rw [e, List.map_id]
    exact ⟨rfl, hw⟩
  | (y, z) :: r, h, ws, hw => by
    have hyz := h _ (List.mem_cons_self ..)
    have hg : ∀ w ∈ ws.map fun w => if w = y then z else w, good w = true := by
      intro q hq
      obtain ⟨w, hm, rfl⟩ := List.mem_map.mp hq
      by_cases e : w = y
      · rw [if_pos e]; exact hyz.2
      · rw [if_neg e]; exact hw w hm
    have ih := rplL_words r (fun q hq => h q (List.mem_cons_of_mem _ hq)) _ hg
    rw [List.map_map] at ih
    refine ⟨?_, ih.2⟩
    show rplL r (rpl y z 0 ws.flatten) = _
    rw [rpl_words hyz.1 ws hw, ih.1]
    rfl

/-- encoded signs read back -/
theorem unesc_enc {e : Nat → List Nat} {ys : List LRep} {a z : List Nat} (hys : ∀ r ∈ ys, isRef r.1 = true ∧ good r.2 = true) (ha : isRef a = true) (l : List Nat) (hg : ∀ k ∈ l, good (e k) = true)
    (hd : ∀ k ∈ l, (if dec ys (e k) = a then z else dec ys (e k)) = [k]) : rpl a z 0 (rplL ys (l.flatMap e)) = l := by
  have e1 : l.flatMap e = (l.map e).flatten := by rw [List.flatMap_def]
  have h := rplL_words ys hys (l.map e) (by intro w hw; obtain ⟨k, hk, rfl⟩ := List.mem_map.mp hw; exact hg k hk)
  rw [e1, h.1, rpl_words ha _ h.2, List.map_map, List.map_map]
  have : (l.map (((fun w => if w = a then z else w) ∘ dec ys) ∘ e)) = l.map fun k => [k] := List.map_congr_left fun k hk => hd k hk
  rw [this]
  clear this h e1 hd hg
  induction l with
  | nil => rfl
  | cons a t ih => simp [ih]
end Mine
end

section
open PySem PySem.StrLaws PySem.Builtin.Str
namespace Mine

abbrev NRep := Nat × List Nat
def single (n : List NRep) : List LRep := n.map fun cz => ([cz.1], cz.2)

theorem str_ext {a b : Str} (h : a.cps.toList = b.cps.toList) : a = b := by
  cases a; cases b; simp only [Str.mk.injEq]; exact Array.toList_inj.mp h

theorem repls_append (X : Str) (a b : List (Str × Str)) : repls X (a ++ b) = repls (repls X a) b := by simp [repls, List.foldl_append]
theorem repls_enc {R : List (Str × Str)} {n : List NRep} (h : lreps R = single n) (X : Str) : (repls X R).cps.toList = X.cps.toList.flatMap (enc n) := by
  have h1 : ∀ r ∈ R, 1 ≤ r.1.length := by
    intro r hr
    have hm : (r.1.cps.toList, r.2.cps.toList) ∈ lreps R := List.mem_map.mpr ⟨r, hr, rfl⟩
    rw [h] at hm
    obtain ⟨cz, _, e⟩ := List.mem_map.mp hm
    have e1 : [cz.1] = r.1.cps.toList := congrArg Prod.fst e
    rw [← tl, ← e1]; simp
  rw [repls_list R X h1, h]
  exact rplL_enc n _

theorem single_take {R : List (Str × Str)} {n : List NRep} (h : lreps R = single n) (i : Nat) : lreps (R.take i) = single (n.take i) := by
  have := congrArg (List.take i) h
  simpa [lreps, single, List.map_take] using this

theorem flatMap_len {f : Nat → List Nat} {b : Nat} (h : ∀ k, (f k).length ≤ b) : ∀ l : List Nat, (l.flatMap f).length ≤ b * l.length
  | [] => by simp
  | a :: t => by
    have ih := flatMap_len h t
    have := h a
    rw [List.flatMap_cons, List.length_append, List.length_cons, Nat.mul_add, Nat.mul_one]; omega

theorem fits_enc {R : List (Str × Str)} {n : List NRep} (h : lreps R = single n) (hz : ∀ r ∈ R, r.2.length ≤ 8) {b : Nat} (hb : ∀ i k, (enc (n.take i) k).length ≤ b) {X : Str} (hX : 10 * (b * X.length) ≤ 16000000) : Fits X R := by
  have key : ∀ (suf pre : List (Str × Str)), R = pre ++ suf → Fits (repls X pre) suf := by
    intro suf
    induction suf with
    | nil => intro pre _; exact trivial
    | cons r s ih =>
      intro pre e
      have hl : (repls X pre).length ≤ b * X.length := by
        have hp : pre = R.take pre.length := by rw [e, List.take_left']; rfl
        have := repls_enc (single_take h pre.length) X
        rw [← hp] at this
        rw [← tl, this, ← tl X]
        exact flatMap_len (hb _) _
      refine ⟨?_, ?_⟩
      · have h2 := hz r (by rw [e]; simp)
        have : ((repls X pre).length + 1) * r.2.length ≤ ((repls X pre).length + 1) * 8 := Nat.mul_le_mul_left _ h2
        omega
      · have := ih (pre ++ [r]) (by rw [e]; simp)
        rw [repls_append] at this
        exact this
  exact key R [] rfl

theorem rpl_len {y z : List Nat} (hy : 1 ≤ y.length) (hz : z.length ≤ y.length) : ∀ (l : List Nat) (k : Nat), (rpl y z k l).length ≤ l.length - k ∨ (rpl y z k l).length + k ≤ l.length ∨ l.length < k ∧ (rpl y z k l) = []
  | [], k => by simp [rpl]
  | a :: t, 0 => by
    left
    rw [rpl]
    split
    · rename_i hp
      rw [List.isPrefixOf_iff_prefix] at hp
      have hl := hp.length_le
      rw [List.length_append]
      simp only [List.length_cons] at hl ⊢
      rcases rpl_len hy hz t (y.length - 1) with h | h | ⟨h, e⟩
      · omega
      · omega
      · omega
    · rcases rpl_len hy hz t 0 with h | h | ⟨h, e⟩
      · simp only [List.length_cons]; omega
      · simp only [List.length_cons]; omega
      · omega
  | a :: t, k + 1 => by
    rw [rpl]
    rcases rpl_len hy hz t k with h | h | ⟨h, e⟩
    · left; simp only [List.length_cons]; omega
    · right; left; simp only [List.length_cons]; omega
    · right; right; exact ⟨by simp only [List.length_cons]; omega, e⟩
theorem replace_len {X y z : Str} (hy : 1 ≤ y.length) (hz : z.length ≤ y.length) : (Txt.replace X y z).length ≤ X.length := by
  rw [← tl, replace_rpl X y z hy, ← tl X]
  rcases rpl_len (y := y.cps.toList) (z := z.cps.toList) (by rw [tl]; exact hy) (by rw [tl, tl]; exact hz) X.cps.toList 0 with h | h | ⟨h, e⟩
  · omega
  · omega
  · omega
theorem fits_shrink : ∀ {R : List (Str × Str)} {X : Str}, (∀ r ∈ R, 1 ≤ r.1.length ∧ r.2.length ≤ r.1.length ∧ r.2.length ≤ 8) → 10 * X.length ≤ 16000000 → Fits X R ∧ (repls X R).length ≤ X.length
  | [], _, _, _ => ⟨trivial, Nat.le_refl _⟩
  | (y, z) :: r, X, h, hX => by
    have h1 := h (y, z) (List.mem_cons_self ..)
    have hl : (Txt.replace X y z).length ≤ X.length := replace_len (X := X) h1.1 h1.2.1
    have ih := fits_shrink (R := r) (X := Txt.replace X y z) (fun q hq => h q (List.mem_cons_of_mem _ hq)) (by omega)
    refine ⟨⟨?_, ih.1⟩, Nat.le_trans ih.2 hl⟩
    have : (X.length + 1) * z.length ≤ (X.length + 1) * 8 := Nat.mul_le_mul_left _ h1.2.2
    omega

/-- read back -/
theorem unesc_str {R : List (Str × Str)} {n : List NRep} {U : List (Str × Str)} {a z : Str} {ys : List LRep} {al zl : List Nat} (h : lreps R = single n) (hU : lreps U = ys) (ha : a.cps.toList = al) (hz : z.cps.toList = zl)
    (hys : ∀ r ∈ ys, isRef r.1 = true ∧ good r.2 = true) (hal : isRef al = true) (hg : ∀ k, good (enc n k) = true) (hd : ∀ k, (if dec ys (enc n k) = al then zl else dec ys (enc n k)) = [k]) (X : Str) :
    Txt.replace (repls (repls X R) U) a z = X := by
  refine str_ext ?_
  have hne : ∀ {w : List Nat}, isRef w = true → 1 ≤ w.length := by
    intro w hw
    obtain ⟨b, rfl, _⟩ := isRef_shape hw
    simp
  have hU1 : ∀ r ∈ U, 1 ≤ r.1.length := by
    intro r hr
    have hm : (r.1.cps.toList, r.2.cps.toList) ∈ ys := by rw [← hU]; exact List.mem_map.mpr ⟨r, hr, rfl⟩
    have := hne (hys _ hm).1
    rw [← tl]; exact this
  rw [replace_rpl _ _ _ (by rw [← tl, ha]; exact hne hal), repls_list U _ hU1, repls_enc h, hU, ha, hz]
  exact unesc_enc hys hal _ (fun k _ => hg k) fun k _ => hd k
end Mine
end

section
open PySem PySem.StrLaws PySem.Builtin.Str
namespace Mine
def numR (R : List (Str × Str)) : List NRep := R.map fun r => (r.1.cps.toList.headD 0, r.2.cps.toList)

/-- words of which none begins another: what is written tells them apart -/
theorem flat_iff {f g : Nat → List Nat} (h : ∀ k, f k = g k ∨ (¬ f k <+: g k ∧ ¬ g k <+: f k)) : ∀ l : List Nat, l.flatMap f = l.flatMap g ↔ ∀ k ∈ l, f k = g k
  | [] => by simp
  | k :: l => by
    have ih := flat_iff h l
    rw [List.flatMap_cons, List.flatMap_cons]
    constructor
    · intro e
      have hk : f k = g k := by
        rcases h k with h1 | ⟨h1, h2⟩
        · exact h1
        · exfalso
          have p1 : f k <+: g k ++ l.flatMap g := e ▸ List.prefix_append _ _
          have p2 : g k <+: g k ++ l.flatMap g := List.prefix_append _ _
          rcases List.prefix_or_prefix_of_prefix p1 p2 with q | q
          · exact h1 q
          · exact h2 q
      rw [hk] at e
      have e' := List.append_cancel_left e
      intro q hq
      rcases List.mem_cons.mp hq with rfl | hq
      · exact hk
      · exact ih.mp e' q hq
    · intro e
      rw [e k (List.mem_cons_self ..), ih.mpr fun q hq => e q (List.mem_cons_of_mem _ hq)]

theorem fm_congr' {f g : Nat → List Nat} : ∀ {l : List Nat}, (∀ k ∈ l, f k = g k) → l.flatMap f = l.flatMap g
  | [], _ => rfl
  | k :: l, h => by
    rw [List.flatMap_cons, List.flatMap_cons, h k (List.mem_cons_self ..), fm_congr' fun q hq => h q (List.mem_cons_of_mem _ hq)]

/-- encoded signs, read with a table -/
theorem unesc_map {e : Nat → List Nat} {ys : List LRep} {a z : List Nat} (hys : ∀ r ∈ ys, isRef r.1 = true ∧ good r.2 = true) (ha : isRef a = true) (l : List Nat) (hg : ∀ k ∈ l, good (e k) = true) :
    rpl a z 0 (rplL ys (l.flatMap e)) = l.flatMap fun k => if dec ys (e k) = a then z else dec ys (e k) := by
  have e1 : l.flatMap e = (l.map e).flatten := by rw [List.flatMap_def]
  have h := rplL_words ys hys (l.map e) (by intro w hw; obtain ⟨k, hk, rfl⟩ := List.mem_map.mp hw; exact hg k hk)
  rw [e1, h.1, rpl_words ha _ h.2, List.map_map, List.map_map, List.flatMap_def]
  rfl
theorem isRef_len {w : List Nat} (h : isRef w = true) : 1 ≤ w.length := by
  obtain ⟨b, rfl, _⟩ := isRef_shape h
  simp
theorem unesc_strM {R : List (Str × Str)} {n : List NRep} {U : List (Str × Str)} {a z : Str} {ys : List LRep} {al zl : List Nat} (h : lreps R = single n) (hU : lreps U = ys) (ha : a.cps.toList = al) (hz : z.cps.toList = zl)
    (hys : ∀ r ∈ ys, isRef r.1 = true ∧ good r.2 = true) (hal : isRef al = true) (hg : ∀ k, good (enc n k) = true) (X : Str) :
    (Txt.replace (repls (repls X R) U) a z).cps.toList = X.cps.toList.flatMap fun k => if dec ys (enc n k) = al then zl else dec ys (enc n k) := by
  have hU1 : ∀ r ∈ U, 1 ≤ r.1.length := by
    intro r hr
    have hm : (r.1.cps.toList, r.2.cps.toList) ∈ ys := by rw [← hU]; exact List.mem_map.mpr ⟨r, hr, rfl⟩
    have := isRef_len (hys _ hm).1
    rw [← tl]; exact this
  rw [replace_rpl _ _ _ (by rw [← tl, ha]; exact isRef_len hal), repls_list U _ hU1, repls_enc h, hU, ha, hz]
  exact unesc_map hys hal _ fun k _ => hg k

theorem hasOne (X : Str) (c : Nat) : (!(occurrences X ⟨#[c]⟩ 0 X.length 1).isEmpty) = true ↔ c ∈ X.cps.toList := by
  rw [found_iff, List.mem_iff_getElem?]
  exact exists_congr fun i => subAt_one X c i
end Mine
end

section
open PySem PySem.W PyProof.Rows
set_option maxRecDepth 100000
namespace Mine
section
variable {prog : Program} {w : World} {A : Around} {E : Value → Shared → Prop} {s : Shared}

/-- an items iterator's next pair, as the table holds it -/
theorem next_items {it d : Addr} {i n ep : Nat} {od : Obj} {es : Array DictEntry} {e : DictEntry} {ok ov : Value} {Q : Option Value → Shared → Prop}
    (hit : IsItemIter s.heap it d i n ep ok ov) (hd : s.heap.get? d = some od) (hdd : od.data = .dict es ep) (hn : es.size = n) (he : es[i]? = some e)
    (hQ : ∀ h', IsItemIterOut h' it d (i + 1) n ep e.key e.val s.heap.objs.size → h'.get? s.heap.objs.size = some { cls := .type "tuple", data := .seq #[e.key, e.val] } →
      (∀ b o, b ≠ it → s.heap.get? b = some o → h'.get? b = some o) → Q (some (.ref s.heap.objs.size)) { s with heap := h' }) :
    wpAny (model prog w) A (pyNext (.ref it)) Q E s := by
  have hT : s.TypeIs (.ref it) "dict_itemiterator" := ⟨_, hit, rfl⟩
  have hown : Builtin.Dict_items.ownsTuple "dict_itemiterator" = true := by decide
  have hil : it < s.heap.objs.size := Heap.lt_size hit
  unfold pyNext
  refine wpAny_bind (wpAny_attempt (wpAny_callSpecial?_slot (name := Str.ofString "__next__") hT F.slot_dict_itemiterator_next (wpAny_call_entry F.slot_dict_itemiterator_next hT F.entry_dict_itemiterator_next ?_ (F.args_dict_itemiterator_next_1 _))))
  -- which slot, where
  refine wpAny_bind (wpAny_pure (wpAny_bind (wpAny_bind (wpAny_bind (wpAny_typeNameOfWhole_itemiter hT (wpAny_pure (wpAny_bind (wpAny_fieldsOf hit rfl ?_))))))))
  simp only [hown, if_true]
  show wpAny _ _ (if (Value.ref d == Value.none) = true then _ else _) _ _ _
  rw [if_neg (show ¬ ((Value.ref d == Value.none) = true) from Bool.false_ne_true)]
  refine wpAny_bind (wpAny_pure (wpAny_bind (wpAny_dictEntries hd hdd ?_)))
  rw [if_neg (by simp [hn])]
  refine wpAny_bind (wpAny_pure (wpAny_bind (wpAny_dictEpoch hd hdd ?_)))
  rw [if_neg (by simp)]
  refine wpAny_pure ?_
  simp only [show ¬ ((i : Int) < 0) from by omega, if_false, Int.toNat_natCast, he]
  -- the index goes on
  refine wpAny_bind (wpAny_bind (wpAny_typeNameOfWhole_itemiter hT (wpAny_pure (wpAny_bind (wpAny_isOneOf_itemiter hT ?_)))))
  simp only [hown, if_true]
  refine wpAny_bind (wpAny_setField_rec (k := 3) (x := rawInt ((i : Int) + 1)) hit (by simp) fun h₁ e₁ b₁ => ?_)
  have hT₁ : Shared.TypeIs { s with heap := h₁ } (.ref it) "dict_itemiterator" := ⟨_, e₁, rfl⟩
  refine wpAny_bind (wpAny_holding (wpAny_bind (wpAny_isOneOf_itemiter hT₁ (wpAny_bind (wpAny_isOneOf_itemiter hT₁ ?_)))))
  show wpAny _ _ (Builtin.Dict_items.pairFromOwner (.ref it) 6 e.key e.val) _ _ _
  -- a new pair, and the iterator keeps it
  unfold Builtin.Dict_items.pairFromOwner Builtin.Dict_items.ownedTupleIsFree
  refine wpAny_bind (wpAny_newTuple ?_)
  have hz : h₁.objs.size = s.heap.objs.size := b₁.1
  have e₂ := Heap.get?_push_of_some (h := h₁) { cls := .type "tuple", data := .seq #[e.key, e.val] } e₁
  refine wpAny_bind (wpAny_bind (wpAny_field e₂ rfl (x := .none) rfl (wpAny_pure ?_)))
  simp only [if_true]
  show wpAny _ _ (do
    let k₀ ← field (.ref it) 6
    let v₀ ← field (.ref it) (6 + 1)
    setField (.ref it) 6 e.key; setField (.ref it) (6 + 1) e.val; setField (.ref it) 0 (rawInt h₁.objs.size); setField (.ref it) 1 (.bool false)
    letGo [k₀, v₀] [.ref h₁.objs.size]
    pure (Value.ref h₁.objs.size)) _ _ _
  refine wpAny_bind (wpAny_field e₂ rfl (x := ok) rfl (wpAny_bind (wpAny_field e₂ rfl (x := ov) rfl ?_)))
  refine wpAny_mono (Q := fun v s' => v = .ref h₁.objs.size ∧ ∃ h', s' = { s with heap := h' } ∧ IsItemIterOut h' it d (i + 1) n ep e.key e.val h₁.objs.size ∧ Heap.SameBut it (h₁.push { cls := .type "tuple", data := .seq #[e.key, e.val] }) h') (E := fun _ _ => False) ?_ ?_ (fun _ _ h => h.elim)
  · refine wpAny_bind (wpAny_setField_rec e₂ (by simp) fun g₁ c₁ d₁ => wpAny_bind (wpAny_setField_rec c₁ (by simp) fun g₂ c₂ d₂ => wpAny_bind (wpAny_setField_rec c₂ (by simp) fun g₃ c₃ d₃ => wpAny_bind (wpAny_setField_rec c₃ (by simp) fun g₄ c₄ d₄ => wpAny_bind (wpAny_letGo (wpAny_pure ?_))))))
    refine ⟨rfl, g₄, rfl, ?_, ⟨by rw [d₄.1, d₃.1, d₂.1, d₁.1], fun b hb => by rw [d₄.2 b hb, d₃.2 b hb, d₂.2 b hb, d₁.2 b hb]⟩⟩
    simpa [rawInt, IsItemIterOut] using c₄
  · rintro v s' ⟨rfl, h', rfl, hout, hs⟩
    rw [hz] at hout ⊢
    refine wpAny_pure ⟨_, rfl, wpAny_pure (hQ h' hout ?_ fun b o hb ho => ?_)⟩
    · have := Heap.get?_push_size h₁ (o := { cls := .type "tuple", data := .seq #[e.key, e.val] }) rfl
      rw [hz] at this
      exact (hs.2 _ (Nat.ne_of_gt hil)).trans this
    · exact (hs.2 b hb).trans (Heap.get?_push_of_some _ ((b₁.2 b hb).trans ho))
end
end Mine
end

section
open PySem PySem.W PyProof.Rows PyProof.V
set_option maxRecDepth 100000
namespace Mine

/-- a table's line: key, its token, value, its token -/
abbrev Ln := Str × Tok × Str × Tok
def lnE (w : World) (e : Ln) : DictEntry := ⟨hashStr w e.1, .str e.1 e.2.1, .str e.2.2.1 e.2.2.2⟩
/-- a dict of texts -/
def dObj (w : World) (l : List Ln) (ep : Nat) : Obj := { cls := .type "dict", data := .dict (l.map (lnE w)).toArray ep }
def lnKvs (l : List Ln) : List (Str × Value) := l.map fun e => (e.1, .str e.2.2.1 e.2.2.2)
def lnPy (l : List Ln) : List (PyData × PyData) := l.map fun e => (.str e.1, .str e.2.2.1)

section
variable {prog : Program} {w : World} {h : Heap} {d : Addr} {l : List Ln} {ep : Nat}

theorem dObj_at (hd : h.get? d = some (dObj w l ep)) (hn : (l.map (·.1)).Nodup) : h.DictAt (strKind prog w) d (lnKvs l) ep := by
  refine ⟨_, _, hd, ⟨rfl, rfl, rfl⟩, rfl, ?_, ?_, ?_⟩
  · intro e he
    have he' : e ∈ l.map (lnE w) := by simpa using he
    obtain ⟨x, _, rfl⟩ := List.mem_map.mp he'
    exact ⟨x.1, strKind_is prog w x.1 x.2.1, rfl⟩
  · show Pairs (strKind prog w) (l.map (lnE w)).toArray.toList (lnKvs l)
    simp only [List.toList_toArray]
    clear hd hn
    induction l with
    | nil => exact .nil
    | cons e r ih => exact .cons (strKind_is prog w e.1 e.2.1) rfl ih
  · have : (lnKvs l).map (·.1) = l.map (·.1) := by simp [lnKvs, Function.comp_def]
    rw [this]; exact hn

theorem lnFlat : ∀ l : List Ln, PyProof.V.FlatPairs PyData.str (lnKvs l) (lnPy l)
  | [] => .nil
  | e :: r => .cons (Flat.str _ _) (lnFlat r)

theorem dObj_tab (hd : h.get? d = some (dObj w l ep)) (hn : (l.map (·.1)).Nodup) (lo : (d == sysModules) = false) : TabAt (strKind prog w) PyData.str h d (lnPy l) :=
  ⟨lo, _, (dObj_at hd hn).dictOf, lnFlat l⟩
end

section
variable {prog : Program} {w : World} {A : Around} {E : Value → Shared → Prop} {s : Shared}

theorem items_turns {elts : List Expr} {kk : Nat} {pos : Pos} (hh : A.handled = none) (I d : Addr) (hne : d ≠ I) (l : List Ln) (ep : Nat) (hn : (l.map (·.1)).Nodup) :
    KTurns prog w A (.Tuple elts kk pos) I [I, d] [I] l.length
      (fun i v h => ∃ T e, v = .ref T ∧ l[i]? = some e ∧ IsTup h T #[.str e.1 e.2.1, .str e.2.2.1 e.2.2.2])
      (fun i v h => ∃ T e ok ov, v = .ref T ∧ l[i]? = some e ∧ IsTup h T #[.str e.1 e.2.1, .str e.2.2.1 e.2.2.2] ∧ IsItemIterOut h I d (i + 1) l.length ep ok ov T ∧ h.get? d = some (dObj w l ep) ∧ T ≠ I)
      (fun i h => (∃ ok ov, IsItemIter h I d i l.length ep ok ov) ∧ h.get? d = some (dObj w l ep)) where
  sub := fun b hb => by simp at hb; simp [hb]
  frame := fun i h h' st hk => by
    obtain ⟨⟨ok, ov, he⟩, hm⟩ := st
    exact ⟨⟨ok, ov, hk I (by simp) _ he⟩, hk d (by simp) _ hm⟩
  item := fun i s Q E hi st hQ => by
    obtain ⟨⟨ok, ov, he⟩, hm⟩ := st
    have hx : l[i]? = some l[i] := by simp [hi]
    refine next_items (e := lnE w l[i]) he hm rfl (by simp) (by simp [hi]) fun h' ho hT hk => ?_
    exact hQ (.ref s.heap.objs.size) h' s.toks ⟨_, _, _, _, rfl, hx, ⟨_, hT, rfl, _, rfl⟩, ho, hk d _ hne hm, Nat.ne_of_gt (Heap.lt_size he)⟩ fun b o hb e => hk b o (fun h => hb (by simp [h])) e
  go := fun i v s Q E hm hQ => by
    obtain ⟨T, e, ok, ov, rfl, hx, hT, ho, hd, hTI⟩ := hm
    refine wpAny_letOwnedTupleGo_items ho fun h' he hs => ?_
    exact hQ h' ⟨T, e, rfl, hx, hT.extBut hs.extBut hTI⟩ ⟨⟨ok, ov, he⟩, hs.extBut d _ hne hd⟩ fun b o hb e => hs.extBut b o (fun h => hb (by simp [h])) e
  done := fun s Q E st hQ => by
    obtain ⟨⟨ok, ov, he⟩, hm⟩ := st
    have hl : (lnKvs l).length = l.length := by simp [lnKvs]
    have he' : IsItemIter s.heap I d l.length (lnKvs l).length ep ok ov := by rw [hl]; exact he
    exact wpAny_pyNext_items_end (kvs := lnKvs l) hh he' (dObj_at (prog := prog) hm hn) (by simp [lnKvs]) fun h' hx => hQ h' s.toks fun b o hb e => hx b o (fun h => hb (by simp [h])) e
end
end Mine
end

section
open PySem PySem.W PyProof.Rows PyProof.V
set_option maxRecDepth 100000
namespace Mine

theorem news_ext {h₀ h h' : Heap} {L : Addr} {news : List (Addr × Obj)} (N : News h₀ L h news) (hs : Heap.ExtBut h.objs.size h h') : News h₀ L h' news :=
  fun p hp => ⟨hs p.1 p.2 (Nat.ne_of_lt (Heap.lt_size (N p hp).1)) (N p hp).1, (N p hp).2⟩
theorem news_sub {h₀ h : Heap} {L : Addr} {news news' : List (Addr × Obj)} (N : News h₀ L h news) (hs : ∀ p ∈ news', p ∈ news) : News h₀ L h news' := fun p hp => N p (hs p hp)

section
variable {prog : Program} {w : World} {A : Around} {E : Value → Shared → Prop} {s : Shared} {h₀ : Heap} {L a : Addr} {m : Str → Option Value}
  {cn : Str} {cs : Scope} {ccd : Value} {cl : List (Str × Addr)} {news : List (Addr × Obj)}

/-- x1, x2 = a pair -/
theorem assign_two {x1 x2 : Str} {p1 p2 pos : Pos} {k : Nat} {T : Addr} {v1 v2 : Value} {Q : Unit → Shared → Prop} (F : Fr h₀ L s.heap m) (N : News h₀ L s.heap news) (ht : IsTup s.heap T #[v1, v2]) (hh : A.handled = none)
    (hk : cs.kind = .function) (hx1 : (envX cn cs L a ccd cl).kindOf x1 = some .local) (hx2 : (envX cn cs L a ccd cl).kindOf x2 = some .local)
    (h : ∀ h', Fr h₀ L h' (upd (upd m x1 v1) x2 v2) → News h₀ L h' news → Q () { s with heap := h', toks := s.toks + 1 + 1 }) :
    wpAny (model prog w) A (assign (.Tuple [.Name x1 p1, .Name x2 p2] k pos) (envX cn cs L a ccd cl) (.ref T)) Q E s := by
  refine assign_Tuple_tuple hh ht rfl rfl fun h' he => ?_
  have F' := F.extBut he (Nat.le_refl _)
  have N' := news_ext N he
  refine assignInOrder_cons (assign_Name (storeX_L (s := { s with heap := h' }) F' N' (fun h₁ F₁ N₁ => ?_) hk hx1))
  refine assignInOrder_cons (assign_Name (storeX_L (s := { s with heap := h₁, toks := s.toks + 1 }) F₁ N₁ (fun h₂ F₂ N₂ => ?_) hk hx2))
  exact assignInOrder_nil (h h₂ F₂ N₂)

/-- for x1, x2 in d.items(): d a dict of texts -/
theorem for_items {x1 x2 xd : Str} {p1 p2 pt pd pa pc pos : Pos} {k : Nat} {body : List Stmt} {d : Addr} {l : List Ln} {ep : Nat} {Q : Flow → Shared → Prop}
    (J : Nat → (Str → Option Value) → Prop)
    (hh : A.handled = none) (F : Fr h₀ L s.heap m) (N : News h₀ L s.heap news) (T : h₀.NoLimit) (hm : m xd = some (.ref d)) (hd : (d, dObj w l ep) ∈ news) (hn : (l.map (·.1)).Nodup) (lo : (d == sysModules) = false)
    (hp : (pa.endLine == pc.line) = true)
    (hk : cs.kind = .function) (hx1 : (envX cn cs L a ccd cl).kindOf x1 = some .local) (hx2 : (envX cn cs L a ccd cl).kindOf x2 = some .local) (hxd : (envX cn cs L a ccd cl).kindOf xd = some .local) (hdb : (xd == ("__debug__" : Str)) = false)
    (h0 : J 0 m)
    (step : ∀ i e m₁ s₁ own, l[i]? = some e → J i m₁ → Fr h₀ L s₁.heap (upd (upd m₁ x1 (.str e.1 e.2.1)) x2 (.str e.2.2.1 e.2.2.2)) → News h₀ L s₁.heap (own ++ news) → 1 ≤ s₁.toks →
      wpAny (model prog w) A (execs body (envX cn cs L a ccd cl)) (fun fl s₂ => fl = .next ∧ ∃ h' tk m', s₂ = { s₁ with heap := h', toks := tk } ∧ Fr h₀ L h' m' ∧ News h₀ L h' (own ++ news) ∧ J (i + 1) m') (fun _ _ => False) s₁)
    (done : ∀ h' tk m', Fr h₀ L h' m' → News h₀ L h' news → J l.length m' → Q .next { s with heap := h', toks := tk }) :
    wpAny (model prog w) A (exec (.For (.Tuple [.Name x1 p1, .Name x2 p2] k pt) (.Call (.Attribute (.Name xd pd) (Str.ofString "items") pa) [] [] pc) body [] pos) (envX cn cs L a ccd cl)) Q (fun _ _ => False) s := by
  have hdg := (N _ hd).1
  refine For_turns (h₀ := h₀) (m := m) F ?_ (by intro _; rfl) PassesOwn.never
  refine mcall hp rfl rfl (nameX_L F hm ?_ hk hxd hdb)
  refine getMethod_tab (knd := strKind prog w) (enc := PyData.str) PySem.F.slot_dict_items PySem.F.type_dict_items (dObj_tab hdg hn lo) ?_
  refine callWith_method0 (call_items_tab (knd := strKind prog w) (enc := PyData.str) (dObj_tab hdg hn lo) F N fun h' o hv F' N' => ?_)
  have hdg' := (N' _ (List.mem_cons_of_mem _ hd)).1
  have hl : (lnKvs l).length = l.length := by simp [lnKvs]
  refine wpAny_pyIter_items (knd := strKind prog w) hv (dObj_at (prog := prog) hdg' hn) ?_
  rw [hl]
  have hne : d ≠ h'.objs.size := Nat.ne_of_lt (Heap.lt_size hdg')
  refine ⟨h'.objs.size, [h'.objs.size, d], [h'.objs.size], l.length, _, _, _, m, news, fun i m₁ n₁ => n₁ = news ∧ J i m₁, rfl, items_turns hh h'.objs.size d hne l ep hn, ?_, ?_, ?_, ?_, F'.push _, ?_, ⟨rfl, h0⟩, ?_, ?_⟩
  · intro hm'
    rcases List.mem_cons.mp hm' with e | e
    · exact absurd F'.ns.lt (by rw [show L = h'.objs.size from e]; exact Nat.lt_irrefl _)
    · exact (N _ hd).2.1 (List.mem_singleton.mp e).symm
  · intro b hb
    rw [List.mem_singleton.mp hb]
    exact next_is_new F'
  · intro q hq hI
    exact absurd (Heap.lt_size (N' _ (List.mem_cons_of_mem _ hq)).1) ((List.mem_singleton.mp hI) ▸ Nat.lt_irrefl _)
  · exact ⟨⟨.none, .none, Heap.get?_push_size _ rfl⟩, Heap.get?_push_of_some _ hdg'⟩
  · exact fun q hq => ⟨Heap.get?_push_of_some _ (N' _ (List.mem_cons_of_mem _ hq)).1, (N' _ (List.mem_cons_of_mem _ hq)).2⟩
  · rintro i v m₁ news₁ h₁ tk₁ own hi ⟨T', e, rfl, hx, hT⟩ ⟨rfl, hJ⟩ hoff _ _ _ _ F₁ N₁
    refine assign_two (s := { s with heap := h₁, toks := tk₁ }) F₁ N₁ hT hh hk hx1 hx2 fun h₂ F₂ N₂ => ?_
    refine wpAny_mono (step i e m₁ { s with heap := h₂, toks := tk₁ + 1 + 1 } own hx hJ F₂ N₂ (by show 1 ≤ tk₁ + 1 + 1; omega)) ?_ (fun _ _ x => x)
    rintro fl s₂ ⟨rfl, h₃, tk₃, m₃, rfl, F₃, N₃, hJ₃⟩
    exact .next ⟨rfl, h₃, tk₃, m₃, news₁, rfl, F₃, N₃, hoff, rfl, hJ₃⟩
  · rintro h₁ tk₁ m₁ news₁ F₁ N₁ _ ⟨rfl, hJ⟩
    exact done h₁ tk₁ m₁ F₁ N₁ hJ
end
end Mine
end

section
open PySem PySem.W PyProof.Rows PyProof.V
set_option maxRecDepth 100000
namespace Mine

def LnOk (e : Ln) : Prop := e.2.1 ≠ 0 ∧ e.2.2.2 ≠ 0 ∧ e.2.1 ≠ e.2.2.2
def lnReps (l : List Ln) : List (Str × Str) := l.map fun e => (e.1, e.2.2.1)
/-- where a key is its own value the state must not have booked a token -/
def Clear (K : Frag) (l : List Ln) : Prop := (∀ e ∈ l, (e.1 == e.2.2.1) = false) ∨ ∀ h, K.In h → NoneBooked h

section
variable {prog : Program} {w : World} {A : Around} {E : Value → Shared → Prop} {s : Shared} {h₀ : Heap} {L a : Addr} {m : Str → Option Value}
  {cn : Str} {cs : Scope} {ccd : Value} {cl : List (Str × Addr)} {news : List (Addr × Obj)}

/-- x.replace(xy, xz): names -/
theorem ev_replaceN {x xy xz y z X : Str} {t u v : Tok} {p1 p2 p3 p4 p5 : Pos} {Q : Value → Shared → Prop} (F : Fr h₀ L s.heap m) (hm : m x = some (.str X t)) (hmy : m xy = some (.str y u)) (hmz : m xz = some (.str z v))
    (hp : (p2.endLine == p5.line) = true) (hu : u ≠ 0) (hv : v ≠ 0) (huv : u ≠ v)
    (hyz : (y == z) = false ∨ NoneBooked s.heap) (hb : X.length + (X.length + 1) * z.length ≤ 16777216)
    (hk : cs.kind = .function) (hx : (envX cn cs L a ccd cl).kindOf x = some .local) (hd : (x == ("__debug__" : Str)) = false)
    (hxy : (envX cn cs L a ccd cl).kindOf xy = some .local) (hdy : (xy == ("__debug__" : Str)) = false) (hxz : (envX cn cs L a ccd cl).kindOf xz = some .local) (hdz : (xz == ("__debug__" : Str)) = false)
    (h : ∀ t' k, s.toks ≤ k → Q (.str (Txt.replace X y z) t') { s with toks := k }) :
    wpAny (model prog w) A (eval (.Call (.Attribute (.Name x p1) (Str.ofString "replace") p2) [.Name xy p3, .Name xz p4] [] p5) (envX cn cs L a ccd cl)) Q E s := by
  refine mcall hp rfl rfl (nameX_L F hm ?_ hk hx hd)
  refine GM.replace ?_
  refine callWith_method1 (spliced_more (nameX_L F hmy (spliced_more (nameX_L F hmz (spliced_none ?_) hk hxz hdz) rfl) hk hxy hdy) rfl) rfl rfl
  rcases hyz with hyz | hnb
  · exact toks_le (SC.replace hu hv huv hyz hb fun t' k hk' => h t' k hk')
  · exact toks_le (SC.replaceA hu hv huv hb (fun t' k hk' => h t' k hk') hnb)
end

theorem repls_take {l : List Ln} {i : Nat} {e : Ln} (X : Str) (h : l[i]? = some e) : repls X (lnReps (l.take (i + 1))) = Txt.replace (repls X (lnReps (l.take i))) e.1 e.2.2.1 := by
  rw [List.take_add_one, h]
  simp [lnReps, repls, List.foldl_append]

theorem fits_take : ∀ {l : List Ln} {i : Nat} {e : Ln} {X : Str}, Fits X (lnReps l) → l[i]? = some e → (repls X (lnReps (l.take i))).length + ((repls X (lnReps (l.take i))).length + 1) * e.2.2.1.length ≤ 16777216
  | e' :: r, 0, e, X, hf, h => by
    simp only [List.getElem?_cons_zero, Option.some.injEq] at h
    subst h
    exact hf.1
  | e' :: r, i + 1, e, X, hf, h => by
    have := fits_take (l := r) (i := i) (e := e) (X := Txt.replace X e'.1 e'.2.2.1) hf.2 (by simpa using h)
    simpa [lnReps, repls] using this

section
variable {prog : Program} {w : World} {K : Frag} {p : Program} {loose : List Str} {mean : ExcName → Option Value} {mg mb : Str → Option Value}

/-- def dict_replace(s, d): for key, value in d.items(): s = s.replace(key, value); return s -/
theorem body_dictrep {n : Nat} {f : Addr} {qual : Str} {scope : Scope} {cdv : Value} {m : Str → Option Value} {xs xd xk xv X : Str} {t : Tok} {d : Addr} {l : List Ln} {ep : Nat}
    {p1 p2 pt pd pa pc pos q0 q1 q2 q3 q4 q5 q6 r1 r2 : Pos} {k : Nat}
    (hm : m xs = some (.str X t)) (hmd : m xd = some (.ref d)) (hf : Fits X (lnReps l)) (hn : (l.map (·.1)).Nodup) (hok : ∀ e ∈ l, LnOk e) (hc : Clear K l) (lo : (d == sysModules) = false)
    (hp : (pa.endLine == pc.line) = true) (hp' : (q2.endLine == q5.line) = true)
    (hk : scope.kind = .function) (hxs : ∀ L, (envOf qual scope L f cdv).kindOf xs = some .local) (hxd : ∀ L, (envOf qual scope L f cdv).kindOf xd = some .local)
    (hxk : ∀ L, (envOf qual scope L f cdv).kindOf xk = some .local) (hxv : ∀ L, (envOf qual scope L f cdv).kindOf xv = some .local)
    (hds : (xs == ("__debug__" : Str)) = false) (hdd : (xd == ("__debug__" : Str)) = false) (hdk : (xk == ("__debug__" : Str)) = false) (hdv : (xv == ("__debug__" : Str)) = false)
    (hne1 : xs ≠ xk) (hne2 : xs ≠ xv) (hne3 : xk ≠ xv) :
    BodyGives prog w K p loose mean mg mb n f qual scope cdv
      [.For (.Tuple [.Name xk p1, .Name xv p2] k pt) (.Call (.Attribute (.Name xd pd) (Str.ofString "items") pa) [] [] pc)
        [.Assign [.Name xs q0] (.Call (.Attribute (.Name xs q1) (Str.ofString "replace") q2) [.Name xk q3, .Name xv q4] [] q5) q6] [] pos, .Return (some (.Name xs r1)) r2] m
      (fun _ news => (d, dObj w l ep) ∈ news) (fun v ex => ex = [] ∧ ∃ t', v = .str (repls X (lnReps l)) t') := by
  intro A A₀ base outer g L news s Q S F N h1 hr hpre hQ
  refine wpAny_execs_cons (toksQ ?_)
  refine for_items (cl := []) (l := l) (ep := ep) (fun i m₁ => ∃ t', m₁ xs = some (.str (repls X (lnReps (l.take i))) t')) S.hh F N S.T.nolimit hmd hpre hn lo hp hk (hxk L) (hxv L) (hxd L) hdd ⟨t, by simpa [lnReps, repls] using hm⟩ ?_ ?_
  · rintro i e m₁ s₁ own he ⟨t', hm₁⟩ F₁ N₁ h1₁
    obtain ⟨hu, hv, huv⟩ := hok e (List.mem_of_getElem? he)
    refine wpAny_execs_cons (wpAny_Assign_Name (ev_replaceN (cl := []) (xy := xk) (xz := xv) (X := repls X (lnReps (l.take i))) (t := t') (y := e.1) (z := e.2.2.1) (u := e.2.1) (v := e.2.2.2) F₁ ?_ ?_ ?_ hp' hu hv huv ?_ (fits_take hf he) hk (hxs L) hds (hxk L) hdk (hxv L) hdv fun t₂ k₂ hk₂ => ?_))
    · simp [upd, hne1, hne2, hm₁]
    · simp [upd, hne3]
    · simp [upd]
    · exact hc.imp (fun h => h e (List.mem_of_getElem? he)) fun h => h _ ((S.X.keeps fun b o q => F₁.keep b o q))
    · refine storeX_L (s := { s₁ with toks := k₂ }) F₁ N₁ (fun h₃ F₃ N₃ => ?_) hk (hxs L)
      exact wpAny_execs_nil ⟨rfl, h₃, k₂ + 1, _, rfl, F₃, N₃, t₂, by simp [repls_take X he]⟩
  · rintro h' tk m' F' N' ⟨t', hm'⟩ htk
    rw [List.take_length] at hm'
    refine wpAny_execs_cons (st_return (cl := []) (s := { s with heap := h', toks := tk }) F' hm' hk (hxs L) hds ?_)
    exact hQ _ [] h' tk m' F' N' (fun _ _ _ hx => nomatch hx) (Nat.le_trans h1 htk) ⟨rfl, t', rfl⟩
end
end Mine
end

section
open PySem PySem.W PyProof.Rows PyProof.V
set_option maxRecDepth 100000
namespace Mine

/-- an object that stands: made by the call, or at the top -/
def Stands (K : Frag) (news : List (Addr × Obj)) (d : Addr) (o : Obj) : Prop := (d, o) ∈ news ∨ ∀ h, K.In h → h.get? d = some o
theorem Stands.at {K : Frag} {news : List (Addr × Obj)} {d : Addr} {o : Obj} {h₀ h : Heap} {L : Addr} {m : Str → Option Value} (x : Stands K news d o) (N : News h₀ L h news) (F : Fr h₀ L h m) (X : K.In h₀) : h.get? d = some o :=
  x.elim (fun q => (N _ q).1) fun q => q h (X.keeps F.keep)

/-- the calls of one def from another's frame -/
theorem call_name {prog : Program} {w : World} {K : Frag} {p : Program} {loose : List Str} {mean : ExcName → Option Value} {mg mb : Str → Option Value} {A A₀ : Around} {base : Heap} {outer : List Env} {E : Value → Shared → Prop} {s : Shared} {h₀ : Heap} {L a : Addr} {m : Str → Option Value}
    {cn : Str} {cs : Scope} {ccd : Value} {cl : List (Str × Addr)} {x : Str} {f : Addr} {e : Expr} {rest : List Expr} {px pos : Pos} {Q : Value → Shared → Prop}
    (S : Site K p loose mean mg mb A (envX cn cs L a ccd cl) A₀ base outer h₀ L) (F : Fr h₀ L s.heap m) (he : nsIn K mainGlobals x = some (some (.ref f))) (hkp : keepIn K (.ref f) = true)
    (hx : (envX cn cs L a ccd cl).kindOf x = some .globalImplicit) (hd : (x == ("__debug__" : Str)) = false)
    (h : wpAny (model prog w) A (spliced (backTo pos (starEach (e :: rest) (envX cn cs L a ccd cl)))) (fun vs s₁ => K.In s₁.heap ∧ wpAny (model prog w) A (call (.ref f) vs) Q E s₁) E s)
    (he1 : starEach (e :: rest) (envX cn cs L a ccd cl) = (false, eval e (envX cn cs L a ccd cl)) :: starEach rest (envX cn cs L a ccd cl)) (hpl : (backTo pos (starEach rest (envX cn cs L a ccd cl))).any (·.1) = false) :
    wpAny (model prog w) A (eval (.Call (.Name x px) (e :: rest) [] pos) (envX cn cs L a ccd cl)) Q E s := by
  refine Call_ (nameX_K F S.X (topRead_of S.T) he ?_ S.hk hx hd)
  exact callWith_K (first := []) S.X hkp h he1 hpl
section
variable {prog : Program} {w : World} {K : Frag} {p : Program} {loose : List Str} {mean : ExcName → Option Value} {mg mb : Str → Option Value}

/-- if entities: data = dict_replace(data, entities), the rest behind it -/
theorem st_entities {n : Nat} {A A₀ : Around} {base : Heap} {outer : List Env} {E : Value → Shared → Prop} {s : Shared} {h₀ : Heap} {L a : Addr} {m : Str → Option Value} {news : List (Addr × Obj)}
    {cn : Str} {cs : Scope} {ccd : Value} {cl : List (Str × Addr)} {x xe xg X : Str} {g d : Addr} {t : Tok} {l : List Ln} {ep : Nat} {q1 q2 q3 q4 q5 q6 q7 q8 : Pos} {Q : Flow → Shared → Prop}
    (S : Site K p loose mean mg mb A (envX cn cs L a ccd cl) A₀ base outer h₀ L) (F : Fr h₀ L s.heap (upd m x (.str X t))) (N : News h₀ L s.heap news) (h1 : 1 ≤ s.toks) (hr : Room A n)
    (hme : m xe = some (.ref d)) (hxe : xe ≠ x) (hst : Stands K news d (dObj w l ep)) (hl : l ≠ [] → (d, dObj w l ep) ∈ news) (hn : (l.map (·.1)).Nodup) (lo : (d == sysModules) = false) (hlen : l.length < 100)
    (hg : l ≠ [] → ∀ t, Gives prog w K p loose mean mg mb n g [.str X t, .ref d] (fun _ news => (d, dObj w l ep) ∈ news) (fun v ex => ex = [] ∧ ∃ t', v = .str (repls X (lnReps l)) t'))
    (hgn : nsIn K mainGlobals xg = some (some (.ref g))) (hkp : keepIn K (.ref g) = true)
    (hkx : (envX cn cs L a ccd cl).kindOf x = some .local) (hke : (envX cn cs L a ccd cl).kindOf xe = some .local) (hkg : (envX cn cs L a ccd cl).kindOf xg = some .globalImplicit)
    (hdx : (x == ("__debug__" : Str)) = false) (hde : (xe == ("__debug__" : Str)) = false) (hdg : (xg == ("__debug__" : Str)) = false)
    (h : ∀ h' t' k, Fr h₀ L h' (upd m x (.str (repls X (lnReps l)) t')) → News h₀ L h' news → 1 ≤ k → Q .next { s with heap := h', toks := k }) :
    wpAny (model prog w) A (exec (.If (.Name xe q1) [.Assign [.Name x q2] (.Call (.Name xg q3) [.Name x q4, .Name xe q5] [] q6) q7] [] q8) (envX cn cs L a ccd cl)) Q E s := by
  have hm2 : upd m x (.str X t) xe = some (.ref d) := by simp [upd, hxe, hme]
  refine wpAny_If (isTrue_plain (nameX_L F hm2 ?_ S.hk hke hde) rfl)
  have hat := hst.at N F S.X
  refine truthy_tab (knd := strKind prog w) (enc := PyData.str) (dObj_tab hat hn lo) (by simp [lnPy]; omega) ?_
  by_cases hle : l = []
  · subst hle
    simp only [lnPy, List.map_nil, List.isEmpty_nil, Bool.not_true, Bool.false_eq_true, if_false]
    exact wpAny_execs_nil (h s.heap t (s.toks + 1 + 1) F N (by omega))
  · have he : (lnPy l).isEmpty = false := by cases l with | nil => exact absurd rfl hle | cons _ _ => rfl
    simp only [he, Bool.not_false, if_true]
    refine wpAny_execs_cons (wpAny_Assign_Name (call_name (s := { s with toks := s.toks + 1 + 1 }) S F hgn hkp hkg hdg ?_ rfl rfl))
    refine spliced_more (nameX_L (s := { s with toks := s.toks + 1 + 1 }) F (upd_at ..) (spliced_more (nameX_L (s := { s with toks := s.toks + 1 + 1 }) F hm2 (spliced_none ⟨S.X.keeps F.keep, ?_⟩) S.hk hke hde) rfl) S.hk hkx hdx) rfl
    refine hg hle t A _ A₀ base outer h₀ L _ news { s with toks := s.toks + 1 + 1 } _ _ S F N hr (hl hle) ?_
    rintro v ex h' tk' F' N' _ htk ⟨rfl, t', rfl⟩
    refine storeX_L (s := { s with heap := h', toks := tk' }) F' N' (fun h₃ F₃ N₃ => ?_) S.hk hkx
    refine wpAny_execs_nil (h h₃ t' (tk' + 1) ?_ N₃ (by omega))
    have := upd_upd m x (.str X t) (.str (repls X (lnReps l)) t')
    rw [← this]; exact F₃

/-- escape(data, entities) -/
theorem body_esc {n : Nat} {f g : Addr} {qual : Str} {scope : Scope} {cdv : Value} {m : Str → Option Value} {x xe xg X : Str} {t : Tok} {d : Addr} {l : List Ln} {ep : Nat} {reps : List (Str × Str)} {sts : List Stmt}
    {q1 q2 q3 q4 q5 q6 q7 q8 r1 r2 : Pos}
    (hc : Chain x reps sts [.If (.Name xe q1) [.Assign [.Name x q2] (.Call (.Name xg q3) [.Name x q4, .Name xe q5] [] q6) q7] [] q8, .Return (some (.Name x r1)) r2])
    (hm : m x = some (.str X t)) (hme : m xe = some (.ref d)) (hxe : xe ≠ x) (hf : Fits X reps) (hn : (l.map (·.1)).Nodup) (lo : (d == sysModules) = false) (hlen : l.length < 100)
    (hg : l ≠ [] → ∀ t, Gives prog w K p loose mean mg mb n g [.str (repls X reps) t, .ref d] (fun _ news => (d, dObj w l ep) ∈ news) (fun v ex => ex = [] ∧ ∃ t', v = .str (repls (repls X reps) (lnReps l)) t'))
    (hgn : nsIn K mainGlobals xg = some (some (.ref g))) (hkp : keepIn K (.ref g) = true) (hk : scope.kind = .function)
    (hkx : ∀ L, (envOf qual scope L f cdv).kindOf x = some .local) (hke : ∀ L, (envOf qual scope L f cdv).kindOf xe = some .local) (hkg : ∀ L, (envOf qual scope L f cdv).kindOf xg = some .globalImplicit)
    (hdx : (x == ("__debug__" : Str)) = false) (hde : (xe == ("__debug__" : Str)) = false) (hdg : (xg == ("__debug__" : Str)) = false) :
    BodyGives prog w K p loose mean mg mb n f qual scope cdv sts m (fun _ news => Stands K news d (dObj w l ep) ∧ (l ≠ [] → (d, dObj w l ep) ∈ news)) (fun v ex => ex = [] ∧ ∃ t', v = .str (repls (repls X reps) (lnReps l)) t') := by
  intro A A₀ base outer g' L news s Q S F N h1 hr hpre hQ
  rw [← upd_same hm] at F
  refine exec_chain (cl := []) hk (hkx L) hdx hc hf F N h1 fun h' t' k F' N' hk' => ?_
  refine wpAny_execs_cons (st_entities (cl := []) (s := { s with heap := h', toks := k }) S F' N' hk' hr hme hxe hpre.1 hpre.2 hn lo hlen hg hgn hkp (hkx L) (hke L) (hkg L) hdx hde hdg fun h₂ t₂ k₂ F₂ N₂ hk₂ => ?_)
  refine wpAny_execs_cons (st_return (cl := []) (s := { s with heap := h₂, toks := k₂ }) F₂ (upd_at ..) hk (hkx L) hdx ?_)
  exact hQ _ [] h₂ k₂ _ F₂ N₂ (fun _ _ _ hx => nomatch hx) hk₂ ⟨rfl, t₂, rfl⟩

/-- unescape(data, entities) -/
theorem body_unesc {n : Nat} {f g : Addr} {qual : Str} {scope : Scope} {cdv : Value} {m : Str → Option Value} {x xe xg X y z : Str} {t : Tok} {d : Addr} {l : List Ln} {ep : Nat} {reps : List (Str × Str)} {sts : List Stmt}
    {k1 k2 : Nat} {q1 q2 q3 q4 q5 q6 q7 q8 r0 r1 r2 r3 r4 r5 : Pos}
    (hc : Chain x reps sts [.If (.Name xe q1) [.Assign [.Name x q2] (.Call (.Name xg q3) [.Name x q4, .Name xe q5] [] q6) q7] [] q8,
      .Return (some (.Call (.Attribute (.Name x r1) (Str.ofString "replace") r2) [.Constant (.str y) k1 r3, .Constant (.str z) k2 r4] [] r5)) r0])
    (hp : (r2.endLine == r5.line) = true) (hyz : (y == z) = false)
    (hm : m x = some (.str X t)) (hme : m xe = some (.ref d)) (hxe : xe ≠ x) (hf : Fits X reps) (hf2 : Fits (repls (repls X reps) (lnReps l)) [(y, z)]) (hn : (l.map (·.1)).Nodup) (lo : (d == sysModules) = false) (hlen : l.length < 100)
    (hg : l ≠ [] → ∀ t, Gives prog w K p loose mean mg mb n g [.str (repls X reps) t, .ref d] (fun _ news => (d, dObj w l ep) ∈ news) (fun v ex => ex = [] ∧ ∃ t', v = .str (repls (repls X reps) (lnReps l)) t'))
    (hgn : nsIn K mainGlobals xg = some (some (.ref g))) (hkp : keepIn K (.ref g) = true) (hk : scope.kind = .function)
    (hkx : ∀ L, (envOf qual scope L f cdv).kindOf x = some .local) (hke : ∀ L, (envOf qual scope L f cdv).kindOf xe = some .local) (hkg : ∀ L, (envOf qual scope L f cdv).kindOf xg = some .globalImplicit)
    (hdx : (x == ("__debug__" : Str)) = false) (hde : (xe == ("__debug__" : Str)) = false) (hdg : (xg == ("__debug__" : Str)) = false) :
    BodyGives prog w K p loose mean mg mb n f qual scope cdv sts m (fun _ news => Stands K news d (dObj w l ep) ∧ (l ≠ [] → (d, dObj w l ep) ∈ news))
      (fun v ex => ex = [] ∧ ∃ t', v = .str (Txt.replace (repls (repls X reps) (lnReps l)) y z) t') := by
  intro A A₀ base outer g' L news s Q S F N h1 hr hpre hQ
  rw [← upd_same hm] at F
  refine exec_chain (cl := []) hk (hkx L) hdx hc hf F N h1 fun h' t' k F' N' hk' => ?_
  refine wpAny_execs_cons (st_entities (cl := []) (s := { s with heap := h', toks := k }) S F' N' hk' hr hme hxe hpre.1 hpre.2 hn lo hlen hg hgn hkp (hkx L) (hke L) (hkg L) hdx hde hdg fun h₂ t₂ k₂ F₂ N₂ hk₂ => ?_)
  refine wpAny_execs_cons (wpAny_Return_some (ev_replace (cl := []) (s := { s with heap := h₂, toks := k₂ }) F₂ (upd_at ..) hk₂ hp hyz hf2.1 hk (hkx L) hdx fun t₃ k₃ hk₃ => ?_))
  exact hQ _ [] h₂ k₃ _ F₂ N₂ (fun _ _ _ hx => nomatch hx) hk₃ ⟨rfl, t₃, rfl⟩
end
end Mine
end

section
open PySem PySem.W PyProof.Rows PyProof.V
set_option maxRecDepth 100000
namespace Mine

/-- a list that is not changed: the call's own, or one from outside -/
def ListAt (h₀ : Heap) (news : List (Addr × Obj)) (l : Addr) (vs : List Value) : Prop := (∃ n, (l, ({ cls := .type "list", data := .seq vs.toArray n } : Obj)) ∈ news) ∨ h₀.IsList l vs.toArray
theorem ListAt.at {h₀ h : Heap} {L l : Addr} {m : Str → Option Value} {news : List (Addr × Obj)} {vs : List Value} (x : ListAt h₀ news l vs) (F : Fr h₀ L h m) (N : News h₀ L h news) : h.IsList l vs.toArray := by
  rcases x with ⟨n, hm⟩ | hl
  · exact ⟨_, (N _ hm).1, rfl, _, rfl⟩
  · exact hl.at fun o e => F.keep l o e
theorem ListAt.ne {h₀ h : Heap} {L l : Addr} {m : Str → Option Value} {news : List (Addr × Obj)} {vs : List Value} (x : ListAt h₀ news l vs) (F : Fr h₀ L h m) (N : News h₀ L h news) : l ≠ L := by
  rcases x with ⟨n, hm⟩ | hl
  · exact (N _ hm).2.1
  · obtain ⟨o, ho, _⟩ := hl
    exact Nat.ne_of_lt (Nat.lt_of_lt_of_le (Heap.lt_size ho) F.above)

section
variable {prog : Program} {w : World} {A : Around} {E : Value → Shared → Prop} {s : Shared} {h₀ : Heap} {L a : Addr} {m : Str → Option Value}
  {cn : Str} {cs : Scope} {ccd : Value} {cl : List (Str × Addr)} {news : List (Addr × Obj)} {target : Expr} {body : List Stmt} {Q : Flow → Shared → Prop}

theorem iter_list {l : Addr} {vs : List Value} (J : Nat → (Str → Option Value) → List (Addr × Obj) → Prop)
    (hh : A.handled = none) (F : Fr h₀ L s.heap m) (N : News h₀ L s.heap news) (hl : ListAt h₀ news l vs) (h0 : J 0 m news)
    (step : ∀ i v m₁ news₁ h₁ tk₁ own I, vs[i]? = some v → J i m₁ news₁ → (∀ p ∈ news₁, p.1 ≠ I) → (∀ p ∈ own, p.1 = I ∨ p.1 = l) → Fr h₀ L h₁ m₁ → News h₀ L h₁ (own ++ news₁) →
      wpAny (model prog w) A (assign target (envX cn cs L a ccd cl) v) (fun _ s₂ => wpAny (model prog w) A (execs body (envX cn cs L a ccd cl))
        (LoopStepV h₀ L [I] own (J (i + 1)) { s with heap := h₁, toks := tk₁ } (fun v s' => Q (.ret v) s') fun s' => Q .next s') E s₂) E { s with heap := h₁, toks := tk₁ })
    (done : ∀ h' tk m' news', Fr h₀ L h' m' → News h₀ L h' news' → J vs.length m' news' → Q .next { s with heap := h', toks := tk }) :
    wpAny (model prog w) A (pyIter (.ref l)) (fun it s₂ => TurnsAt prog w A h₀ (envX cn cs L a ccd cl) target body Q E it s₂) E s := by
  have hls := hl.at F N
  have hne : l ≠ s.heap.objs.size := by obtain ⟨o, ho, _⟩ := hls; exact Nat.ne_of_lt (Heap.lt_size ho)
  refine wpAny_pyIter_list hls ?_
  refine ⟨s.heap.objs.size, [s.heap.objs.size, l], [s.heap.objs.size], vs.length, _, _, _, m, news, J, rfl,
    (by have W := KTurns.ofWalks (target := target) (Walks.list (prog := prog) (w := w) hh s.heap.objs.size l hne vs.toArray) fun i v s Q E st q => letGo_listiter st.1 q
        rw [List.size_toArray] at W; exact W), ?_, ?_, ?_, ?_, F.push _, ?_, h0, ?_, ?_⟩
  · intro hm'
    rcases List.mem_cons.mp hm' with e | e
    · exact absurd F.ns.lt (by rw [show L = s.heap.objs.size from e]; exact Nat.lt_irrefl _)
    · exact hl.ne F N (List.mem_singleton.mp e).symm
  · intro b hb
    rw [List.mem_singleton.mp hb]
    exact next_is_new F
  · intro q hq hI
    exact absurd (Heap.lt_size (N _ hq).1) ((List.mem_singleton.mp hI) ▸ Nat.lt_irrefl _)
  · exact ⟨⟨_, Heap.get?_push_size _ rfl, rfl, rfl⟩, hls.push _⟩
  · exact fun q hq => ⟨Heap.get?_push_of_some _ (N _ hq).1, (N _ hq).2⟩
  · intro i v m₁ news₁ h₁ tk₁ own _ hP hJ hoff hof _ _ _ F₁ N₁
    refine step i v m₁ news₁ h₁ tk₁ own s.heap.objs.size (by have hP' : vs.toArray[i]? = some v := hP; simpa using hP') hJ (fun p hp e => hoff p hp (by simp [e])) (fun p hp => by simpa using hof p hp) F₁ N₁
  · exact fun h' tk m' news' F' N' _ hJ => done h' tk m' news' F' N' hJ

theorem iter_range {x : Str} {px : Pos} {r : Addr} {a₀ b₀ : Int} {t₀ u₀ v₀ : Tok} {n : Nat} (J : Nat → (Str → Option Value) → List (Addr × Obj) → Prop)
    (hh : A.handled = none) (hr : IsRange s.heap r a₀ b₀ 1 t₀ u₀ v₀) (hsmall : Builtin.Range.small a₀ b₀ 1 = true) (hn : Builtin.Range.rangeSize a₀ b₀ 1 = (n : Int)) (F : Fr h₀ L s.heap m) (N : News h₀ L s.heap news) (h0 : J 0 m news)
    (step : ∀ i t m₁ news₁ h₁ tk₁ own I, i < n → J i m₁ news₁ → (∀ p ∈ news₁, p.1 ≠ I) → (∀ p ∈ own, p.1 = I) → Fr h₀ L h₁ m₁ → News h₀ L h₁ (own ++ news₁) →
      wpAny (model prog w) A (assign (.Name x px) (envX cn cs L a ccd cl) (.int (a₀ + (i : Int)) t)) (fun _ s₂ => wpAny (model prog w) A (execs body (envX cn cs L a ccd cl))
        (LoopStepV h₀ L [I] own (J (i + 1)) { s with heap := h₁, toks := tk₁ } (fun v s' => Q (.ret v) s') fun s' => Q .next s') E s₂) E { s with heap := h₁, toks := tk₁ })
    (done : ∀ h' tk m' news', Fr h₀ L h' m' → News h₀ L h' news' → J n m' news' → Q .next { s with heap := h', toks := tk }) :
    wpAny (model prog w) A (pyIter (.ref r)) (fun it s₂ => TurnsAt prog w A h₀ (envX cn cs L a ccd cl) (.Name x px) body Q E it s₂) E s := by
  refine wpAny_pyIter_range hr hsmall ?_
  have W : KTurns prog w A (.Name x px) s.heap.objs.size [s.heap.objs.size] [s.heap.objs.size] n _ _ _ := KTurns.ofWalks (Walks.range hh s.heap.objs.size a₀ 1 n).bound fun i v s Q E st q => wpAny_pure q
  refine ⟨s.heap.objs.size, [s.heap.objs.size], [s.heap.objs.size], n, _, _, _, m, news, J, rfl, W, ?_, ?_, ?_, ?_, F.push _, ?_, h0, ?_, ?_⟩
  · intro hm'
    exact absurd F.ns.lt (by rw [show L = s.heap.objs.size from List.mem_singleton.mp hm']; exact Nat.lt_irrefl _)
  · intro b hb
    rw [List.mem_singleton.mp hb]
    exact next_is_new F
  · intro q hq hI
    exact absurd (Heap.lt_size (N _ hq).1) ((List.mem_singleton.mp hI) ▸ Nat.lt_irrefl _)
  · show IsRangeIter _ _ _ _ _
    rw [hn]; simpa using Heap.get?_push_size _ rfl
  · exact fun q hq => ⟨Heap.get?_push_of_some _ (N _ hq).1, (N _ hq).2⟩
  · rintro i v m₁ news₁ h₁ tk₁ own _ ⟨hi, t, rfl⟩ hJ hoff hof _ _ _ F₁ N₁
    have := step i t m₁ news₁ h₁ tk₁ own s.heap.objs.size hi hJ (fun p hp e => hoff p hp (by simp [e])) (fun p hp => by simpa using hof p hp) F₁ N₁
    rw [Int.mul_one]
    exact this
  · exact fun h' tk m' news' F' N' _ hJ => done h' tk m' news' F' N' hJ
end
end Mine
end

section
open PySem PySem.W PyProof.Rows PyProof.V PySem.Calls
set_option maxRecDepth 100000
namespace Mine

section
variable {prog : Program} {w : World} {M : Model} {A : Around} {E : Value → Shared → Prop} {s : Shared} {K : Frag} {h₀ : Heap} {L : Addr} {m m₂ : Str → Option Value} {env : Env} {news : List (Addr × Obj)} {p : Program} {loose : List Str} {mg mb : Str → Option Value}
  {scope : Scope} {cl : List (Str × Addr)} {C c : Addr} {x : Str} {pos : Pos} {v : Value} {o : Obj} {Q : Value → Shared → Prop}

theorem nsObj_ns {oC : Obj} (h : LCg.NsObj oC m₂) {hp : Heap} (hg : hp.get? C = some oC) : hp.Ns C m₂ := by
  obtain ⟨es, ep, hd, hk, hf⟩ := h
  exact ⟨oC, es, ep, hg, hd, hk, hf⟩

/-- names within a comprehension -/
theorem cname_L (hn : s.heap.Ns C m₂) (hv : m₂ x = some v) (h : Q v s)
    (hk : (compEnvC scope cl C env).scope.kind = .function) (hx : (compEnvC scope cl C env).kindOf x = some .local) (hd : (x == ("__debug__" : Str)) = false) :
    wpAny M A (eval (.Name x pos) (compEnvC scope cl C env)) Q E s := wpAny_Name (wpAny_loadName_local hk hx hn hv h) hd
theorem cname_C (N : News h₀ L s.heap news) (hc : cl.lookup x = some c) (hm : (c, o) ∈ news) (hd : o.data = .cell (some v)) (h : Q v s)
    (hk : (compEnvC scope cl C env).scope.kind = .function) (hx : (compEnvC scope cl C env).kindOf x = some .cell) (hb : (x == ("__debug__" : Str)) = false) :
    wpAny M A (eval (.Name x pos) (compEnvC scope cl C env)) Q E s := wpAny_Name (wpAny_loadName_cell hk hx hc ⟨o, N.get hm, hd⟩ h) hb
theorem cname_K (F : Fr h₀ L s.heap m) (X : K.In h₀) (T : TopRead p loose mg mb h₀) (e : nsIn K mainGlobals x = some (some v)) (h : Q v s) (hg : env.globals = mainGlobals)
    (hk : (compEnvC scope cl C env).scope.kind = .function) (hx : (compEnvC scope cl C env).kindOf x = some .globalImplicit) (hd : (x == ("__debug__" : Str)) = false) :
    wpAny M A (eval (.Name x pos) (compEnvC scope cl C env)) Q E s :=
  Name_function_global hk hx (loadGlobal_global (env := compEnvC scope cl C env) (by show s.heap.Ns env.globals mg; rw [hg]; exact T.g.keeps F.keep) (mg_of X T.g e) h) hd

/-- [elt for x in iter]: iter a list, the elements plain -/
theorem comp_list {elt iter : Expr} {px : Pos} (R : Nat → Value → Prop) (hh : A.handled = none) (F : Fr h₀ L s.heap m)
    (hcl : closureFor scope env = pure cl) (hcell : ∀ y ∈ scope.names, y.2 ≠ .cell) (hk : scope.kind = .function) (hloc : ∀ y ∈ scope.names, y.2 = .local → scope.names.lookup y.1 = some .local) (hx : scope.names.lookup x = some .local)
    (hs : ∀ x, foldedSetIterable iter env x = pure x)
    (h : wpAny (model prog w) A (eval iter env) (fun xv s₁ => ∃ ax vs news, xv = .ref ax ∧ Fr h₀ L s₁.heap m ∧ News h₀ L s₁.heap news ∧ ListAt h₀ news ax vs ∧ vs.length ≤ sizeLine ∧
      (∀ i v C m₂ own s₂, vs[i]? = some v → s₂.heap.Ns C m₂ → m₂ x = some v → Fr h₀ L s₂.heap m → News h₀ L s₂.heap (own ++ news) →
        wpAny (model prog w) A (eval elt (compEnvC scope cl C env)) (fun y s₃ => ∃ h' tk, s₃ = { s₂ with heap := h', toks := tk } ∧ Fr h₀ L h' m ∧ News h₀ L h' (own ++ news) ∧ R i y) (fun _ _ => False) s₂) ∧
      (∀ ys D h' tk, ys.length = vs.length → (∀ i y, ys[i]? = some y → R i y) → Fr h₀ L h' m → News h₀ L h' ((D, LCg.lst ys) :: news) → (∀ q ∈ news, q.1 ≠ D) → Q (.ref D) { s₁ with heap := h', toks := tk })) E s) :
    wpAny (model prog w) A (eval (.ListComp elt [⟨.Name x px, iter, [], 0⟩] scope pos) env) Q E s := by
  refine LCg.ListComp_U (F₀ := F) hcl hcell hk hloc hx (wpAny_mono h ?_ fun _ _ x => x) hs
  rintro xv s₁ ⟨ax, vs, news, rfl, F₁, N₁, hl, hlen, step, fin⟩
  have hsrc : LCg.SrcAt h₀ ax vs.toArray news := by
    rcases hl with ⟨n, hm⟩ | hl
    · exact .inr ⟨_, hm, rfl, n, rfl⟩
    · exact .inl hl
  refine .inl ⟨ax, vs.toArray, news, rfl, hh, F₁, N₁, hsrc, by rw [List.size_toArray]; exact hlen, ?_⟩
  rintro s₂ ⟨hp₂, rfl⟩
  rw [List.size_toArray]
  have key : ∀ (j i : Nat) (ys : List Value), i + j = vs.length → ys.length = i → (∀ k y, ys[k]? = some y → R k y) →
      LCg.CompRest prog w A h₀ L m env elt x scope cl { s₁ with heap := hp₂ } (LCg.SrcAt h₀ ax vs.toArray) (fun i v => vs.toArray[i]? = some v) (LCg.FinE h₀ L m { s₁ with heap := hp₂ } Q) j i ys news := by
    intro j
    induction j with
    | zero =>
      intro i ys hi hy hR
      refine LCg.CompRest.zero fun D h' tk F' N' off => ?_
      refine fin ys D h' tk (by omega) hR F' N' ?_
      clear fin step N' N₁ hl hsrc
      induction news with
      | nil => intro q hq; nomatch hq
      | cons r rs ih =>
        intro q hq
        rcases List.mem_cons.mp hq with rfl | hq
        · exact off.1
        · exact ih off.2 q hq
    | succ j ih =>
      intro i ys hi hy hR
      refine LCg.CompRest.succ fun v I oI C oC D m₂ h' tk E' hv hC hxv F' N' off ne => ?_
      have hv' : vs[i]? = some v := by have q : vs.toArray[i]? = some v := hv; simpa using q
      refine wpAny_mono (step i v C m₂ [(I, oI), (C, oC), (D, LCg.lst ys)] _ hv' (nsObj_ns hC (N' _ (.tail _ (.head _))).1) hxv F' N') ?_ (fun _ _ x => x.elim)
      rintro y s₃ ⟨h₃, tk₃, rfl, F₃, N₃, hRy⟩
      refine ⟨h₃, tk₃, news, rfl, F₃, N₃, off, hsrc, ih (i + 1) (ys ++ [y]) (by omega) (by simp [hy]) ?_⟩
      intro k z hz
      rcases Nat.lt_trichotomy k ys.length with hk' | hk' | hk'
      · rw [List.getElem?_append_left hk'] at hz; exact hR k z hz
      · subst hk'
        simp at hz
        rw [hy, ← hz]; exact hRy
      · rw [List.getElem?_append_right (by omega), List.getElem?_eq_none (by simp; omega)] at hz
        cases hz
  exact key vs.length 0 [] (by omega) rfl (by simp)
end
end Mine
end

section
open PySem PySem.W PyProof.Rows PyProof.V PySem.Calls
set_option maxRecDepth 100000
namespace Mine

abbrev IsKI (h : Heap) (it d : Addr) (i n ep : Nat) : Prop :=
  h.get? it = some { cls := .type "dict_keyiterator", dict := none, data := .fields #[.ref d, .int i 0, .int n 0, .int ep 0], slots := #[] }
theorem IsKI.key {h : Heap} {it d : Addr} {i n ep : Nat} (x : IsKI h it d i n ep) : h.IsKeyIter it d i n ep := ⟨_, x, rfl, rfl⟩

section
variable {prog : Program} {w : World} {A : Around} {E : Value → Shared → Prop} {s : Shared}

/-- a key iterator's next key, as the table holds it -/
theorem next_key {it d : Addr} {i n ep : Nat} {od : Obj} {es : Array DictEntry} {e : DictEntry} {Q : Option Value → Shared → Prop}
    (hit : IsKI s.heap it d i n ep) (hd : s.heap.get? d = some od) (hdd : od.data = .dict es ep) (hn : es.size = n) (he : es[i]? = some e)
    (hQ : ∀ h', IsKI h' it d (i + 1) n ep → Heap.SameBut it s.heap h' → Q (some e.key) { s with heap := h' }) :
    wpAny (model prog w) A (pyNext (.ref it)) Q E s := by
  have hT : s.TypeIs (.ref it) "dict_keyiterator" := ⟨_, hit, rfl⟩
  have hown : Builtin.Dict_items.ownsTuple "dict_keyiterator" = false := by decide
  unfold pyNext
  refine wpAny_bind (wpAny_attempt (wpAny_callSpecial?_slot (name := Str.ofString "__next__") hT F.slot_dict_keyiterator_next (wpAny_call_entry F.slot_dict_keyiterator_next hT F.entry_dict_keyiterator_next ?_ (F.args_dict_keyiterator_next_1 _))))
  refine wpAny_bind (wpAny_pure (wpAny_bind (wpAny_bind (wpAny_bind (wpAny_typeNameOfWhole_keyiter hT (wpAny_pure (wpAny_bind (wpAny_fieldsOf hit rfl ?_))))))))
  simp only [hown, Bool.false_eq_true, if_false]
  show wpAny _ _ (if (Value.ref d == Value.none) = true then _ else _) _ _ _
  rw [if_neg (show ¬ ((Value.ref d == Value.none) = true) from Bool.false_ne_true)]
  refine wpAny_bind (wpAny_pure (wpAny_bind (wpAny_dictEntries hd hdd ?_)))
  rw [if_neg (by simp [hn])]
  refine wpAny_bind (wpAny_pure (wpAny_bind (wpAny_dictEpoch hd hdd ?_)))
  rw [if_neg (by simp)]
  refine wpAny_pure ?_
  simp only [show ¬ ((i : Int) < 0) from by omega, if_false, Int.toNat_natCast, he]
  refine wpAny_bind (wpAny_bind (wpAny_typeNameOfWhole_keyiter hT (wpAny_pure (wpAny_bind (wpAny_isOneOf_keyiter hT ?_)))))
  simp only [hown, Bool.false_eq_true, if_false]
  refine wpAny_bind (wpAny_setField_rec (k := 1) (x := rawInt ((i : Int) + 1)) hit (by simp) fun h₁ e₁ b₁ => ?_)
  have e₂ : IsKI h₁ it d (i + 1) n ep := by simpa [rawInt, IsKI] using e₁
  refine wpAny_bind (wpAny_holding (wpAny_bind (wpAny_isOneOf_keyiter (s := { s with heap := h₁ }) e₂.key.typeIs ?_)))
  show wpAny _ _ (pure e.key) _ _ _
  exact wpAny_pure (wpAny_pure ⟨_, rfl, wpAny_pure (hQ h₁ e₂ b₁)⟩)

/-- a new key at a dict's end -/
theorem dictSet_new {d : Addr} {l : List Ln} {ep : Nat} {k : Str} {t : Tok} {v : Str} {u : Tok} {Q : Unit → Shared → Prop} (hd : s.heap.get? d = some (dObj w l ep)) (hk : k ∉ l.map (·.1)) (hl : l.length < sizeLine)
    (hQ : ∀ h', h'.get? d = some (dObj w (l ++ [(k, t, v, u)]) (ep + 1)) → Heap.SameBut d s.heap h' → Q () { s with heap := h', toks := s.toks + 1 }) :
    wpAny (model prog w) A (dictSet d (.str k t) (.str v u)) Q E s := by
  have hkey := strKind_is prog w k t
  have hks : KeysOf (strKind prog w) (l.map (lnE w)).toArray := by
    intro e he
    have he' : e ∈ l.map (lnE w) := by simpa using he
    obtain ⟨x, _, rfl⟩ := List.mem_map.mp he'
    exact ⟨x.1, strKind_is prog w x.1 x.2.1, rfl⟩
  unfold dictSet
  try with_reducible refine wpAny_holding ?_
  refine wpAny_bind ((strKind prog w).pyHash hkey ?_)
  unfold dictSetHashed
  try with_reducible refine wpAny_holding ?_
  refine wpAny_bind (wpAny_dictFind_of (knd := strKind prog w) (s := { s with toks := s.toks + 1 }) hkey hd rfl hks ?_)
  have hi : ((l.map (lnE w)).toArray.findIdx? fun e => (strKind prog w).is k e.key) = none := by
    rw [Array.findIdx?_eq_none_iff]
    intro e he
    have he' : e ∈ l.map (lnE w) := by simpa using he
    obtain ⟨x, hx, rfl⟩ := List.mem_map.mp he'
    show Value.isStrOf k (.str x.1 x.2.1) = false
    cases hq : Value.isStrOf k (.str x.1 x.2.1) with
    | false => rfl
    | true =>
      obtain ⟨t', e'⟩ := Value.isStrOf_shape hq
      injection e' with e1
      exact absurd (List.mem_map.mpr ⟨x, hx, e1⟩) hk
  rw [hi]
  refine wpAny_bind (wpAny_rule (wpAny_updateDictKeys (hz := by simp; omega) (s := { s with toks := s.toks + 1 }) hd rfl (hQ _ ?_ (Heap.SameBut.update ..))))
  refine (Heap.get?_update_self _ hd rfl).trans ?_
  simp [dObj, Obj.mapDictKeys, lnE]
  rfl
end
end Mine
end

section
open PySem PySem.W PyProof.Rows PyProof.V PySem.Calls
set_option maxRecDepth 100000
namespace Mine

theorem fr_fresh {h₀ h : Heap} {L a : Addr} {m : Str → Option Value} (F : Fr h₀ L h m) (ha : h.objs.size ≤ a) : a ≠ L ∧ h₀.get? a = none := by
  have h1 := F.ns.lt
  refine ⟨Nat.ne_of_gt (Nat.lt_of_lt_of_le h1 ha), ?_⟩
  cases e : h₀.get? a with
  | none => rfl
  | some o => exact absurd (Heap.lt_size e) (Nat.not_lt.mpr (Nat.le_trans F.above (Nat.le_trans (Nat.le_of_lt h1) ha)))
theorem fr_but {h₀ h h' : Heap} {L I : Addr} {m : Str → Option Value} (F : Fr h₀ L h m) (hk : ∀ b o, b ≠ I → h.get? b = some o → h'.get? b = some o) (hL : I ≠ L) (hI : h₀.get? I = none) : Fr h₀ L h' m :=
  ⟨F.ns.at' fun o e => hk L o hL.symm e, fun b o e => hk b o (fun q => by rw [q, hI] at e; cases e) (F.keep b o e), F.above⟩
theorem news_but {h₀ h h' : Heap} {L I : Addr} {news : List (Addr × Obj)} (N : News h₀ L h news) (hk : ∀ b o, b ≠ I → h.get? b = some o → h'.get? b = some o) (hI : ∀ p ∈ news, p.1 ≠ I) : News h₀ L h' news :=
  fun p hp => ⟨hk _ _ (hI p hp) (N p hp).1, (N p hp).2⟩

section
variable {prog : Program} {w : World} {A : Around} {E : Value → Shared → Prop} {s : Shared} {h₀ : Heap} {L : Addr} {m : Str → Option Value} {env : Env} {news : List (Addr × Obj)}
  {scope : Scope} {cl : List (Str × Addr)} {x : Str} {Q : Value → Shared → Prop}

/-- {kx: vx for x in d}: d a dict of texts; each line makes one line -/
theorem comp_dict_keys {kx vx iter : Expr} {px pos : Pos} {d : Addr} {l : List Ln} {ep : Nat} (f : Ln → Ln) (hh : A.handled = none) (F : Fr h₀ L s.heap m) (N : News h₀ L s.heap news)
    (hd : (d, dObj w l ep) ∈ news) (hn : (l.map (·.1)).Nodup) (lo : (d == sysModules) = false) (hlen : l.length ≤ 1000) (hfn : ((l.map f).map (·.1)).Nodup) (hlim : h₀.NoLimit)
    (hcl : closureFor scope env = pure cl) (hcell : ∀ y ∈ scope.names, y.2 ≠ .cell) (hk : scope.kind = .function) (hloc : ∀ y ∈ scope.names, y.2 = .local → scope.names.lookup y.1 = some .local) (hx : scope.names.lookup x = some .local)
    (hs : ∀ x, foldedSetIterable iter env x = pure x)
    (hit : ∀ Q : Value → Shared → Prop, Q (.ref d) s → wpAny (model prog w) A (eval iter env) Q E s)
    (stepk : ∀ e C m₂ own s₂, e ∈ l → s₂.heap.Ns C m₂ → m₂ x = some (.str e.1 e.2.1) → Fr h₀ L s₂.heap m → News h₀ L s₂.heap (own ++ news) →
      wpAny (model prog w) A (eval kx (compEnvC scope cl C env)) (fun y s₃ => y = .str (f e).1 (f e).2.1 ∧ ∃ h' tk, s₃ = { s₂ with heap := h', toks := tk } ∧ Fr h₀ L h' m ∧ News h₀ L h' (own ++ news)) (fun _ _ => False) s₂)
    (stepv : ∀ e C m₂ own s₂, e ∈ l → s₂.heap.Ns C m₂ → m₂ x = some (.str e.1 e.2.1) → Fr h₀ L s₂.heap m → News h₀ L s₂.heap (own ++ news) →
      wpAny (model prog w) A (eval vx (compEnvC scope cl C env)) (fun y s₃ => y = .str (f e).2.2.1 (f e).2.2.2 ∧ ∃ h' tk, s₃ = { s₂ with heap := h', toks := tk } ∧ Fr h₀ L h' m ∧ News h₀ L h' (own ++ news)) (fun _ _ => False) s₂)
    (fin : ∀ D h' tk, Fr h₀ L h' m → News h₀ L h' ((D, dObj w (l.map f) l.length) :: news) → (∀ q ∈ news, q.1 ≠ D) → (D == sysModules) = false → Q (.ref D) { s with heap := h', toks := tk }) :
    wpAny (model prog w) A (eval (.DictComp kx vx [⟨.Name x px, iter, [], 0⟩] scope pos) env) Q E s := by
  rw [arm_eval_DictComp]
  have hdg := (N _ hd).1
  have hll : (lnKvs l).length = l.length := by simp [lnKvs]
  refine wpAny_comprehension_free (use := none) rfl hs hcl hk hloc (hit _ (wpAny_pyIter_dict (knd := PySem.strKind prog w) lo (dObj_at hdg hn) ?_))
  rw [hll]
  have FI := F.push { cls := .type "dict_keyiterator", data := .fields #[.ref d, .int 0 0, .int l.length 0, .int ep 0] }
  have hI := Heap.get?_push_size s.heap (o := { cls := .type "dict_keyiterator", data := .fields #[.ref d, .int 0 0, .int l.length 0, .int ep 0] }) rfl
  have NI : News h₀ L (s.heap.push { cls := .type "dict_keyiterator", data := .fields #[.ref d, .int 0 0, .int l.length 0, .int ep 0] }) news := fun q hq => ⟨Heap.get?_push_of_some _ (N q hq).1, (N q hq).2⟩
  have zI : (s.heap.push { cls := .type "dict_keyiterator", data := .fields #[.ref d, .int 0 0, .int l.length 0, .int ep 0] }).objs.size = s.heap.objs.size + 1 := Heap.size_push ..
  generalize hHI : s.heap.push { cls := .type "dict_keyiterator", data := .fields #[.ref d, .int 0 0, .int l.length 0, .int ep 0] } = HI at FI hI NI zI ⊢
  refine wpAny_newObj_type (wpAny_newFunctionEnv hcell (by intro y hy; simp at hy) (fun h₁ hns₁ hsb₁ => ?_) hk)
  dsimp only at hns₁ hsb₁ ⊢
  have FD := FI.push { cls := .type "dict", dict := none, data := .dict #[] }
  have hDg := Heap.get?_push_size HI (o := { cls := .type "dict", dict := none, data := .dict #[] }) rfl
  have hI2 := Heap.get?_push_of_some { cls := .type "dict", dict := none, data := .dict #[] } hI
  have ND : News h₀ L (HI.push { cls := .type "dict", dict := none, data := .dict #[] }) news := fun q hq => ⟨Heap.get?_push_of_some _ (NI q hq).1, (NI q hq).2⟩
  have zD : (HI.push { cls := .type "dict", dict := none, data := .dict #[] }).objs.size = s.heap.objs.size + 2 := by rw [Heap.size_push, zI]
  rw [zI] at hDg ⊢
  generalize hHD : HI.push { cls := .type "dict", dict := none, data := .dict #[] } = HD at FD hDg hI2 ND zD hns₁ hsb₁ ⊢
  rw [zD] at hns₁ hsb₁ ⊢
  have keep₁ : ∀ b o, b < s.heap.objs.size + 2 → HD.get? b = some o → h₁.get? b = some o := fun b o hb e => hsb₁.extBut b o (Nat.ne_of_lt hb) (Heap.get?_push_of_some _ e)
  have szL := F.ns.lt
  have szn : ∀ q ∈ news, q.1 < s.heap.objs.size := fun q hq => Heap.lt_size (N q hq).1
  have F₁ : Fr h₀ L h₁ m := fr_but FD (fun b o hb e => keep₁ b o (by have := Heap.lt_size e; rw [zD] at this; exact this) e) (fr_fresh F (a := s.heap.objs.size + 2) (by omega)).1 (fr_fresh F (a := s.heap.objs.size + 2) (by omega)).2
  have N₁ : News h₀ L h₁ news := fun q hq => ⟨keep₁ _ _ (Nat.lt_trans (szn q hq) (by omega)) (ND q hq).1, (ND q hq).2⟩
  have freshI := fr_fresh F (a := s.heap.objs.size) (Nat.le_refl _)
  have freshD := fr_fresh F (a := s.heap.objs.size + 1) (by omega)
  have freshC := fr_fresh F (a := s.heap.objs.size + 2) (by omega)
  have nI : ∀ q ∈ news, q.1 ≠ s.heap.objs.size := fun q hq => Nat.ne_of_lt (szn q hq)
  have nD : ∀ q ∈ news, q.1 ≠ s.heap.objs.size + 1 := fun q hq => Nat.ne_of_lt (Nat.lt_trans (szn q hq) (by omega))
  have nC : ∀ q ∈ news, q.1 ≠ s.heap.objs.size + 2 := fun q hq => Nat.ne_of_lt (Nat.lt_trans (szn q hq) (by omega))
  have loD : (s.heap.objs.size + 1 == sysModules) = false := beq_eq_false_iff_ne.mpr (Nat.ne_of_gt (Nat.lt_of_lt_of_le (modules_low hlim) (Nat.le_trans F.above (Nat.le_of_lt (Nat.lt_trans szL (Nat.lt_succ_self _))))))
  generalize s.heap.objs.size = Z at *
  have e20 : (Z + 2 : Nat) ≠ Z := by omega
  have e02 : (Z : Nat) ≠ Z + 2 := by omega
  have e12 : (Z + 1 : Nat) ≠ Z + 2 := by omega
  have e21 : (Z + 2 : Nat) ≠ Z + 1 := by omega
  have e10 : (Z + 1 : Nat) ≠ Z := by omega
  have e01 : (Z : Nat) ≠ Z + 1 := by omega
  let cenv := compEnvC scope cl (Z + 2) env
  have hkx : cenv.kindOf x = some .local := lookup_relabel_local hx
  have hpk : (cenv.scope.kind == .class || (cenv.scope.kind == .module && cenv.locals != cenv.globals)) = false := by simp [cenv, compEnvC, relabel, hk]
  have loop : ∀ s₃ : Shared, s₃ = { s with heap := h₁, toks := s.toks + ([] : List (Str × Value)).length } →
      codeAny (model prog w) A (.compLoop (.DictComp kx vx [⟨.Name x px, iter, [], 0⟩] scope pos) 0 (.ref Z) (.ref (Z + 1)) cenv) (compPost (model prog w) A E none Q (.ref (Z + 1)) (Z + 2)) s₃ := by
    rintro s₃ rfl
    refine codeAny_compLoop_testsD (fun k s' => ∃ i h' tk m', s' = { s with heap := h', toks := tk } ∧ i ≤ l.length ∧ k = l.length + 1 - i ∧ IsKI h' Z d i l.length ep ∧ h'.Ns (Z + 2) m' ∧
      h'.get? (Z + 1) = some (dObj w ((l.take i).map f) i) ∧ Fr h₀ L h' m ∧ News h₀ L h' news) ?_ (l.length + 1)
      ⟨0, h₁, _, _, rfl, Nat.zero_le _, rfl, keep₁ _ _ (by omega) hI2, hns₁, by simpa [dObj] using keep₁ _ _ (by omega) hDg, F₁, N₁⟩
    rintro k s' ⟨i, h', tk, m', rfl, hi, rfl, hit', hns', hD', F', N'⟩
    have hdg' := (N' _ hd).1
    by_cases hlt : i < l.length
    · have hle : l[i]? = some l[i] := by simp [hlt]
      have hmem : l[i] ∈ l := List.getElem_mem hlt
      refine next_key (e := lnE w l[i]) hit' hdg' rfl (by simp) (by simp [hlt]) fun h₂ hit₂ hs₂ => ?_
      have k₂ : ∀ b o, b ≠ Z → h'.get? b = some o → h₂.get? b = some o := fun b o hb e => hs₂.extBut b o hb e
      have hns₂ := hns'.sameBut hs₂ e20
      refine wpAny_assign_Name (wpAny_storeName_local hkx hns₂ (fun h₃ hns₃ hs₃ => ?_) hpk)
      have k₃ : ∀ b o, b ≠ Z + 2 → h₂.get? b = some o → h₃.get? b = some o := fun b o hb e => hs₃.extBut b o hb e
      have F₃ : Fr h₀ L h₃ m := fr_but (fr_but F' k₂ freshI.1 freshI.2) k₃ freshC.1 freshC.2
      have N₃ : News h₀ L h₃ news := news_but (news_but N' k₂ nI) k₃ nC
      have hit₃ : IsKI h₃ Z d (i + 1) l.length ep := k₃ _ _ e02 hit₂
      have hD₃ := k₃ _ _ e12 (k₂ _ _ e10 hD')
      obtain ⟨oC, esC, epC, hC, r⟩ := id hns₃
      have own : News h₀ L h₃ ([(Z, { cls := .type "dict_keyiterator", dict := none, data := .fields #[.ref d, .int (i + 1 : Nat) 0, .int l.length 0, .int ep 0], slots := #[] }), (Z + 1, dObj w ((l.take i).map f) i), (Z + 2, oC)] ++ news) := by
        intro q hq
        simp only [List.cons_append, List.nil_append, List.mem_cons] at hq
        rcases hq with rfl | rfl | rfl | hq
        · exact ⟨hit₃, freshI.1, freshI.2⟩
        · exact ⟨hD₃, freshD.1, freshD.2⟩
        · exact ⟨hC, freshC.1, freshC.2⟩
        · exact N₃ q hq
      refine wpAny_pure ?_
      simp only [if_true]
      refine wpAny_mono (stepk l[i] (Z + 2) _ _ { s with heap := h₃, toks := tk + 1 } hmem hns₃ (by simp [lnE]) F₃ own) ?_ (fun _ _ q => q.elim)
      rintro y s₄ ⟨rfl, h₄, tk₄, rfl, F₄, N₄⟩
      have hC₄ := (N₄ (Z + 2, oC) (.tail _ (.tail _ (.head _)))).1
      refine wpAny_mono (stepv l[i] (Z + 2) _ _ { s with heap := h₄, toks := tk₄ } hmem ⟨oC, esC, epC, hC₄, r⟩ (by simp [lnE]) F₄ N₄) ?_ (fun _ _ q => q.elim)
      rintro y s₅ ⟨rfl, h₅, tk₅, rfl, F₅, N₅⟩
      have hC₅ := (N₅ (Z + 2, oC) (.tail _ (.tail _ (.head _)))).1
      have hI₅ := (N₅ (Z, _) (.head _)).1
      have hD₅ := (N₅ (Z + 1, _) (.tail _ (.head _))).1
      have htk : (l.take (i + 1)).map f = (l.take i).map f ++ [f l[i]] := by rw [List.take_add_one, hle, List.map_append]; rfl
      refine dictSet_new (k := (f l[i]).1) (t := (f l[i]).2.1) (v := (f l[i]).2.2.1) (u := (f l[i]).2.2.2) hD₅ ?_ (by rw [sizeLine_eq, List.length_map, List.length_take]; omega) fun h₆ hD₆ hs₆ => ?_
      · have hsub : (((l.take (i + 1)).map f).map (·.1)).Nodup := by
          rw [List.map_take, List.map_take]
          exact hfn.sublist (List.take_sublist ..)
        rw [htk, List.map_append, List.nodup_append] at hsub
        intro hin
        exact hsub.2.2 _ hin _ (by simp) rfl
      · have k₆ : ∀ b o, b ≠ Z + 1 → h₅.get? b = some o → h₆.get? b = some o := fun b o hb e => hs₆.extBut b o hb e
        have N₅' : News h₀ L h₅ news := fun q hq => N₅ q (by simp [hq])
        exact ⟨_, by omega, i + 1, h₆, _, _, rfl, hlt, rfl, k₆ _ _ e01 hI₅, ⟨oC, esC, epC, k₆ _ _ e21 hC₅, r⟩, by rw [htk]; exact hD₆, fr_but F₅ k₆ freshD.1 freshD.2, news_but N₅' k₆ nD⟩
    · have hin : i = l.length := by omega
      subst hin
      have hit'' : h'.IsKeyIter Z d l.length (lnKvs l).length ep := by rw [hll]; exact hit'.key
      refine wpAny_pyNext_dict_end (knd := PySem.strKind prog w) (kvs := lnKvs l) hh hit'' (dObj_at hdg' hn) (by simp [lnKvs]) fun h₂ hs₂ => ?_
      refine ⟨m', hns'.extBut hs₂ e20, fun h₃ hs₃ => ?_⟩
      have k₂ : ∀ b o, b ≠ Z → h'.get? b = some o → h₂.get? b = some o := fun b o hb e => hs₂ b o hb e
      have k₃ : ∀ b o, b ≠ Z + 2 → h₂.get? b = some o → h₃.get? b = some o := fun b o hb e => hs₃.extBut b o hb e
      refine fin (Z + 1) h₃ tk (fr_but (fr_but F' k₂ freshI.1 freshI.2) k₃ freshC.1 freshC.2) ?_ nD loD
      intro q hq
      rcases List.mem_cons.mp hq with rfl | hq
      · rw [List.take_length] at hD'
        exact ⟨k₃ _ _ e12 (k₂ _ _ e10 hD'), freshD⟩
      · exact news_but (news_but N' k₂ nI) k₃ nC q hq
  have hKI : IsKI h₁ Z d 0 l.length ep := keep₁ _ _ (by omega) hI2
  exact codeAny_compStart_dict (loop _ rfl) (wpAny_pyIter_keyiter (IsKI.key hKI) (loop _ rfl))
end
end Mine
end

section
open PySem PySem.W PyProof.Rows PyProof.V PySem.Calls
set_option maxRecDepth 100000
namespace Mine

/-- written lines, their tokens drawn from t on -/
def lnFrom : Nat → List (Str × Str) → List Ln
  | _, [] => []
  | t, (k, v) :: r => (k, t, v, t + 1) :: lnFrom (t + 2) r
theorem lnFrom_length : ∀ (t : Nat) (r : List (Str × Str)), (lnFrom t r).length = r.length
  | _, [] => rfl
  | t, _ :: r => by simp [lnFrom, lnFrom_length (t + 2) r]
theorem lnFrom_ok : ∀ (t : Nat) (r : List (Str × Str)), 1 ≤ t → ∀ e ∈ lnFrom t r, LnOk e
  | _, [], _, e, he => nomatch he
  | t, (k, v) :: r, h, e, he => by
    rcases List.mem_cons.mp he with rfl | he
    · exact ⟨Nat.pos_iff_ne_zero.mp h, Nat.succ_ne_zero _, Nat.ne_of_lt (Nat.lt_succ_self _)⟩
    · exact lnFrom_ok (t + 2) r (by omega) e he
theorem lnFrom_reps : ∀ (t : Nat) (r : List (Str × Str)), lnReps (lnFrom t r) = r
  | _, [] => rfl
  | t, (k, v) :: r => by
    have := lnFrom_reps (t + 2) r
    simp only [lnReps] at this
    simp [lnFrom, lnReps, this]
theorem lnFrom_keys (t : Nat) (r : List (Str × Str)) : (lnFrom t r).map (·.1) = r.map (·.1) := by
  have := congrArg (List.map (·.1)) (lnFrom_reps t r)
  simpa [lnReps, Function.comp_def] using this
def lnVals (l : List Ln) : List (Value × Value) := l.map fun e => (.str e.1 e.2.1, .str e.2.2.1 e.2.2.2)

inductive DPairs : List (Option Expr) → List Expr → List (Str × Str) → Prop
  | nil : DPairs [] [] []
  | cons {k v : Str} {n1 n2 : Nat} {p1 p2 : Pos} {ks : List (Option Expr)} {vs : List Expr} {r : List (Str × Str)} : DPairs ks vs r → DPairs (some (.Constant (.str k) n1 p1) :: ks) (.Constant (.str v) n2 p2 :: vs) ((k, v) :: r)
theorem DPairs.some {ks : List (Option Expr)} {vs : List Expr} {r : List (Str × Str)} (h : DPairs ks vs r) : ks.all (·.isSome) = true := by induction h with | nil => rfl | cons _ ih => simpa using ih
theorem DPairs.len {ks : List (Option Expr)} {vs : List Expr} {r : List (Str × Str)} (h : DPairs ks vs r) : ks.length = vs.length ∧ ks.length = r.length := by induction h with | nil => exact ⟨rfl, rfl⟩ | cons _ ih => simp [ih.1, ← ih.2]

section
variable {prog : Program} {w : World} {A : Around} {E : Value → Shared → Prop} {env : Env}

theorem pairs_consts {ks : List (Option Expr)} {vs : List Expr} {r : List (Str × Str)} (h : DPairs ks vs r) {pos : Pos} : ∀ {s : Shared} {Q : List (Value × Value) → Shared → Prop}, Q (lnVals (lnFrom s.toks r)) { s with toks := s.toks + 2 * r.length } →
    wpAny (model prog w) A (evalPairs (pairTrees ks vs env pos)) Q E s := by
  induction h with
  | nil => intro s Q hQ; exact pairTrees_nil_walk (by simpa [lnVals, lnFrom] using hQ)
  | cons _ ih =>
    intro s Q hQ
    refine pairTrees_cons_walk (Constant_str (Constant_str (ih ?_)))
    simp only [lnVals, lnFrom, List.map_cons, List.length_cons] at hQ ⊢
    have e : s.toks + 1 + 1 = s.toks + 2 := rfl
    have e2 : ∀ n : Nat, s.toks + 2 + 2 * n = s.toks + 2 * (n + 1) := fun n => by omega
    rw [e, e2]; exact hQ

theorem store_lines {d : Addr} : ∀ (l acc : List Ln) (s : Shared) (ep : Nat) (Q : PUnit → Shared → Prop), s.heap.get? d = some (dObj w acc ep) → ((acc ++ l).map (·.1)).Nodup → acc.length + l.length ≤ 1000 →
    (∀ h', h'.get? d = some (dObj w (acc ++ l) (ep + l.length)) → Heap.SameBut d s.heap h' → Q PUnit.unit { s with heap := h', toks := s.toks + l.length }) →
    wpAny (model prog w) A (forIn (lnVals l) PUnit.unit fun (x : Value × Value) (_ : PUnit) => (do dictSet d x.1 x.2; pure (ForInStep.yield PUnit.unit) : Sem (ForInStep PUnit))) Q E s
  | [], acc, s, ep, Q, hd, _, _, hQ => by
    show wpAny _ _ (forIn [] _ _) _ _ _
    rw [List.forIn_nil]
    exact wpAny_pure (by simpa using hQ s.heap (by simpa using hd) (Heap.SameBut.refl _ _))
  | e :: r, acc, s, ep, Q, hd, hn, hl, hQ => by
    show wpAny _ _ (forIn ((Value.str e.1 e.2.1, Value.str e.2.2.1 e.2.2.2) :: lnVals r) _ _) _ _ _
    rw [List.forIn_cons]
    have hn' : e.1 ∉ acc.map (·.1) := by
      rw [List.map_append, List.nodup_append] at hn
      intro hin
      exact hn.2.2 _ hin e.1 (by simp) rfl
    refine wpAny_bind (wpAny_bind (dictSet_new hd hn' (by rw [sizeLine_eq]; simp at hl; omega) fun h₁ hd₁ hs₁ => wpAny_pure ?_))
    refine store_lines r (acc ++ [e]) _ (ep + 1) Q hd₁ (by simpa using hn) (by simp at hl ⊢; omega) fun h' hd' hs' => ?_
    have := hQ h' (by simpa [Nat.add_assoc, Nat.add_comm 1] using hd') (hs₁.trans hs')
    simpa [Nat.add_assoc, Nat.add_comm 1] using this

/-- a display of written texts -/
theorem ev_dict {ks : List (Option Expr)} {vs : List Expr} {r : List (Str × Str)} {pos : Pos} {s : Shared} {Q : Value → Shared → Prop} {h₀ : Heap} {L : Addr} {m : Str → Option Value} {news : List (Addr × Obj)}
    (F : Fr h₀ L s.heap m) (N : News h₀ L s.heap news) (hlim : h₀.NoLimit) (h : DPairs ks vs r) (h0 : r ≠ []) (hlen : r.length ≤ 15) (hn : (r.map (·.1)).Nodup)
    (hQ : ∀ h' tk, Fr h₀ L h' m → News h₀ L h' ((s.heap.objs.size, dObj w (lnFrom s.toks r) r.length) :: news) → (∀ q ∈ news, q.1 < s.heap.objs.size) → (s.heap.objs.size == sysModules) = false → s.toks ≤ tk → Q (.ref s.heap.objs.size) { s with heap := h', toks := tk }) :
    wpAny (model prog w) A (eval (.Dict ks vs pos) env) Q E s := by
  have hl := h.len
  have hpl := pairTrees_length ks vs env pos h.some hl.1
  rw [arm_eval_Dict, zip_pairTrees ks vs env pos h.some hl.1, dictDisplay_pairs _ (by intro e; rw [e] at hpl; exact h0 (List.length_eq_zero_iff.mp (by rw [← hl.2, ← hpl]; rfl))) (by rw [hpl, hl.2]; omega)]
  refine wpAny_bind (wpAny_standAt (wpAny_bind ?_))
  unfold subDict
  refine wpAny_bind (wpAny_alloc (wpAny_bind (wpAny_holding ?_)))
  rw [if_pos (by rw [hpl, hl.2]; exact hlen)]
  refine wpAny_bind (pairs_consts h (wpAny_holding (wpAny_bind ?_)))
  have hd := Heap.get?_push_size s.heap (o := { cls := .type "dict", data := .dict #[] }) rfl
  refine store_lines (lnFrom s.toks r) [] _ 0 _ hd (by rw [List.nil_append, lnFrom_keys]; exact hn) (by simp [lnFrom_length]; omega) fun h' hd' hs' => ?_
  refine wpAny_pure (wpAny_pure (wpAny_pure ?_))
  rw [List.nil_append, Nat.zero_add, lnFrom_length] at hd'
  rw [lnFrom_length]
  have szn : ∀ q ∈ news, q.1 < s.heap.objs.size := fun q hq => Heap.lt_size (N q hq).1
  have hfr := fr_fresh F (a := s.heap.objs.size) (Nat.le_refl _)
  have kp : ∀ b o, b ≠ s.heap.objs.size → (s.heap.push { cls := .type "dict", data := .dict #[] }).get? b = some o → h'.get? b = some o := fun b o hb e => hs'.extBut b o hb e
  refine hQ h' _ (fr_but (F.push _) kp hfr.1 hfr.2) ?_ szn ((F.notModules (modules_low hlim))) (by show s.toks ≤ s.toks + 2 * r.length + r.length; omega)
  intro q hq
  rcases List.mem_cons.mp hq with rfl | hq
  · exact ⟨hd', hfr⟩
  · exact ⟨kp _ _ (Nat.ne_of_lt (szn q hq)) (Heap.get?_push_of_some _ (N q hq).1), (N q hq).2⟩
end
end Mine
end

section
open PySem PySem.W PyProof.Rows PyProof.V PySem.Calls
set_option maxRecDepth 100000
namespace Mine

theorem upd_ne {m : Str → Option Value} {x y : Str} {v : Value} (h : y ≠ x) : upd m x v y = m y := by simp [upd, h]

def strVals : Nat → List Str → List Value
  | _, [] => []
  | t, x :: r => .str x t :: strVals (t + 1) r
theorem strVals_length : ∀ (t : Nat) (r : List Str), (strVals t r).length = r.length
  | _, [] => rfl
  | t, _ :: r => by simp [strVals, strVals_length (t + 1) r]
theorem strVals_at : ∀ (r : List Str) (t i : Nat) (x : Str), r[i]? = some x → (strVals t r)[i]? = some (.str x (t + i))
  | _ :: r, t, 0, x, h => by simp at h; subst h; rfl
  | _ :: r, t, i + 1, x, h => by
    have := strVals_at r (t + 1) i x (by simpa using h)
    simp only [strVals, List.getElem?_cons_succ]
    rw [this, show (t + 1 + i : Nat) = t + (i + 1) by omega]
inductive SConsts : List Expr → List Str → Prop
  | nil : SConsts [] []
  | cons {x : Str} {n : Nat} {p : Pos} {es : List Expr} {xs : List Str} : SConsts es xs → SConsts (.Constant (.str x) n p :: es) (x :: xs)

section
variable {prog : Program} {w : World} {M : Model} {A : Around} {E : Value → Shared → Prop} {env : Env} {h₀ : Heap} {L : Addr} {m : Str → Option Value} {news : List (Addr × Obj)}

theorem spliced_consts {es : List Expr} {xs : List Str} (h : SConsts es xs) {pos : Pos} : ∀ {s : Shared} {Q : List Value → Shared → Prop}, Q (strVals s.toks xs) { s with toks := s.toks + xs.length } → wpAny M A (spliced (backTo pos (starEach es env))) Q E s := by
  induction h with
  | nil => intro s Q hQ; exact spliced_none (by simpa [strVals] using hQ)
  | cons _ ih =>
    intro s Q hQ
    refine spliced_more (Constant_str (ih ?_)) rfl
    simp only [strVals, List.length_cons] at hQ ⊢
    have e : ∀ n : Nat, s.toks + 1 + n = s.toks + (n + 1) := fun n => by omega
    rw [e]; exact hQ

/-- ['a', 'b', ..] -/
theorem ev_strs {es : List Expr} {xs : List Str} {pos : Pos} {s : Shared} {Q : Value → Shared → Prop} (F : Fr h₀ L s.heap m) (N : News h₀ L s.heap news) (h : SConsts es xs) (hl : xs.length ≤ 1000)
    (hQ : ∀ h' tk, Fr h₀ L h' m → News h₀ L h' ((s.heap.objs.size, ({ cls := .type "list", data := .seq (strVals s.toks xs).toArray } : Obj)) :: news) → s.toks ≤ tk → Q (.ref s.heap.objs.size) { s with heap := h', toks := tk }) :
    wpAny M A (eval (.List es pos) env) Q E s := by
  refine List_ (spliced_consts h ?_)
  refine newList_N (s := { s with toks := s.toks + xs.length }) F N (fun h' F' N' => hQ h' _ F' N' (Nat.le_add_right _ _)) ?_
  rw [strVals_length, sizeLine_eq]; omega

/-- an item of a list -/
theorem tail_list {l : Addr} {vs : List Value} {k : Int} {t : Tok} {v : Value} {value slice : Expr} {s : Shared} {Q : Value → Shared → Prop} (hl : s.heap.IsList l vs.toArray) (h0 : 0 ≤ k) (hk : k < 2 ^ 63) (hx : vs[k.toNat]? = some v)
    (hs : subscripted slice false (.ref l) (.int k t) = operate [.ref l, .int k t] (getItem (.ref l) (.int k t))) (h : Q v s) :
    wpAny (model prog w) A (subscriptTail value slice (.ref l) (.int k t)) Q E s :=
  tail_any hl.typeIs slot_list_getitem.lookup (wpAny_getItem_list hl h0 hk (by simpa using hx) h) hs
end
end Mine
end

section
open PySem PySem.W PyProof.Rows PyProof.V PySem.Calls
set_option maxRecDepth 100000
namespace Mine
section
variable {prog : Program} {w : World} {M : Model} {A : Around} {E : Value → Shared → Prop} {s : Shared} {h₀ : Heap} {L a : Addr} {m : Str → Option Value}
  {cn : Str} {cs : Scope} {ccd : Value} {cl : List (Str × Addr)} {news : List (Addr × Obj)} {Q : Flow → Shared → Prop} {env : Env} {rest : List Stmt}

/-- x = value, and what follows -/
theorem seq_let {x : Str} {px pos : Pos} {value : Expr} (hs : swapsWith value (some (.Name x px)) pos.line (envX cn cs L a ccd cl) = pure false)
    (hk : cs.kind = .function) (hx : (envX cn cs L a ccd cl).kindOf x = some .local)
    (h : wpAny M A (eval value (envX cn cs L a ccd cl)) (fun v s₁ => ∃ m news, Fr h₀ L s₁.heap m ∧ News h₀ L s₁.heap news ∧ ∀ h', Fr h₀ L h' (upd m x v) → News h₀ L h' news →
      wpAny M A (execs rest (envX cn cs L a ccd cl)) Q E { s₁ with heap := h', toks := s₁.toks + 1 }) E s) :
    wpAny M A (execs (.Assign [.Name x px] value pos :: rest) (envX cn cs L a ccd cl)) Q E s := by
  refine wpAny_execs_cons ?_
  refine wpAny_Assign_Name (wpAny_mono h ?_ fun _ _ x => x) hs
  rintro v s₁ ⟨m, news, F, N, k⟩
  exact storeX_L F N (fun h' F' N' => k h' F' N') hk hx

theorem seq_ret {e : Expr} {pos : Pos} (h : wpAny M A (eval e env) (fun v s₁ => Q (.ret v) s₁) E s) : wpAny M A (execs (.Return (some e) pos :: rest) env) Q E s :=
  wpAny_execs_cons (wpAny_Return_some h)
theorem seq_if {test : Expr} {body orelse : List Stmt} {pos : Pos} (h : wpAny M A (PySem.isTrue test env (eval test env)) (fun b s₂ => if b = true then
      wpAny M A (execs body env) (fun f s' => match f with | .next => wpAny M A (execs rest env) Q E s' | f => Q f s') E s₂
      else wpAny M A (execs orelse env) (fun f s' => match f with | .next => wpAny M A (execs rest env) Q E s' | f => Q f s') E s₂) E s) :
    wpAny M A (execs (.If test body orelse pos :: rest) env) Q E s :=
  wpAny_execs_cons (wpAny_If h)

/-- x += value: texts -/
theorem seq_aug_str {x X : Str} {t : Tok} {px pos : Pos} {value : Expr} (F : Fr h₀ L s.heap m) (hm : m x = some (.str X t))
    (hk : cs.kind = .function) (hx : (envX cn cs L a ccd cl).kindOf x = some .local)
    (h : wpAny (model prog w) A (eval value (envX cn cs L a ccd cl)) (fun v s₁ => ∃ Y u m news, v = .str Y u ∧ X.length + Y.length ≤ sizeLine ∧ Fr h₀ L s₁.heap m ∧ News h₀ L s₁.heap news ∧ ∀ h' t' tk, Fr h₀ L h' (upd m x (.str (X ++ Y) t')) → News h₀ L h' news →
      wpAny (model prog w) A (execs rest (envX cn cs L a ccd cl)) Q E { s₁ with heap := h', toks := tk }) E s) :
    wpAny (model prog w) A (execs (.AugAssign (.Name x px) .Add value pos :: rest) (envX cn cs L a ccd cl)) Q E s := by
  refine wpAny_execs_cons ?_
  refine wpAny_AugAssign_Name (wpAny_loadName_local hk hx F.ns hm (wpAny_mono h ?_ fun _ _ x => x))
  rintro v s₁ ⟨Y, u, m, news, rfl, hsz, F₁, N₁, k⟩
  refine iadd_str (fun t' tk => ?_) hsz
  exact storeX_L (s := { s₁ with toks := tk }) F₁ N₁ (fun h' F' N' => k h' t' (tk + 1) F' N') hk hx

/-- a frame's name -/
theorem nm_L {x : Str} {pos : Pos} {v : Value} {Q : Value → Shared → Prop} (F : Fr h₀ L s.heap m) (hv : m x = some v) (hk : cs.kind = .function) (hx : (envX cn cs L a ccd cl).kindOf x = some .local) (hd : (x == ("__debug__" : Str)) = false) (h : Q v s) :
    wpAny M A (eval (.Name x pos) (envX cn cs L a ccd cl)) Q E s := nameX_L F hv h hk hx hd

/-- for x in xl: a list that stands; no turn leaves the loop early -/
theorem for_list_name {x xl : Str} {px pl pos : Pos} {body : List Stmt} {l : Addr} {vs : List Value} (J : Nat → (Str → Option Value) → List (Addr × Obj) → Prop)
    (hh : A.handled = none) (F : Fr h₀ L s.heap m) (N : News h₀ L s.heap news) (hm : m xl = some (.ref l)) (hl : ListAt h₀ news l vs) (h0 : J 0 m news)
    (hk : cs.kind = .function) (hx : (envX cn cs L a ccd cl).kindOf x = some .local) (hxl : (envX cn cs L a ccd cl).kindOf xl = some .local) (hd : (xl == ("__debug__" : Str)) = false)
    (hs : ∀ v, foldedSetIterable (.Name xl pl) (envX cn cs L a ccd cl) v = pure v)
    (step : ∀ i v m₁ news₁ s₁ own I, vs[i]? = some v → J i m₁ news₁ → (∀ p ∈ news₁, p.1 ≠ I) → (∀ p ∈ own, p.1 = I ∨ p.1 = l) → Fr h₀ L s₁.heap (upd m₁ x v) → News h₀ L s₁.heap (own ++ news₁) → 1 ≤ s₁.toks →
      wpAny (model prog w) A (execs body (envX cn cs L a ccd cl)) (fun fl s₂ => fl = .next ∧ ∃ h' tk m' news', s₂ = { s₁ with heap := h', toks := tk } ∧ Fr h₀ L h' m' ∧ News h₀ L h' (own ++ news') ∧ (∀ p ∈ news', p.1 ≠ I) ∧ J (i + 1) m' news') (fun _ _ => False) s₁)
    (done : ∀ h' tk m' news', Fr h₀ L h' m' → News h₀ L h' news' → J vs.length m' news' → s.toks ≤ tk → wpAny (model prog w) A (execs rest (envX cn cs L a ccd cl)) Q (fun _ _ => False) { s with heap := h', toks := tk }) :
    wpAny (model prog w) A (execs (.For (.Name x px) (.Name xl pl) body [] pos :: rest) (envX cn cs L a ccd cl)) Q (fun _ _ => False) s := by
  refine wpAny_execs_cons (toksQ ?_)
  refine For_turns (h₀ := h₀) (m := m) F ?_ hs PassesOwn.never
  refine nameX_L F hm ?_ hk hxl hd
  refine iter_list J hh F N hl h0 ?_ done
  intro i v m₁ news₁ h₁ tk₁ own I hv hJ hoff hown F₁ N₁
  refine assign_Name (storeX_L (s := { s with heap := h₁, toks := tk₁ }) F₁ N₁ (fun h₂ F₂ N₂ => ?_) hk hx)
  refine wpAny_mono (step i v m₁ news₁ { s with heap := h₂, toks := tk₁ + 1 } own I hv hJ hoff hown F₂ N₂ (by show 1 ≤ tk₁ + 1; omega)) ?_ (fun _ _ x => x)
  rintro fl s₂ ⟨rfl, h₃, tk₃, m₃, news₃, rfl, F₃, N₃, hoff₃, hJ₃⟩
  exact .next ⟨rfl, h₃, tk₃, m₃, news₃, rfl, F₃, N₃, fun p hp hI => hoff₃ p hp (List.mem_singleton.mp hI), hJ₃⟩

/-- a frame's name, the sides closed where it stands -/
theorem nm {x : Str} {pos : Pos} {v : Value} {Q : Value → Shared → Prop} (F : Fr h₀ L s.heap m) (hv : m x = some v) (h : Q v s)
    (hk : cs.kind = .function := by rfl) (hx : (envX cn cs L a ccd cl).kindOf x = some .local := by kernel_rfl) (hd : (x == ("__debug__" : Str)) = false := by decide +kernel) :
    wpAny M A (eval (.Name x pos) (envX cn cs L a ccd cl)) Q E s := nameX_L F hv h hk hx hd
theorem lt {x : Str} {px pos : Pos} {value : Expr} (h₀ : Heap)
    (h : wpAny M A (eval value (envX cn cs L a ccd cl)) (fun v s₁ => ∃ m news, Fr h₀ L s₁.heap m ∧ News h₀ L s₁.heap news ∧ ∀ h', Fr h₀ L h' (upd m x v) → News h₀ L h' news →
      wpAny M A (execs rest (envX cn cs L a ccd cl)) Q E { s₁ with heap := h', toks := s₁.toks + 1 }) E s)
    (hs : swapsWith value (some (.Name x px)) pos.line (envX cn cs L a ccd cl) = pure false := by rfl)
    (hk : cs.kind = .function := by rfl) (hx : (envX cn cs L a ccd cl).kindOf x = some .local := by kernel_rfl) :
    wpAny M A (execs (.Assign [.Name x px] value pos :: rest) (envX cn cs L a ccd cl)) Q E s := seq_let hs hk hx h
theorem ev_fdiv {l : Expr} {c : Int} {n : Nat} {p pos : Pos} {Q : Value → Shared → Prop} (h : wpAny (model prog w) A (eval l env) (fun v s₁ => ∃ i t, v = .int i t ∧ ∀ t', Q (.int (i.fdiv c) t') { s₁ with toks := s₁.toks + 1 + 1 }) E s)
    (hc : c ≠ 0 := by decide) (hp : c.natAbs.log2 < 9000 := by decide +kernel) : wpAny (model prog w) A (eval (.BinOp l .FloorDiv (.Constant (.int c) n p) pos) env) Q E s := by
  refine wpAny_BinOp (wpAny_mono h ?_ fun _ _ x => x)
  rintro v s₁ ⟨i, t, rfl, k⟩
  exact wpAny_Constant_int (floordiv_int hc (k _) (.inl (PyProof.noPylong_of_log2 hp)))
theorem ev_fmod {l : Expr} {c : Int} {n : Nat} {p pos : Pos} {Q : Value → Shared → Prop} (h : wpAny (model prog w) A (eval l env) (fun v s₁ => ∃ i t, v = .int i t ∧ ∀ t', Q (.int (i.fmod c) t') { s₁ with toks := s₁.toks + 1 + 1 }) E s)
    (hc : c ≠ 0 := by decide) : wpAny (model prog w) A (eval (.BinOp l .Mod (.Constant (.int c) n p) pos) env) Q E s := by
  refine wpAny_BinOp (wpAny_mono h ?_ fun _ _ x => x)
  rintro v s₁ ⟨i, t, rfl, k⟩
  exact wpAny_Constant_int (mod_int hc (k _))

/-- a built-in of one argument, called by its name -/
theorem call_b1 {K : Frag} {p : Program} {loose : List Str} {mean : ExcName → Option Value} {mg mb : Str → Option Value} {A₀ : Around} {base : Heap} {outer : List Env} {env' : Env} {x : Str} {px pos : Pos} {id : String} {e : Expr} {Q : Value → Shared → Prop}
    (S : Site K p loose mean mg mb A env' A₀ base outer h₀ L) (F : Fr h₀ L s.heap m) (he : nsIn K mainGlobals x = some none) (hv : bootBuiltins x = some (.builtin id))
    (h : wpAny (model prog w) A (eval e (envX cn cs L a ccd cl)) (fun v s₁ => wpAny (model prog w) A (call (.builtin id) [v]) Q E s₁) E s)
    (hn : x ≠ "__name__" := by decide +kernel) (hk : cs.kind = .function := by rfl) (hx : (envX cn cs L a ccd cl).kindOf x = some .globalImplicit := by kernel_rfl) (hd : (x == ("__debug__" : Str)) = false := by decide +kernel)
    (he1 : starEach [e] (envX cn cs L a ccd cl) = [(false, eval e (envX cn cs L a ccd cl))] := by rfl) :
    wpAny (model prog w) A (eval (.Call (.Name x px) [e] [] pos) (envX cn cs L a ccd cl)) Q E s := by
  refine Call_ (nameX_B F S.X (topRead_of S.T) he hv hn ?_ hk hx hd)
  exact PyProof.Rows.callWith_builtin1 (spliced_more (wpAny_mono h (fun v s₁ h₁ => spliced_none h₁) fun _ _ x => x) he1) he1 rfl
end
end Mine
end

section
open PySem PySem.W PyProof.Rows PyProof.V PySem.Calls
set_option maxRecDepth 100000
namespace Mine

/-- a law's end -/
def LawEnd (g : Heap) (L : Addr) (s : Shared) (fl : Flow) (s' : Shared) : Prop := ∃ h' tk m', fl = .ret (.bool true) ∧ s' = { s with heap := h', toks := tk } ∧ Fr g L h' m'
/-- what a law's walk has to show of its end -/
theorem law_out {M : Model} {A : Around} {t : Sem Flow} {Q : Flow → Shared → Prop} {E : Value → Shared → Prop} {s : Shared} {h₀ : Heap} {L : Addr} {m : Str → Option Value} (_F : Fr h₀ L s.heap m)
    (h : wpAny M A t (LawEnd h₀ L s) (fun _ _ => False) s)
    (k : ∀ h' tk m', Fr h₀ L h' m' → Q (.ret (.bool true)) { s with heap := h', toks := tk }) : wpAny M A t Q E s := by
  refine wpAny_mono h ?_ (fun _ _ x => x.elim)
  rintro fl s' ⟨h', tk, m', rfl, rfl, F⟩
  exact k h' tk m' F

/-- texts of which each is told -/
theorem strs_told {f : Str → Str} : ∀ {ys : List Value} {ps : List Str}, ys.length = ps.length → (∀ (i : Nat) (y : Value) (p : Str), ys[i]? = some y → ps[i]? = some p → ∃ t, y = Value.str (f p) t) →
    ∃ l : List (Str × Tok), ys = strValues l ∧ l.map (·.1) = ps.map f
  | [], [], _, _ => ⟨[], rfl, rfl⟩
  | y :: ys, p :: ps, hl, h => by
    obtain ⟨t, rfl⟩ := h 0 y p rfl rfl
    obtain ⟨l, rfl, e⟩ := strs_told (f := f) (ys := ys) (ps := ps) (by simpa using hl) fun i y p hy hp => h (i + 1) y p (by simpa using hy) (by simpa using hp)
    exact ⟨(f p, t) :: l, rfl, by simp [e]⟩

section
variable {prog : Program} {w : World} {M : Model} {A : Around} {E : Value → Shared → Prop} {s : Shared} {h₀ : Heap} {L a : Addr} {m : Str → Option Value}
  {cn : Str} {cs : Scope} {ccd : Value} {cl : List (Str × Addr)} {news : List (Addr × Obj)}

theorem ev_dict0 {ks : List (Option Expr)} {vs : List Expr} {r : List (Str × Str)} {pos : Pos} {env : Env} {Q : Value → Shared → Prop}
    (F : Fr h₀ L s.heap m) (N : News h₀ L s.heap news) (hlim : h₀.NoLimit) (h : DPairs ks vs r) (hlen : r.length ≤ 15) (hn : (r.map (·.1)).Nodup)
    (hQ : ∀ h' tk, Fr h₀ L h' m → News h₀ L h' ((s.heap.objs.size, dObj w (lnFrom s.toks r) r.length) :: news) → (∀ q ∈ news, q.1 < s.heap.objs.size) → (s.heap.objs.size == sysModules) = false → s.toks ≤ tk → Q (.ref s.heap.objs.size) { s with heap := h', toks := tk }) :
    wpAny (model prog w) A (eval (.Dict ks vs pos) env) Q E s := by
  by_cases h0 : r = []
  · subst h0
    cases h
    refine wpAny_Dict_empty (hQ _ _ (F.push _) (N.push F _) (fun q hq => Heap.lt_size (N q hq).1) (F.notModules (modules_low hlim)) (Nat.le_refl _))
  · exact ev_dict F N hlim h h0 hlen hn hQ

def tupO (vs : List Value) : Obj := { cls := .type "tuple", data := .seq vs.toArray }
def lstO (vs : List Value) : Obj := { cls := .type "list", data := .seq vs.toArray }

/-- for TARGET in xl: a list that stands; a turn may come back with True -/
theorem for_list_t {target : Expr} {xl : Str} {pl pos : Pos} {body rest : List Stmt} {l : Addr} {vs : List Value} {Q : Flow → Shared → Prop} (J : Nat → (Str → Option Value) → List (Addr × Obj) → Prop)
    (hh : A.handled = none) (F : Fr h₀ L s.heap m) (N : News h₀ L s.heap news) (hm : m xl = some (.ref l)) (hl : ListAt h₀ news l vs) (h0 : J 0 m news)
    (hk : cs.kind = .function) (hxl : (envX cn cs L a ccd cl).kindOf xl = some .local) (hd : (xl == ("__debug__" : Str)) = false)
    (hs : ∀ v, foldedSetIterable (.Name xl pl) (envX cn cs L a ccd cl) v = pure v)
    (step : ∀ i v m₁ news₁ h₁ tk₁ own I, vs[i]? = some v → J i m₁ news₁ → (∀ p ∈ news₁, p.1 ≠ I) → (∀ p ∈ own, p.1 = I ∨ p.1 = l) → Fr h₀ L h₁ m₁ → News h₀ L h₁ (own ++ news₁) →
      wpAny (model prog w) A (assign target (envX cn cs L a ccd cl) v) (fun _ s₂ => wpAny (model prog w) A (execs body (envX cn cs L a ccd cl))
        (fun fl s₃ => fl = .next ∧ ∃ h' tk m' news', s₃ = { s with heap := h', toks := tk } ∧ Fr h₀ L h' m' ∧ News h₀ L h' (own ++ news') ∧ (∀ p ∈ news', p.1 ≠ I) ∧ J (i + 1) m' news') (fun _ _ => False) s₂) (fun _ _ => False) { s with heap := h₁, toks := tk₁ })
    (done : ∀ h' tk m' news', Fr h₀ L h' m' → News h₀ L h' news' → J vs.length m' news' → s.toks ≤ tk → wpAny (model prog w) A (execs rest (envX cn cs L a ccd cl)) Q (fun _ _ => False) { s with heap := h', toks := tk }) :
    wpAny (model prog w) A (execs (.For target (.Name xl pl) body [] pos :: rest) (envX cn cs L a ccd cl)) Q (fun _ _ => False) s := by
  have hm0 : m = m := rfl
  refine wpAny_execs_cons (toksQ ?_)
  refine For_turns (h₀ := h₀) (m := m) F ?_ hs PassesOwn.never
  refine nameX_L F hm ?_ hk hxl hd
  refine iter_list J hh F N hl h0 ?_ done
  intro i v m₁ news₁ h₁ tk₁ own I hv hJ hoff hown F₁ N₁
  refine wpAny_mono (step i v m₁ news₁ h₁ tk₁ own I hv hJ hoff hown F₁ N₁) ?_ (fun _ _ x => x)
  intro _ s₂ h₂
  refine wpAny_mono h₂ ?_ (fun _ _ x => x)
  rintro fl s₃ ⟨rfl, h₃, tk₃, m₃, news₃, rfl, F₃, N₃, hoff₃, hJ₃⟩
  exact .next ⟨rfl, h₃, tk₃, m₃, news₃, rfl, F₃, N₃, fun p hp hI => hoff₃ p hp (List.mem_singleton.mp hI), hJ₃⟩

/-- an item of a dict of texts -/
theorem tail_line {d : Addr} {l : List Ln} {ep : Nat} {e : Ln} {t : Tok} {value slice : Expr} {Q : Value → Shared → Prop} (hd : s.heap.get? d = some (dObj w l ep)) (hn : (l.map (·.1)).Nodup) (he : e ∈ l)
    (hs : subscripted slice false (.ref d) (.str e.1 t) = operate [.ref d, .str e.1 t] (getItem (.ref d) (.str e.1 t)))
    (h : Q (.str e.2.2.1 e.2.2.2) { s with toks := s.toks + 1 }) : wpAny (model prog w) A (subscriptTail value slice (.ref d) (.str e.1 t)) Q E s := by
  have hD := dObj_at (prog := prog) hd hn
  refine tail_any hD.dictOf.mapOf.typeIs slot_dict_getitem.lookup (wpAny_getItem_of (strKind_is prog w e.1 t) hD.dictOf.mapOf ?_ h) hs
  clear hD hd
  unfold valueAt lnKvs
  induction l with
  | nil => nomatch he
  | cons q r ih =>
    rw [List.map_cons, List.nodup_cons] at hn
    rcases List.mem_cons.mp he with rfl | he
    · simp
    · have : ¬ q.1 = e.1 := fun hq => hn.1 (hq ▸ List.mem_map.mpr ⟨e, he, rfl⟩)
      rw [List.map_cons, List.find?_cons_of_neg (by simpa using this)]
      exact ih hn.2 he
end
end Mine
namespace Mine
theorem law_in0 {prog : Program} {w : World} {K : Frag} {p : Program} {loose : List Str} {mean : ExcName → Option Value} {mg mb : Str → Option Value} {env : Env} {cn : Str} {cs : Scope} {L a l : Addr} {ccd : Value} {body : List Stmt} {s : Shared} {g : Heap} {m : Str → Option Value} {vs : List Value}
    (F : Fr g L s.heap m) (N : News g L s.heap []) (hl : g.IsList l vs.toArray) (x : Str) (henv : env = envX cn cs L a ccd []) 
    (hk : cs.kind = .function) (hm : m x = some (.ref l)) (B : Below callerA g [] g) (X : K.In g) (T : Top p loose mean mg mb g)
    (H : ∀ A A₀ outer g L m s, Site K p loose mean mg mb A (envX cn cs L a ccd []) A₀ g outer g L → Room A 40 → Fr g L s.heap m → News g L s.heap [] → m x = some (.ref l) → g.IsList l vs.toArray →
      wpAny (model prog w) A (execs body (envX cn cs L a ccd [])) (LawEnd g L s) (fun _ _ => False) s) :
    wpAny (model prog w) (callerA.deeper env) (execs body env) (LawEnd g L s) (fun _ _ => False) s := by
  subst henv
  refine H _ callerA [] g L m s ⟨B, X, T, ?_, rfl, hk, rfl⟩ ⟨Nat.le_of_ble_eq_true rfl, Nat.le_of_ble_eq_true rfl⟩ F N hm hl
  show callerA.frames.map _ = _
  rfl
theorem law_in1 {prog : Program} {w : World} {K : Frag} {p : Program} {loose : List Str} {mean : ExcName → Option Value} {mg mb : Str → Option Value} {env : Env} {cn : Str} {cs : Scope} {L a l : Addr} {ccd : Value} {body : List Stmt} {s : Shared} {g : Heap} {m : Str → Option Value} {o : Obj} {v₀ : Option Value} {vs : List Value}
    (F : Fr g L s.heap m) (N : News g L s.heap [(L + 1, o)]) (hd : o.data = .cell v₀) (hl : g.IsList l vs.toArray) (x c : Str) (henv : env = envX cn cs L a ccd [(c, L + 1)]) 
    (hk : cs.kind = .function) (hm : m x = some (.ref l)) (B : Below callerA g [] g) (X : K.In g) (T : Top p loose mean mg mb g)
    (H : ∀ A A₀ outer g L m s o v₀, Site K p loose mean mg mb A (envX cn cs L a ccd [(c, L + 1)]) A₀ g outer g L → Room A 40 → Fr g L s.heap m → News g L s.heap [(L + 1, o)] → o.data = .cell v₀ → m x = some (.ref l) → g.IsList l vs.toArray →
      wpAny (model prog w) A (execs body (envX cn cs L a ccd [(c, L + 1)])) (LawEnd g L s) (fun _ _ => False) s) :
    wpAny (model prog w) (callerA.deeper env) (execs body env) (LawEnd g L s) (fun _ _ => False) s := by
  subst henv
  refine H _ callerA [] g L m s o v₀ ⟨B, X, T, ?_, rfl, hk, rfl⟩ ⟨Nat.le_of_ble_eq_true rfl, Nat.le_of_ble_eq_true rfl⟩ F N hd hm hl
  show callerA.frames.map _ = _
  rfl
end Mine
end

section
open PySem PySem.W PyProof.Rows PyProof.V PySem.Calls
set_option maxRecDepth 100000
namespace Mine
section
variable {prog : Program} {w : World} {A : Around} {E : Value → Shared → Prop} {s : Shared}

/-- a new key at a dict's end, its hash known -/
theorem dictPut_new {d : Addr} {l : List Ln} {ep : Nat} {e : Ln} {Q : Unit → Shared → Prop} (hd : s.heap.get? d = some (dObj w l ep)) (hk : e.1 ∉ l.map (·.1)) (hl : l.length < sizeLine)
    (hQ : ∀ h', h'.get? d = some (dObj w (l ++ [e]) (ep + 1)) → Heap.SameBut d s.heap h' → Q () { s with heap := h' }) :
    wpAny (model prog w) A (dictPut d (lnE w e).hash (lnE w e).key (lnE w e).val) Q E s := by
  have hkey := strKind_is prog w e.1 e.2.1
  have hks : KeysOf (PySem.strKind prog w) (l.map (lnE w)).toArray := by
    intro e he
    have he' : e ∈ l.map (lnE w) := by simpa using he
    obtain ⟨x, _, rfl⟩ := List.mem_map.mp he'
    exact ⟨x.1, strKind_is prog w x.1 x.2.1, rfl⟩
  unfold dictPut
  refine wpAny_bind (wpAny_dictFind_of (knd := PySem.strKind prog w) hkey hd rfl hks ?_)
  have hi : ((l.map (lnE w)).toArray.findIdx? fun e' => (PySem.strKind prog w).is e.1 e'.key) = none := by
    rw [Array.findIdx?_eq_none_iff]
    intro e' he
    have he' : e' ∈ l.map (lnE w) := by simpa using he
    obtain ⟨x, hx, rfl⟩ := List.mem_map.mp he'
    show Value.isStrOf e.1 (.str x.1 x.2.1) = false
    cases hq : Value.isStrOf e.1 (.str x.1 x.2.1) with
    | false => rfl
    | true =>
      obtain ⟨t', e'⟩ := Value.isStrOf_shape hq
      injection e' with e1
      exact absurd (List.mem_map.mpr ⟨x, hx, e1⟩) hk
  rw [hi]
  refine wpAny_updateDictKeys (hz := by simp; omega) hd rfl (hQ _ ?_ (Heap.SameBut.update ..))
  refine (Heap.get?_update_self _ hd rfl).trans ?_
  simp [dObj, Obj.mapDictKeys, lnE]

theorem forIn_idle {α : Type} (f : α → PUnit → Sem (ForInStep PUnit)) : ∀ (l : List α), (∀ e ∈ l, f e PUnit.unit = pure (.yield PUnit.unit)) → forIn l PUnit.unit f = pure PUnit.unit
  | [], _ => by rw [List.forIn_nil]
  | e :: r, h => by
    rw [List.forIn_cons, h e (List.mem_cons_self ..), pure_bind]
    exact forIn_idle f r fun x hx => h x (List.mem_cons_of_mem _ hx)

theorem forIn_steps {M : Model} {f : Nat → PUnit → Sem (ForInStep PUnit)} {Q : PUnit → Shared → Prop} (P : Nat → Shared → Prop) : ∀ (k i : Nat) (s : Shared), P i s → (∀ j s, i ≤ j → j < i + k → P j s → wpAny M A (f j PUnit.unit) (fun r s' => r = .yield PUnit.unit ∧ P (j + 1) s') E s) → (∀ s', P (i + k) s' → Q PUnit.unit s') →
    wpAny M A (forIn (List.range' i k) PUnit.unit f) Q E s
  | 0, i, s, h, _, hQ => by
    show wpAny _ _ (forIn [] _ _) _ _ _
    rw [List.forIn_nil]
    exact wpAny_pure (hQ s h)
  | k + 1, i, s, h, hs, hQ => by
    rw [List.range'_succ, List.forIn_cons]
    refine wpAny_bind (wpAny_mono (hs i s (Nat.le_refl _) (by omega) h) ?_ fun _ _ x => x)
    rintro r s' ⟨rfl, h'⟩
    exact forIn_steps P k (i + 1) s' h' (fun j s'' h1 h2 => hs j s'' (by omega) (by omega)) fun s'' h'' => hQ s'' (by rw [show i + (k + 1) = i + 1 + k by omega]; exact h'')

/-- a dict's lines laid into another -/
theorem merge_lines {D d : Addr} {acc l : List Ln} {ep ep' : Nat} {Q : Unit → Shared → Prop} (hne : D ≠ d) (lo : (d == sysModules) = false) (hD : s.heap.get? D = some (dObj w acc ep)) (hd : s.heap.get? d = some (dObj w l ep'))
    (hn : ((acc ++ l).map (·.1)).Nodup) (hl : acc.length + l.length ≤ 1000)
    (hQ : ∀ h', h'.get? D = some (dObj w (acc ++ l) (ep + l.length)) → Heap.SameBut D s.heap h' → Q () { s with heap := h' }) :
    wpAny (model prog w) A (mergeMapping D (.ref d) false) Q E s := by
  have hT : s.TypeIs (.ref d) "dict" := ⟨_, hd, rfl⟩
  have hes : ∀ e ∈ (l.map (lnE w)), ∃ x : Ln, x ∈ l ∧ e = lnE w x := fun e he => by
    obtain ⟨x, hx, rfl⟩ := List.mem_map.mp he
    exact ⟨x, hx, rfl⟩
  unfold mergeMapping
  refine wpAny_bind (wpAny_isInstance hT PySem.F.sub_dict_dict ?_)
  rw [if_pos rfl]
  refine wpAny_bind (wpAny_specialOf hT F.slot_dict_iter.lookup ?_)
  refine wpAny_bind (wpAny_pure ?_)
  simp only [beq_self_eq_true, lo, Bool.false_eq_true, if_false]
  refine wpAny_bind (wpAny_dictEntries hD rfl ?_)
  have loop : wpAny (model prog w) A (do
      let size := (← dictEntries d).size
      let epoch ← dictEpoch d
      for i in List.range size do
        let some e := (← dictEntries d)[i]? | unsupported "dict.changed-during-merge"
        holding [e.key, e.val] do
          if false = true then
            if (← dictFind D e.key e.hash).isSome then rule "dict.merge.duplicate-key"; raiseNew (← newExc (.type "KeyError") [e.key])
          dictPut D e.hash e.key e.val
        if (← dictEpoch d) != epoch then unsupported "dict.changed-during-merge") Q E s := by
    refine wpAny_bind (wpAny_dictEntries hd rfl ?_)
    refine wpAny_bind (wpAny_dictEpoch hd rfl ?_)
    have hsz : (List.map (lnE w) l).toArray.size = l.length := by simp
    rw [hsz, List.range_eq_range']
    refine wpAny_bind (forIn_steps (P := fun i s' => ∃ h', s' = { s with heap := h' } ∧ h'.get? D = some (dObj w (acc ++ l.take i) (ep + i)) ∧ Heap.SameBut D s.heap h') l.length 0 s ⟨s.heap, rfl, by simpa using hD, Heap.SameBut.refl _ _⟩ ?_ ?_)
    · rintro i s' _ hi ⟨h', rfl, hD', hs'⟩
      rw [Nat.zero_add] at hi
      have hd' : h'.get? d = some (dObj w l ep') := (hs'.2 d (Ne.symm hne)).trans hd
      refine wpAny_bind (wpAny_dictEntries hd' rfl ?_)
      have he : (List.map (lnE w) l).toArray[i]? = some (lnE w l[i]) := by simp [hi]
      rw [he]
      have htk : l.take (i + 1) = l.take i ++ [l[i]] := by rw [List.take_add_one]; simp [hi]
      refine wpAny_bind (wpAny_holding ?_)
      simp only [Bool.false_eq_true, if_false]
      refine dictPut_new hD' ?_ ?_ fun h₂ hD₂ hs₂ => ?_
      · have hsub : ((acc ++ l.take (i + 1)).map (·.1)).Nodup := by
          refine hn.sublist ?_
          rw [List.map_append, List.map_append]
          exact List.Sublist.append_left ((List.take_sublist ..).map _) _
        rw [htk, ← List.append_assoc, List.map_append, List.nodup_append] at hsub
        intro hin
        exact hsub.2.2 _ hin _ (by simp) rfl
      · rw [sizeLine_eq, List.length_append, List.length_take]; omega
      · have hd₂ : h₂.get? d = some (dObj w l ep') := (hs₂.2 d (Ne.symm hne)).trans hd'
        refine wpAny_bind (wpAny_dictEpoch hd₂ rfl ?_)
        rw [if_neg (by simp)]
        refine wpAny_pure ⟨rfl, h₂, rfl, ?_, hs'.trans hs₂⟩
        rw [htk, ← List.append_assoc]; exact hD₂
    · rintro s' ⟨h', rfl, hD', hs'⟩
      rw [Nat.zero_add, List.take_length] at hD'
      exact wpAny_pure (hQ h' hD' hs')
  simp only [Bool.false_eq_true, if_false] at loop
  split
  · refine wpAny_bind (wpAny_dictEntries hd rfl ?_)
    rw [List.forIn_toArray, forIn_idle]
    · exact wpAny_bind (wpAny_pure loop)
    · intro e he
      obtain ⟨x, _, rfl⟩ := hes e he
      rfl
  · exact loop
end
end Mine
end

section
open PySem PySem.W PyProof.Rows PyProof.V PySem.Calls
set_option maxRecDepth 100000
namespace Mine
theorem gather_some (D : Addr) (f : (Option (Sem Value) × Sem Value) → (Option Addr × List (Sem Value × Sem Value)) → Sem (ForInStep (Option Addr × List (Sem Value × Sem Value))))
    (hf : ∀ (p : Sem Value × Sem Value) (run : List (Sem Value × Sem Value)), run.length + 1 < 17 → f (some p.1, p.2) (some D, run) = pure (.yield (some D, run ++ [p]))) :
    ∀ (items run : List (Sem Value × Sem Value)), run.length + items.length < 17 → forIn (items.map fun p => (some p.1, p.2)) (some D, run) f = pure (some D, run ++ items)
  | [], run, _ => by simp
  | p :: rest, run, h => by
    rw [List.map_cons, List.forIn_cons, hf p run (by simp at h; omega), pure_bind]
    have := gather_some D f hf rest (run ++ [p]) (by simp at h ⊢; omega)
    simpa using this
section
variable {prog : Program} {w : World} {A : Around} {E : Value → Shared → Prop} {s : Shared} {env : Env} {h₀ : Heap} {L : Addr} {m : Str → Option Value} {news : List (Addr × Obj)}

/-- {**x, 'k': 'v', ..} -/
theorem wp_star {pairs : List (Sem Value × Sem Value)} {v : Sem Value} {Q : Value → Shared → Prop} (h0 : pairs ≠ []) (hlen : pairs.length < 17)
    (h : ∀ D, D = s.heap.objs.size → wpAny (model prog w) A v (fun x s₁ => ∃ d, x = .ref d ∧ wpAny (model prog w) A (mergeMapping D (.ref d) false) (fun _ s₂ => wpAny (model prog w) A (subDict pairs) (fun sub s₃ =>
      wpAny (model prog w) A (mergeMapping D (.ref sub) false) (fun _ s₄ => Q (.ref D) s₄) (fun _ _ => False) s₃) (fun _ _ => False) s₂) (fun _ _ => False) s₁) (fun _ _ => False) { s with heap := s.heap.push { cls := .type "dict", data := .dict #[] } }) :
    wpAny (model prog w) A (dictDisplay ((none, v) :: pairs.map fun p => (some p.1, p.2))) Q E s := by
  unfold dictDisplay
  dsimp only
  rw [List.forIn_cons]
  refine wpAny_bind (wpAny_bind ?_)
  dsimp only
  simp only [List.isEmpty_nil, if_true]
  refine wpAny_bind (wpAny_pure ?_)
  dsimp only
  refine wpAny_bind (wpAny_alloc (wpAny_bind (wpAny_holding ?_)))
  refine wpAny_mono (h _ rfl) ?_ (fun _ _ x => x.elim)
  rintro x s₁ ⟨d, rfl, h₁⟩
  refine wpAny_bind (wpAny_onRaise (wpAny_tryCatch (wpAny_onRaise (wpAny_holding ?_))))
  refine wpAny_mono h₁ ?_ (fun _ _ x => x.elim)
  rintro _ s₂ h₂
  refine wpAny_pure ?_
  dsimp only
  rw [gather_some s.heap.objs.size _ (fun p run h => by
    have hne : ((run ++ [(p.1, p.2)]).length == 17) = false := by simp; omega
    simp only [hne, Bool.false_eq_true, if_false]) pairs [] (by simpa using hlen)]
  refine wpAny_bind (wpAny_pure ?_)
  have he : pairs.isEmpty = false := by cases pairs with | nil => exact absurd rfl h0 | cons _ _ => rfl
  refine wpAny_pure ?_
  simp only [List.nil_append, he, Bool.false_eq_true, if_false]
  refine wpAny_bind (wpAny_bind (wpAny_holding (wpAny_mono h₂ ?_ (fun _ _ x => x.elim))))
  rintro sub s₃ h₃
  refine wpAny_bind (wpAny_onRaise (wpAny_holding (wpAny_mono h₃ ?_ (fun _ _ x => x.elim))))
  rintro _ s₄ h₄
  exact wpAny_pure (wpAny_pure h₄)

/-- {**e, 'k': 'v', ..}: e a dict of texts -/
theorem ev_star {e : Expr} {ks : List (Option Expr)} {vs : List Expr} {r : List (Str × Str)} {pos : Pos} {d : Addr} {l : List Ln} {ep : Nat} {Q : Value → Shared → Prop}
    (F : Fr h₀ L s.heap m) (N : News h₀ L s.heap news) (hlim : h₀.NoLimit) (h : DPairs ks vs r) (h0 : r ≠ []) (hlen : r.length ≤ 15) (hll : l.length ≤ 900) (hn : (l.map (·.1) ++ r.map (·.1)).Nodup) (lo : (d == sysModules) = false)
    (hd : ∀ h', Fr h₀ L h' m → News h₀ L h' news → h'.get? d = some (dObj w l ep))
    (he : ∀ (s : Shared) (Q : Value → Shared → Prop), Fr h₀ L s.heap m → Q (.ref d) s → wpAny (model prog w) A (eval e env) Q (fun _ _ => False) s)
    (hQ : ∀ h' tk t, s.toks ≤ t → Fr h₀ L h' m → News h₀ L h' ((s.heap.objs.size, dObj w (l ++ lnFrom t r) (l.length + r.length)) :: news) → (∀ q ∈ news, q.1 < s.heap.objs.size) → (s.heap.objs.size == sysModules) = false → t ≤ tk → Q (.ref s.heap.objs.size) { s with heap := h', toks := tk }) :
    wpAny (model prog w) A (eval (.Dict (none :: ks) (e :: vs) pos) env) Q E s := by
  have hl := h.len
  have hpl := pairTrees_length ks vs env pos h.some hl.1
  have hz := zip_pairTrees ks vs env pos h.some hl.1
  rw [arm_eval_Dict]
  have hshape : (evalEachOpt (none :: ks) env).zip ((evalEach (e :: vs) env).map fun v => do let x ← v; standAt pos; pure x) = (none, do let x ← eval e env; standAt pos; pure x) :: ((pairTrees ks vs env pos).map fun p => (some p.1, p.2)) := by
    rw [← hz]; rfl
  rw [hshape]
  refine wpAny_bind (wpAny_standAt (wp_star (fun q => h0 (List.length_eq_zero_iff.mp (by rw [← hl.2, ← hpl, q]; rfl))) (by rw [hpl, hl.2]; omega) ?_))
  rintro D rfl
  have hfr := fr_fresh F (a := s.heap.objs.size) (Nat.le_refl _)
  have szn : ∀ q ∈ news, q.1 < s.heap.objs.size := fun q hq => Heap.lt_size (N q hq).1
  have F₁ : Fr h₀ L (s.heap.push { cls := .type "dict", data := .dict #[] }) m := F.push _
  have N₁ : News h₀ L (s.heap.push { cls := .type "dict", data := .dict #[] }) news := fun q hq => ⟨Heap.get?_push_of_some _ (N q hq).1, (N q hq).2⟩
  have hD₁ : (s.heap.push { cls := .type "dict", data := .dict #[] }).get? s.heap.objs.size = some (dObj w [] 0) := Heap.get?_push_size _ rfl
  have hdz : d < s.heap.objs.size := Heap.lt_size (hd _ F N)
  refine wpAny_bind (he _ _ F₁ (wpAny_bind (wpAny_standAt (wpAny_pure ⟨d, rfl, ?_⟩))))
  refine merge_lines (Nat.ne_of_gt hdz) lo hD₁ (hd _ F₁ N₁) (by rw [List.nil_append]; rw [List.nodup_append] at hn; exact hn.1) (by simp; omega) fun h₂ hD₂ hs₂ => ?_
  have kp₂ : ∀ b o, b ≠ s.heap.objs.size → (s.heap.push { cls := .type "dict", data := .dict #[] }).get? b = some o → h₂.get? b = some o := fun b o hb e => hs₂.extBut b o hb e
  have F₂ := fr_but F₁ kp₂ hfr.1 hfr.2
  have N₂ := news_but N₁ kp₂ (fun q hq => Nat.ne_of_lt (szn q hq))
  have hDz : s.heap.objs.size < h₂.objs.size := Heap.lt_size hD₂
  have hfr2 := fr_fresh F₂ (a := h₂.objs.size) (Nat.le_refl _)
  have szn2 : ∀ q ∈ news, q.1 < h₂.objs.size := fun q hq => Heap.lt_size (N₂ q hq).1
  unfold subDict
  refine wpAny_bind (wpAny_alloc (wpAny_bind (wpAny_holding ?_)))
  rw [if_pos (by rw [hpl, hl.2]; exact hlen)]
  refine wpAny_bind (pairs_consts h (wpAny_holding (wpAny_bind ?_)))
  have hS := Heap.get?_push_size h₂ (o := { cls := .type "dict", data := .dict #[] }) rfl
  have hD₃ := Heap.get?_push_of_some { cls := .type "dict", data := .dict #[] } hD₂
  refine store_lines (lnFrom s.toks r) [] _ 0 _ hS (by rw [List.nil_append, lnFrom_keys]; rw [List.nodup_append] at hn; exact hn.2.1) (by simp [lnFrom_length]; omega) fun h₃ hS₃ hs₃ => ?_
  refine wpAny_pure (wpAny_pure ?_)
  rw [List.nil_append, Nat.zero_add, lnFrom_length] at hS₃
  have kp₃ : ∀ b o, b ≠ h₂.objs.size → (h₂.push { cls := .type "dict", data := .dict #[] }).get? b = some o → h₃.get? b = some o := fun b o hb e => hs₃.extBut b o hb e
  have F₃ := fr_but (F₂.push _) kp₃ hfr2.1 hfr2.2
  have N₃ : News h₀ L h₃ news := news_but (fun q hq => ⟨Heap.get?_push_of_some _ (N₂ q hq).1, (N₂ q hq).2⟩) kp₃ (fun q hq => Nat.ne_of_lt (szn2 q hq))
  have hD₃' := kp₃ _ _ (Nat.ne_of_lt hDz) hD₃
  have loS : (h₂.objs.size == sysModules) = false := F₂.notModules (modules_low hlim)
  refine merge_lines (Nat.ne_of_lt hDz) loS hD₃' hS₃ (by rw [List.nil_append, List.map_append, lnFrom_keys]; exact hn) (by rw [List.nil_append, lnFrom_length]; omega) fun h₄ hD₄ hs₄ => ?_
  have kp₄ : ∀ b o, b ≠ s.heap.objs.size → h₃.get? b = some o → h₄.get? b = some o := fun b o hb e => hs₄.extBut b o hb e
  rw [lnFrom_length] at hD₄ ⊢
  simp only [List.nil_append, Nat.zero_add] at hD₄
  refine hQ h₄ _ s.toks (Nat.le_refl _) (fr_but F₃ kp₄ hfr.1 hfr.2) ?_ szn (F.notModules (modules_low hlim)) (by show s.toks ≤ s.toks + 2 * r.length + r.length; omega)
  intro q hq
  rcases List.mem_cons.mp hq with rfl | hq
  · exact ⟨hD₄, hfr⟩
  · exact ⟨kp₄ _ _ (Nat.ne_of_lt (szn q hq)) (N₃ q hq).1, (N q hq).2⟩
end
end Mine
end

section
open PySem PySem.W PyProof.Rows PyProof.V PySem.Calls
set_option maxRecDepth 100000
namespace Mine
section
variable {prog : Program} {w : World} {A : Around} {E : Value → Shared → Prop} {s : Shared}
theorem pct_dq {y : Str} {t u : Tok} {Q : Value → Shared → Prop} (hy : y.length ≤ 1000000) (h : ∀ t' k, Q (.str (Str.ofString "\"" ++ y ++ Str.ofString "\"") t') { s with toks := k }) :
    wpAny (model prog w) A (binaryOp .Mod (.str (Str.ofString "\"%s\"") t) (.str y u)) Q E s := by
  refine' KPc.mod_str (T := fun y => Str.ofString "\"" ++ y ++ Str.ofString "\"") ?kpcF hy ?kpcm ?_
  case kpcF => kpc_eq
  case kpcm => kpc_run_s
  exact h
theorem pct_sq {y : Str} {t u : Tok} {Q : Value → Shared → Prop} (hy : y.length ≤ 1000000) (h : ∀ t' k, Q (.str (Str.ofString "'" ++ y ++ Str.ofString "'") t') { s with toks := k }) :
    wpAny (model prog w) A (binaryOp .Mod (.str (Str.ofString "'%s'") t) (.str y u)) Q E s := by
  refine' KPc.mod_str (T := fun y => Str.ofString "'" ++ y ++ Str.ofString "'") ?kpcF hy ?kpcm ?_
  case kpcF => kpc_eq
  case kpcm => kpc_run_s
  exact h
end
end Mine
end

section
open PySem PySem.W PyProof.Rows PyProof.V PySem.Calls
set_option maxRecDepth 100000
namespace Mine
def hasT (Y c : Str) : Bool := !(Builtin.Str.occurrences Y c 0 Y.length 1).isEmpty
abbrev dq : Str := Str.ofString "\""
abbrev sq : Str := Str.ofString "'"
/-- what quoteattr lays round a text -/
def quoted (Y : Str) : Str := if hasT Y dq = true then (if hasT Y sq = true then dq ++ Txt.replace Y dq (Str.ofString "&quot;") ++ dq else sq ++ Y ++ sq) else dq ++ Y ++ dq
section
variable {prog : Program} {w : World} {K : Frag} {p : Program} {loose : List Str} {mean : ExcName → Option Value} {mg mb : Str → Option Value}

theorem body_quoteattr {n : Nat} {f g : Addr} {qual : Str} {scope : Scope} {cdv : Value} {m : Str → Option Value} {x xe xg X Y : Str} {t : Tok} {d : Addr} {l : List Ln} {ep : Nat} {r : List (Str × Str)} {ks : List (Option Expr)} {vs : List Expr}
    {k1 k2 k3 k4 k5 k6 k7 : Nat} {a1 a2 a3 a4 b1 b2 b3 b4 b5 b6 c1 c2 c3 c4 d1 d2 d3 d4 e1 e2 e3 e4 e5 e6 e7 e8 e9 f1 f2 f3 f4 f5 g1 g2 g3 g4 g5 r1 r2 : Pos}
    (h : DPairs ks vs r) (h0 : r ≠ []) (hlen : r.length ≤ 15) (hll : l.length ≤ 900) (hn : (l.map (·.1) ++ r.map (·.1)).Nodup) (lo : (d == sysModules) = false)
    (hm : m x = some (.str X t)) (hme : m xe = some (.ref d)) (hxe : xe ≠ x)
    (hg : ∀ t D tk, 1 ≤ tk → (D == sysModules) = false → Gives prog w K p loose mean mg mb n g [.str X t, .ref D] (fun _ news => (D, dObj w (l ++ lnFrom tk r) (l.length + r.length)) ∈ news) (fun v ex => ex = [] ∧ ∃ t', v = .str Y t'))
    (hY : Y.length ≤ 1000000) (hYr : (Txt.replace Y dq (Str.ofString "&quot;")).length ≤ 1000000)
    (hp : (e6.endLine == e9.line) = true)
    (hgn : nsIn K mainGlobals xg = some (some (.ref g))) (hkp : keepIn K (.ref g) = true) (hk : scope.kind = .function)
    (hkx : ∀ L, (envOf qual scope L f cdv).kindOf x = some .local) (hke : ∀ L, (envOf qual scope L f cdv).kindOf xe = some .local) (hkg : ∀ L, (envOf qual scope L f cdv).kindOf xg = some .globalImplicit)
    (hsw : ∀ L, swapsWith (.Dict (none :: ks) (.Name xe a2 :: vs) a3) (some (.Name xe a1)) a4.line (envOf qual scope L f cdv) = pure false)
    (hdx : (x == ("__debug__" : Str)) = false) (hde : (xe == ("__debug__" : Str)) = false) (hdg : (xg == ("__debug__" : Str)) = false) :
    BodyGives prog w K p loose mean mg mb n f qual scope cdv
      [.Assign [.Name xe a1] (.Dict (none :: ks) (.Name xe a2 :: vs) a3) a4,
       .Assign [.Name x b1] (.Call (.Name xg b2) [.Name x b3, .Name xe b4] [] b5) b6,
       .If (.Compare (.Constant (.str dq) k1 c1) [.In] [.Name x c2] c3)
         [.If (.Compare (.Constant (.str sq) k2 d1) [.In] [.Name x d2] d3)
           [.Assign [.Name x e1] (.BinOp (.Constant (.str (Str.ofString "\"%s\"")) k3 e2) .Mod (.Call (.Attribute (.Name x e5) (Str.ofString "replace") e6) [.Constant (.str dq) k4 e7, .Constant (.str (Str.ofString "&quot;")) k5 e8] [] e9) e3) e4]
           [.Assign [.Name x f1] (.BinOp (.Constant (.str (Str.ofString "'%s'")) k6 f2) .Mod (.Name x f3) f4) f5] d4]
         [.Assign [.Name x g1] (.BinOp (.Constant (.str (Str.ofString "\"%s\"")) k7 g2) .Mod (.Name x g3) g4) g5] c4,
       .Return (some (.Name x r1)) r2] m
      (fun _ news => Stands K news d (dObj w l ep)) (fun v ex => ex = [] ∧ ∃ t', v = .str (quoted Y) t') := by
  intro A A₀ base outer g' L news s Q S F N h1 hr hpre hQ
  refine seq_let (h₀ := g') (cl := []) (hsw L) hk (hke L) ?_
  refine ev_star F N S.T.nolimit h h0 hlen hll hn lo (fun h' F' N' => hpre.at N' F' S.X) (fun s Q F' hq => nameX_L F' hme hq hk (hke L) hde) ?_
  intro h₁ tk₁ t₁ ht₁ F₁ N₁ hlt loD htk₁
  refine ⟨_, _, F₁, N₁, fun h₂ F₂ N₂ => ?_⟩
  generalize hDe : s.heap.objs.size = D at N₁ N₂ F₂ loD hlt
  have hneq : ∀ v, upd m xe v x = some (.str X t) := fun v => (upd_ne hxe.symm).trans hm
  refine wpAny_execs_cons (wpAny_Assign_Name (call_name (cl := []) (s := { s with heap := h₂, toks := tk₁ + 1 }) S F₂ hgn hkp (hkg L) hdg ?_ rfl rfl))
  refine spliced_more (nameX_L (s := { s with heap := h₂, toks := tk₁ + 1 }) F₂ (hneq _) (spliced_more (nameX_L (s := { s with heap := h₂, toks := tk₁ + 1 }) F₂ (upd_at ..) (spliced_none ⟨S.X.keeps F₂.keep, ?_⟩) hk (hke L) hde) rfl) hk (hkx L) hdx) rfl
  refine hg t D t₁ (Nat.le_trans h1 ht₁) loD A _ A₀ base outer g' L _ _ { s with heap := h₂, toks := tk₁ + 1 } _ _ S F₂ N₂ hr (.head _) ?_
  rintro v ex h₃ tk₃ F₃ N₃ _ htk₃ ⟨rfl, t₃, rfl⟩
  refine storeX_L (s := { s with heap := h₃, toks := tk₃ }) F₃ N₃ (fun h₄ F₄ N₄ => ?_) hk (hkx L)
  have N₅ : News g' L h₄ news := news_sub N₄ fun q hq => .tail _ hq
  have F₅ : Fr g' L h₄ (upd (upd m xe (.ref D)) x (.str Y t₃)) := F₄
  clear F₄ N₄ F₃ N₃
  have last : ∀ h' tk tz, Fr g' L h' (upd (upd m xe (.ref D)) x (.str (quoted Y) tz)) → News g' L h' news → 1 ≤ tk → wpAny (model prog w) A (execs [.Return (some (.Name x r1)) r2] (envOf qual scope L f cdv)) Q (fun _ _ => False) { s with heap := h', toks := tk } := by
    intro h' tk tz F' N' htk
    refine wpAny_execs_cons (st_return (cl := []) (s := { s with heap := h', toks := tk }) F' (upd_at ..) hk (hkx L) hdx ?_)
    exact hQ _ [] h' tk _ F' N' (fun _ _ _ hx => nomatch hx) htk ⟨rfl, tz, rfl⟩
  have set : ∀ (Z : Str) (t' : Tok) (k : Nat) (Q : Unit → Shared → Prop), (∀ h' , Fr g' L h' (upd (upd m xe (.ref D)) x (.str Z t')) → News g' L h' news → Q () { s with heap := h', toks := k + 1 }) →
      ∀ (px : Pos), wpAny (model prog w) A (storeName (envOf qual scope L f cdv) x (.str Z t')) Q (fun _ _ => False) { s with heap := h₄, toks := k } := by
    intro Z t' k Q hq px
    refine storeX_L (s := { s with heap := h₄, toks := k }) F₅ N₅ (fun h' F' N' => hq h' ?_ N') hk (hkx L)
    have := upd_upd (upd m xe (.ref D)) x (.str Y t₃) (.str Z t')
    rw [← this]; exact F'
  refine wpAny_execs_cons (wpAny_If (wpAny_isTrue_Compare1 (Calls.Constant_str (nameX_L (s := { s with heap := h₄, toks := tk₃ + 1 + 1 }) F₅ (upd_at ..) (in_str (wpAny_truthy_bool ?_)) hk (hkx L) hdx))))
  split
  · rename_i hq1
    have hq1 : hasT Y dq = true := hq1
    refine wpAny_execs_cons (wpAny_If (wpAny_isTrue_Compare1 (Calls.Constant_str (nameX_L (s := { s with heap := h₄, toks := tk₃ + 1 + 1 + 1 }) F₅ (upd_at ..) (in_str (wpAny_truthy_bool ?_)) hk (hkx L) hdx))))
    split
    · rename_i hq2
      have hq2 : hasT Y sq = true := hq2
      refine wpAny_execs_cons (wpAny_Assign_Name (wpAny_BinOp (Calls.Constant_str ?_)))
      refine ev_replace (cl := []) (s := { s with heap := h₄, toks := tk₃ + 1 + 1 + 1 + 1 }) F₅ (upd_at ..) (Nat.le_add_left _ _) hp (by decide +kernel) ?_ hk (hkx L) hdx fun t₆ k₆ hk₆ => ?_
      · have : (Str.ofString "&quot;").length = 6 := by decide +kernel
        rw [this]; omega
      refine pct_dq (s := { s with heap := h₄, toks := k₆ }) hYr fun t₇ k₇ => ?_
      refine set _ t₇ k₇ _ (fun h' F' N' => ?_) e1
      refine wpAny_execs_nil (wpAny_execs_nil (last h' (k₇ + 1) t₇ ?_ N' (Nat.le_add_left _ _)))
      unfold quoted
      rw [if_pos hq1, if_pos hq2]; exact F'
    · rename_i hq2
      have hq2 : ¬ hasT Y sq = true := hq2
      refine wpAny_execs_cons (wpAny_Assign_Name (wpAny_BinOp (Calls.Constant_str ?_)))
      refine nameX_L (s := { s with heap := h₄, toks := tk₃ + 1 + 1 + 1 + 1 }) F₅ (upd_at ..) ?_ hk (hkx L) hdx
      refine pct_sq (s := { s with heap := h₄, toks := tk₃ + 1 + 1 + 1 + 1 }) hY fun t₇ k₇ => ?_
      refine set _ t₇ k₇ _ (fun h' F' N' => ?_) f1
      refine wpAny_execs_nil (wpAny_execs_nil (last h' (k₇ + 1) t₇ ?_ N' (Nat.le_add_left _ _)))
      unfold quoted
      rw [if_pos hq1, if_neg hq2]; exact F'
  · rename_i hq1
    have hq1 : ¬ hasT Y dq = true := hq1
    refine wpAny_execs_cons (wpAny_Assign_Name (wpAny_BinOp (Calls.Constant_str ?_)))
    refine nameX_L (s := { s with heap := h₄, toks := tk₃ + 1 + 1 + 1 }) F₅ (upd_at ..) ?_ hk (hkx L) hdx
    refine pct_dq (s := { s with heap := h₄, toks := tk₃ + 1 + 1 + 1 }) hY fun t₇ k₇ => ?_
    refine set _ t₇ k₇ _ (fun h' F' N' => ?_) g1
    refine wpAny_execs_nil (last h' (k₇ + 1) t₇ ?_ N' (Nat.le_add_left _ _))
    unfold quoted
    rw [if_neg hq1]; exact F'
end
end Mine
end

section
open PySem PySem.W PyProof.Rows PyProof.V PySem.Calls
set_option maxRecDepth 100000
namespace Mine
/-- no token is booked in any state that the top leaves -/
theorem none_booked_K {K : Frag} {c : Value} {d : Option Addr} {es : Array DictEntry} {n : Nat} {sl : Array (Option Value)} (ho : K.lookup cStatics = some ⟨c, d, .dict es n, sl⟩) (hk : StrKeys es) (e : nsFind es sharingNotToldKey = none) : ∀ h, K.In h → NoneBooked h :=
  fun _ X => ⟨fun x => nsFind es x, ⟨_, es, n, X _ _ ho, rfl, hk, fun _ => rfl⟩, e⟩
end Mine
end

section
open PySem PySem.W PyProof.Rows PyProof.V PySem.Calls
set_option maxRecDepth 100000
namespace Mine
/-- Gives, with keywords -/
def GivesA (prog : Program) (w : World) (K : Frag) (p : Program) (loose : List Str) (mean : ExcName → Option Value) (mg mb : Str → Option Value) (n : Nat) (f : Addr) (vs : List Value) (kw : List (Str × Value))
    (pre : Heap → List (Addr × Obj) → Prop) (R : Value → List (Addr × Obj) → Prop) : Prop :=
  ∀ (A : Around) (env : Env) (A₀ : Around) (base : Heap) (outer : List Env) (h₀ : Heap) (L : Addr) (m : Str → Option Value) (news : List (Addr × Obj)) (s : Shared) (Q E : Value → Shared → Prop),
    Site K p loose mean mg mb A env A₀ base outer h₀ L → Fr h₀ L s.heap m → News h₀ L s.heap news → Room A n → pre base news →
    (∀ v ex h' tk', Fr h₀ L h' m → News h₀ L h' (ex ++ news) → (∀ q ∈ news, ∀ x ∈ ex, q.1 ≠ x.1) → 1 ≤ tk' → R v ex → Q v { s with heap := h', toks := tk' }) →
    wpAny (model prog w) A (call (.ref f) vs kw) Q E s
section
variable {prog : Program} {w : World} {K : Frag} {p : Program} {loose : List Str} {mean : ExcName → Option Value} {mg mb : Str → Option Value}
theorem gives_defA {n : Nat} {f : Addr} {vs : List Value} {kw : List (Str × Value)} {pre : Heap → List (Addr × Obj) → Prop} {R : Value → List (Addr × Obj) → Prop}
    {name qual : Str} {params : Arguments} {body : List Stmt} {scope : Scope} {dV kV doc pm cdv ct oc : Value} {an od : Option Addr} {osl : Array (Option Value)} {binds : List (Str × Value)}
    (ho : K.lookup f = some ⟨oc, od, .func (fnOf name qual params body scope dV kV doc pm an cdv ct), osl⟩) (hcd : codeIn K cdv qual = true)
    (hbind : ∀ s : Shared, K.In s.heap → BindsTo s (fnOf name qual params body scope dV kV doc pm an cdv ct) ⟨vs, kw⟩ binds) (hloc : ∀ y ∈ binds, scope.names.lookup y.1 = some .local)
    (hco : scope.isCoroutine = false) (hgen : scope.isGenerator = false) (hk : scope.kind = .function) (hcell : ∀ x ∈ scope.names, x.2 ≠ .cell)
    (hb : BodyGives prog w K p loose mean mg mb n f qual scope cdv body (fun y => binds.reverse.lookup y) pre R) (hne : 1 ≤ binds.length := by exact Nat.succ_le_succ (Nat.zero_le _)) :
    GivesA prog w K p loose mean mg mb (n + 1) f vs kw pre R := by
  intro A env A₀ base outer h₀ L m news s Q E S F N hr hpre hQ
  refine wpAny_call (code_def S.B F S.X N S.T S.hA S.hf S.hk ho hcd (by have := hr.1; omega) (hbind s (S.X.keeps F.keep)) hloc (fun g L' h₁ FG F' N' B' X' T' => ?_) hco hgen hk hcell)
  refine wpAny_mono (hb (A.deeper (envOf qual scope L' f cdv)) A base (env :: outer) g L' news _ _ ⟨B', X', T', ?_, rfl, hk, S.hh⟩ F' N' ?_ hr.deeper hpre (fun v ex h' tk' m' F₂ N₂ hne htk hR => ?_)) (fun _ _ x => x) (fun _ _ x => x.elim)
  · show A.frames.map _ = _
    rw [S.hA]; rfl
  · show 1 ≤ s.toks + binds.length; omega
  · exact leaveK_ F₂ N₂ fun F₃ N₃ => hQ v ex h' tk' F₃ N₃ hne htk hR

/-- what a thing says in an if -/
def TruthAt (prog : Program) (w : World) (news : List (Addr × Obj)) (v : Value) (b : Bool) : Prop :=
  ∀ (A : Around) (h₀ : Heap) (L : Addr) (m : Str → Option Value) (s : Shared) (Q : Bool → Shared → Prop) (E : Value → Shared → Prop), Fr h₀ L s.heap m → News h₀ L s.heap news → h₀.NoLimit → (∀ tk, s.toks ≤ tk → Q b { s with toks := tk }) → wpAny (model prog w) A (truthy v) Q E s

/-- html's escape -/
theorem body_html {n : Nat} {f : Addr} {qual : Str} {scope : Scope} {cdv : Value} {m : Str → Option Value} {x xq X : Str} {t : Tok} {v : Value} {b : Bool} {reps reps2 : List (Str × Str)} {sts sts2 : List Stmt} {q1 q2 r1 r2 : Pos}
    (hc : Chain x reps sts [.If (.Name xq q1) sts2 [] q2, .Return (some (.Name x r1)) r2]) (hc2 : Chain x reps2 sts2 [])
    (hm : m x = some (.str X t)) (hmq : m xq = some v) (hxq : xq ≠ x) (hf : Fits X reps) (hf2 : Fits (repls X reps) reps2)
    (hk : scope.kind = .function) (hkx : ∀ L, (envOf qual scope L f cdv).kindOf x = some .local) (hkq : ∀ L, (envOf qual scope L f cdv).kindOf xq = some .local)
    (hdx : (x == ("__debug__" : Str)) = false) (hdq : (xq == ("__debug__" : Str)) = false) :
    BodyGives prog w K p loose mean mg mb n f qual scope cdv sts m (fun _ news => TruthAt prog w news v b) (fun u ex => ex = [] ∧ ∃ t', u = .str (if b = true then repls (repls X reps) reps2 else repls X reps) t') := by
  intro A A₀ base outer g' L news s Q S F N h1 hr hpre hQ
  rw [← upd_same hm] at F
  refine exec_chain (cl := []) hk (hkx L) hdx hc hf F N h1 fun h' t' k F' N' hk' => ?_
  have hm2 : upd m x (.str (repls X reps) t') xq = some v := (upd_ne hxq).trans hmq
  refine wpAny_execs_cons (wpAny_If (isTrue_plain (nameX_L (s := { s with heap := h', toks := k }) F' hm2 ?_ hk (hkq L) hdq) rfl))
  refine hpre A g' L _ { s with heap := h', toks := k } _ _ F' N' S.T.nolimit fun tk htk => ?_
  have htk : k ≤ tk := htk
  cases b with
  | true =>
    simp only [if_true] at hQ ⊢
    refine exec_chain (cl := []) (s := { s with heap := h', toks := tk }) hk (hkx L) hdx hc2 hf2 F' N' (Nat.le_trans hk' htk) fun h₂ t₂ k₂ F₂ N₂ hk₂ => ?_
    refine wpAny_execs_nil (wpAny_execs_cons (st_return (cl := []) (s := { s with heap := h₂, toks := k₂ }) F₂ (upd_at ..) hk (hkx L) hdx ?_))
    exact hQ _ [] h₂ k₂ _ F₂ N₂ (fun _ _ _ hx => nomatch hx) hk₂ ⟨rfl, t₂, rfl⟩
  | false =>
    simp only [Bool.false_eq_true, if_false] at hQ ⊢
    refine wpAny_execs_nil (wpAny_execs_cons (st_return (cl := []) (s := { s with heap := h', toks := tk }) F' (upd_at ..) hk (hkx L) hdx ?_))
    exact hQ _ [] h' tk _ F' N' (fun _ _ _ hx => nomatch hx) (Nat.le_trans hk' htk) ⟨rfl, t', rfl⟩
end
end Mine
end

section
open PySem PySem.W PyProof.Rows PyProof.V PySem.Calls
set_option maxRecDepth 100000
namespace Mine
section
variable {prog : Program} {w : World} {A : Around} {E : Value → Shared → Prop} {s : Shared} {h₀ : Heap} {L : Addr} {m : Str → Option Value} {env : Env}
  {scope : Scope} {cl : List (Str × Addr)} {x : Str} {pos : Pos} {Q : Value → Shared → Prop}

/-- [elt for x in iter if ct]: iter a list -/
theorem comp_list_sel {α : Type} {ct elt iter : Expr} {px : Pos} (xs : List α) (g : α → Value) (ok : α → Bool) (g2 : α → Value) (hh : A.handled = none) (F : Fr h₀ L s.heap m)
    (hcl : closureFor scope env = pure cl) (hcell : ∀ y ∈ scope.names, y.2 ≠ .cell) (hk : scope.kind = .function) (hloc : ∀ y ∈ scope.names, y.2 = .local → scope.names.lookup y.1 = some .local) (hx : scope.names.lookup x = some .local)
    (hs : ∀ x, foldedSetIterable iter env x = pure x)
    (h : wpAny (model prog w) A (eval iter env) (fun xv s₁ => ∃ ax news, xv = .ref ax ∧ Fr h₀ L s₁.heap m ∧ News h₀ L s₁.heap news ∧ ListAt h₀ news ax (xs.map g) ∧ xs.length ≤ sizeLine ∧
      (∀ e C m₂ own s₂, e ∈ xs → s₂.heap.Ns C m₂ → m₂ x = some (g e) → Fr h₀ L s₂.heap m → News h₀ L s₂.heap (own ++ news) →
        wpAny (model prog w) A (isTrue ct (compEnvC scope cl C env) (eval ct (compEnvC scope cl C env))) (fun b s₃ => b = ok e ∧ ∃ h' tk, s₃ = { s₂ with heap := h', toks := tk } ∧ Fr h₀ L h' m ∧ News h₀ L h' (own ++ news)) (fun _ _ => False) s₂) ∧
      (∀ e C m₂ own s₂, e ∈ xs → ok e = true → s₂.heap.Ns C m₂ → m₂ x = some (g e) → Fr h₀ L s₂.heap m → News h₀ L s₂.heap (own ++ news) →
        wpAny (model prog w) A (eval elt (compEnvC scope cl C env)) (fun y s₃ => y = g2 e ∧ ∃ h' tk, s₃ = { s₂ with heap := h', toks := tk } ∧ Fr h₀ L h' m ∧ News h₀ L h' (own ++ news)) (fun _ _ => False) s₂) ∧
      (∀ D h' tk, Fr h₀ L h' m → News h₀ L h' ((D, LCg.lst ((xs.filter ok).map g2)) :: news) → (∀ q ∈ news, q.1 ≠ D) → Q (.ref D) { s₁ with heap := h', toks := tk })) E s) :
    wpAny (model prog w) A (eval (.ListComp elt [⟨.Name x px, iter, [ct], 0⟩] scope pos) env) Q E s := by
  refine LCt.ListComp_T (F₀ := F) hcl hcell hk hloc hx (wpAny_mono h ?_ fun _ _ x => x) hs
  rintro xv s₁ ⟨ax, news, rfl, F₁, N₁, hl, hlen, stept, step, fin⟩
  have hsrc : LCg.SrcAt h₀ ax (xs.map g).toArray news := by
    rcases hl with ⟨n, hm⟩ | hl
    · exact .inr ⟨_, hm, rfl, n, rfl⟩
    · exact .inl hl
  refine .inl ⟨ax, (xs.map g).toArray, news, rfl, hh, F₁, N₁, hsrc, by rw [List.size_toArray, List.length_map]; exact hlen, ?_⟩
  rintro s₂ ⟨hp₂, rfl⟩
  rw [List.size_toArray, List.length_map]
  have key : ∀ (j i : Nat), i + j = xs.length →
      LCt.CompRestT prog w A h₀ L m env ct elt x scope cl { s₁ with heap := hp₂ } (LCg.SrcAt h₀ ax (xs.map g).toArray) (fun i v => (xs.map g).toArray[i]? = some v) (LCg.FinE h₀ L m { s₁ with heap := hp₂ } Q) j i (((xs.take i).filter ok).map g2) news := by
    intro j
    induction j with
    | zero =>
      intro i hi
      refine LCt.CompRestT.zero fun D h' tk F' N' off => ?_
      rw [List.take_of_length_le (by omega)] at N'
      refine fin D h' tk F' N' ?_
      clear fin step stept N' N₁ hl hsrc
      induction news with
      | nil => intro q hq; nomatch hq
      | cons r rs ih =>
        intro q hq
        rcases List.mem_cons.mp hq with rfl | hq
        · exact off.1
        · exact ih off.2 q hq
    | succ j ih =>
      intro i hi
      refine LCt.CompRestT.succ fun v I oI C oC D m₂ h' tk E' hv hC hxv F' N' off ne => ?_
      have hi' : i < xs.length := by omega
      have hv' : v = g xs[i] := by
        have q : (xs.map g).toArray[i]? = some v := hv
        simp [hi'] at q
        exact q.symm
      subst hv'
      have hmem : xs[i] ∈ xs := List.getElem_mem hi'
      have htk : xs.take (i + 1) = xs.take i ++ [xs[i]] := by rw [List.take_add_one]; simp [hi']
      refine wpAny_mono (stept xs[i] C m₂ [(I, oI), (C, oC), (D, LCg.lst (((xs.take i).filter ok).map g2))] _ hmem (nsObj_ns hC (N' _ (.tail _ (.head _))).1) hxv F' N') ?_ (fun _ _ x => x.elim)
      rintro b s₃ ⟨rfl, h₃, tk₃, rfl, F₃, N₃⟩
      have ih' := ih (i + 1) (by omega)
      rw [htk, List.filter_append, List.map_append] at ih'
      cases hok : ok xs[i] with
      | true =>
        simp only [if_true]
        refine wpAny_mono (step xs[i] C m₂ [(I, oI), (C, oC), (D, LCg.lst (((xs.take i).filter ok).map g2))] _ hmem hok (nsObj_ns hC (N₃ _ (.tail _ (.head _))).1) hxv F₃ N₃) ?_ (fun _ _ x => x.elim)
        rintro y s₄ ⟨rfl, h₄, tk₄, rfl, F₄, N₄⟩
        refine ⟨h₄, tk₄, news, rfl, F₄, N₄, off, hsrc, ?_⟩
        simpa [List.filter_cons, hok] using ih'
      | false =>
        simp only [Bool.false_eq_true, if_false]
        refine ⟨h₃, tk₃, news, rfl, F₃, N₃, off, hsrc, ?_⟩
        simpa [List.filter_cons, hok] using ih'
  simpa using key xs.length 0 (by omega)
end
end Mine
end

section
open PySem PySem.W PyProof.Rows PyProof.V PySem.Calls
set_option maxRecDepth 100000
namespace Mine
section
variable {prog : Program} {w : World} {news : List (Addr × Obj)}
theorem truthAt_int {i : Int} {t : Tok} : TruthAt prog w news (.int i t) (i != 0) := fun _ _ _ _ _ _ _ _ _ _ h => P.truthy_int (h _ (Nat.le_refl _))
theorem truthAt_str {x : Str} {t : Tok} (hx : x.length ≤ 1000000) : TruthAt prog w news (.str x t) ((x.length : Int) != 0) := fun _ _ _ _ s _ _ _ _ _ h => P.truthy_str (by omega) (h (s.toks + 1 + 1) (Nat.le_add_right _ 2))
theorem truthAt_none : TruthAt prog w news .none false := fun _ _ _ _ _ _ _ _ _ _ h => truthy_none (h _ (Nat.le_refl _))
theorem truthAt_list {a : Addr} {vs : List Value} (h : (a, lstO vs) ∈ news) (hl : vs.length ≤ 1000) : TruthAt prog w news (.ref a) (!vs.toArray.isEmpty) :=
  fun _ _ _ _ s _ _ _ N _ k => wpAny_truthy_list ⟨_, (N _ h).1, rfl, _, rfl⟩ (by rw [List.size_toArray]; omega) (k (s.toks + 1 + 1) (Nat.le_add_right _ 2))
theorem truthAt_tup {a : Addr} {vs : List Value} (h : (a, tupO vs) ∈ news) (hl : vs.length ≤ 1000) : TruthAt prog w news (.ref a) (!vs.toArray.isEmpty) :=
  fun _ _ _ _ s _ _ _ N _ k => truthy_tuple (items := vs.toArray) ⟨_, (N _ h).1, rfl, _, rfl⟩ (by rw [List.size_toArray]; omega) (k (s.toks + 1 + 1) (Nat.le_add_right _ 2))
theorem truthAt_dict {a : Addr} {o : Obj} {kvs : List (Int × Value)} (h : (a, o) ∈ news) (ho : o.IsDictOf (intKind prog w) kvs) (lo : (a == sysModules) = false) (hl : kvs.length ≤ 1000) : TruthAt prog w news (.ref a) (!kvs.isEmpty) :=
  fun _ _ _ _ s _ _ _ N _ k => wpAny_truthy_dict lo (Heap.dictOf_iff.mpr ⟨o, (N _ h).1, ho⟩) (by omega) (k (s.toks + 1 + 1) (Nat.le_add_right _ 2))

/-- {i: j} -/
theorem ev_dict_int1 {A : Around} {E : Value → Shared → Prop} {s : Shared} {env : Env} {h₀ : Heap} {L : Addr} {m : Str → Option Value} {i j : Int} {n1 n2 : Nat} {p1 p2 pos : Pos} {Q : Value → Shared → Prop}
    (F : Fr h₀ L s.heap m) (N : News h₀ L s.heap news) (hlim : h₀.NoLimit)
    (hQ : ∀ h' tk o kvs, Fr h₀ L h' m → News h₀ L h' ((s.heap.objs.size, o) :: news) → o.IsDictOf (intKind prog w) kvs → kvs.length = 1 → (s.heap.objs.size == sysModules) = false → s.toks ≤ tk → Q (.ref s.heap.objs.size) { s with heap := h', toks := tk }) :
    wpAny (model prog w) A (eval (.Dict [some (.Constant (.int i) n1 p1)] [.Constant (.int j) n2 p2] pos) env) Q E s := by
  have hpl := pairTrees_length [some (.Constant (.int i) n1 p1)] [.Constant (.int j) n2 p2] env pos rfl rfl
  have hz := zip_pairTrees [some (.Constant (.int i) n1 p1)] [.Constant (.int j) n2 p2] env pos rfl rfl
  refine wpAny_Dict_pairs (knd := intKind prog w) hz (by intro h; rw [h] at hpl; cases hpl) (by rw [hpl]; exact Nat.le_of_ble_eq_true rfl) ?_
  refine pairTrees_cons_walk (wpAny_Constant_int (wpAny_Constant_int (pairTrees_nil_walk ?_)))
  refine ⟨[(i, .int j (s.toks + 1))], ⟨intKind_is prog w i _, rfl, trivial⟩, Heap.DictOf.new _, fun h' hd hs => ?_⟩
  obtain ⟨o, ho, hod⟩ := Heap.dictOf_iff.mp hd
  have hfr := fr_fresh F (a := s.heap.objs.size) (Nat.le_refl _)
  have szn : ∀ q ∈ news, q.1 < s.heap.objs.size := fun q hq => Heap.lt_size (N q hq).1
  have kp : ∀ b o, b ≠ s.heap.objs.size → (s.heap.push { cls := .type "dict", data := .dict #[] }).get? b = some o → h'.get? b = some o := fun b o hb e => hs.extBut b o hb e
  refine hQ h' _ o _ (fr_but (F.push _) kp hfr.1 hfr.2) ?_ hod rfl (F.notModules (modules_low hlim)) (by show s.toks ≤ s.toks + 1 + 1 + 1; omega)
  intro q hq
  rcases List.mem_cons.mp hq with rfl | hq
  · exact ⟨ho, hfr⟩
  · exact ⟨kp _ _ (Nat.ne_of_lt (szn q hq)) (Heap.get?_push_of_some _ (N q hq).1), (N q hq).2⟩
end
end Mine
end

section
open PySem PySem.W PyProof.Rows PyProof.V PySem.Calls
set_option maxRecDepth 100000
namespace Mine
theorem TruthAt.mono {prog : Program} {w : World} {news nx : List (Addr × Obj)} {v : Value} {b : Bool} (h : TruthAt prog w news v b) (hs : ∀ q ∈ news, q ∈ nx) : TruthAt prog w nx v b :=
  fun A h₀ L m s Q E F N hl k => h A h₀ L m s Q E F (news_sub N hs) hl k

/-- a thing of a display: its expression, what it says in an if -/
inductive Thing : Expr → Bool → Prop
  | bool {b : Bool} {n : Nat} {p : Pos} : Thing (.Constant (.bool b) n p) b
  | int {i : Int} {n : Nat} {p : Pos} : Thing (.Constant (.int i) n p) (i != 0)
  | str {x : Str} {n : Nat} {p : Pos} (hx : x.length ≤ 1000000) : Thing (.Constant (.str x) n p) ((x.length : Int) != 0)
  | none {n : Nat} {p : Pos} : Thing (.Constant .none n p) false
  | neg {i : Int} {n : Nat} {p q : Pos} : Thing (.UnaryOp .USub (.Constant (.int i) n p) q) (-i != 0)
  | list0 {p : Pos} : Thing (.List [] p) false
  | list1 {i : Int} {n : Nat} {p q : Pos} : Thing (.List [.Constant (.int i) n p] q) true
  | tup0 {k : Nat} {p : Pos} : Thing (.Tuple [] k p) false
  | tup1 {i : Int} {n k : Nat} {p q : Pos} : Thing (.Tuple [.Constant (.int i) n p] k q) true
  | dict1 {i j : Int} {n1 n2 : Nat} {p1 p2 p : Pos} : Thing (.Dict [some (.Constant (.int i) n1 p1)] [.Constant (.int j) n2 p2] p) true

section
variable {prog : Program} {w : World} {A : Around} {env : Env} {h₀ : Heap} {L : Addr} {m : Str → Option Value}
theorem ev_thing {e : Expr} {b : Bool} (ht : Thing e b) {s : Shared} {news : List (Addr × Obj)} {Q E : Value → Shared → Prop} (F : Fr h₀ L s.heap m) (N : News h₀ L s.heap news) (hlim : h₀.NoLimit)
    (hQ : ∀ v h' tk nx, Fr h₀ L h' m → News h₀ L h' nx → (∀ q ∈ news, q ∈ nx) → TruthAt prog w nx v b → Q v { s with heap := h', toks := tk }) :
    wpAny (model prog w) A (eval e env) Q E s := by
  cases ht with
  | bool => exact wpAny_Constant_bool (hQ _ s.heap s.toks news F N (fun _ h => h) (fun _ _ _ _ _ _ _ _ _ _ h => wpAny_truthy_bool (h _ (Nat.le_refl _))))
  | int => exact wpAny_Constant_int (hQ _ s.heap (s.toks + 1) news F N (fun _ h => h) truthAt_int)
  | str hx => exact wpAny_Constant_str (hQ _ s.heap (s.toks + 1) news F N (fun _ h => h) (truthAt_str hx))
  | none => exact Constant_none (hQ _ s.heap s.toks news F N (fun _ h => h) truthAt_none)
  | neg => exact UnaryOp_ (wpAny_Constant_int (P.neg_int (hQ _ s.heap (s.toks + 1 + 1) news F N (fun _ h => h) truthAt_int)))
  | list0 => exact List_ (spliced_none (newList_N F N (fun h' F' N' => hQ _ h' s.toks _ F' N' (fun _ h => .tail _ h) (truthAt_list (vs := []) (.head _) (Nat.zero_le _))) (Nat.le_of_ble_eq_true rfl)))
  | list1 =>
    refine List_ (spliced_more (wpAny_Constant_int (spliced_none ?_)) rfl)
    exact newList_N (s := { s with toks := s.toks + 1 }) F N (fun h' F' N' => hQ _ h' (s.toks + 1) _ F' N' (fun _ h => .tail _ h) (truthAt_list (vs := [_]) (.head _) (Nat.le_of_ble_eq_true rfl))) (Nat.le_of_ble_eq_true rfl)
  | tup0 => exact Tuple_ (spliced_none (newTuple_N F N (fun h' F' N' => hQ _ h' s.toks _ F' N' (fun _ h => .tail _ h) (truthAt_tup (vs := []) (.head _) (Nat.zero_le _))) (Nat.le_of_ble_eq_true rfl)))
  | tup1 =>
    refine Tuple_ (spliced_more (wpAny_Constant_int (spliced_none ?_)) rfl)
    exact newTuple_N (s := { s with toks := s.toks + 1 }) F N (fun h' F' N' => hQ _ h' (s.toks + 1) _ F' N' (fun _ h => .tail _ h) (truthAt_tup (vs := [_]) (.head _) (Nat.le_of_ble_eq_true rfl))) (Nat.le_of_ble_eq_true rfl)
  | dict1 =>
    exact ev_dict_int1 F N hlim fun h' tk o kvs F' N' ho hk lo _ => hQ _ h' tk _ F' N' (fun _ h => .tail _ h) (by
      have := truthAt_dict (prog := prog) (w := w) (news := (s.heap.objs.size, o) :: news) (.head _) ho lo (by omega)
      cases kvs with
      | nil => simp at hk
      | cons a r => exact this)

inductive Things : List Expr → List Bool → Prop
  | nil : Things [] []
  | cons {e : Expr} {b : Bool} {es : List Expr} {bs : List Bool} (h : Thing e b) (hr : Things es bs) : Things (e :: es) (b :: bs)
theorem Thing.star {e : Expr} {b : Bool} (h : Thing e b) (es : List Expr) (env : Env) : starEach (e :: es) env = (false, eval e env) :: starEach es env := by cases h <;> rfl

theorem ev_things {es : List Expr} {bs : List Bool} (ht : Things es bs) {pos : Pos} (hlim : h₀.NoLimit) : ∀ {s : Shared} {news : List (Addr × Obj)} {Q : List Value → Shared → Prop} {E : Value → Shared → Prop}, Fr h₀ L s.heap m → News h₀ L s.heap news →
    (∀ vs h' tk nx, Fr h₀ L h' m → News h₀ L h' nx → (∀ q ∈ news, q ∈ nx) → vs.length = bs.length → (∀ (k : Nat) (v : Value) (b : Bool), vs[k]? = some v → bs[k]? = some b → TruthAt prog w nx v b) → Q vs { s with heap := h', toks := tk }) →
    wpAny (model prog w) A (spliced (backTo pos (starEach es env))) Q E s := by
  induction ht with
  | nil => intro s news Q E F N hQ; exact spliced_none (hQ [] s.heap s.toks news F N (fun _ h => h) rfl (fun k v b h => by simp at h))
  | cons h _ ih =>
    intro s news Q E F N hQ
    refine spliced_more (ev_thing h F N hlim fun v h' tk nx F' N' hs hT => ?_) (h.star _ _)
    refine ih F' N' fun vs h'' tk' nx' F'' N'' hs' hl hT' => ?_
    refine hQ (v :: vs) h'' tk' nx' F'' N'' (fun q hq => hs' q (hs q hq)) (by simp [hl]) fun k v' b' hv hb => ?_
    cases k with
    | zero => simp at hv hb; subst hv; subst hb; exact hT.mono hs'
    | succ k => exact hT' k v' b' (by simpa using hv) (by simpa using hb)

/-- a list display of things -/
theorem ev_thing_list {es : List Expr} {bs : List Bool} (ht : Things es bs) {pos : Pos} {s : Shared} {news : List (Addr × Obj)} {Q E : Value → Shared → Prop} (F : Fr h₀ L s.heap m) (N : News h₀ L s.heap news) (hlim : h₀.NoLimit) (hlen : bs.length ≤ 1000)
    (hQ : ∀ h' tk a vs nx, Fr h₀ L h' m → News h₀ L h' nx → (a, lstO vs) ∈ nx → (∀ q ∈ news, q ∈ nx) → vs.length = bs.length → (∀ (k : Nat) (v : Value) (b : Bool), vs[k]? = some v → bs[k]? = some b → TruthAt prog w nx v b) → Q (.ref a) { s with heap := h', toks := tk }) :
    wpAny (model prog w) A (eval (.List es pos) env) Q E s := by
  refine List_ (ev_things ht hlim F N fun vs h' tk nx F' N' hs hl hT => ?_)
  exact newList_N (s := { s with heap := h', toks := tk }) F' N' (fun h₂ F₂ N₂ => hQ h₂ tk _ vs _ F₂ N₂ (.head _) (fun q hq => .tail _ (hs q hq)) hl (fun k v b hv hb => (hT k v b hv hb).mono fun _ h => .tail _ h)) (by rw [sizeLine_eq]; omega)
end
end Mine
end

section
open PySem PySem.W PyProof.Rows PyProof.V PySem.Calls
set_option maxRecDepth 100000
namespace Mine
section
variable {prog : Program} {w : World} {A : Around} {E : Value → Shared → Prop}

/-- a dict comprehension's turns, the target a pair -/
theorem dcomp_loop {kx vx target iter : Expr} {scope : Scope} {pos : Pos} {it : Value} {D : Addr} {env : Env} {R : Result → Shared → Prop} {s : Shared} (I : Nat → Shared → Prop)
    (turn : ∀ n s, I n s → wpAny (model prog w) A (pyNext it) (fun r s₁ => match r with
      | none => R (.ok .next) s₁
      | some v => wpAny (model prog w) A (letOwnedTupleGo target it v) (fun _ s₀ => wpAny (model prog w) A (assign target env v) (fun _ s₃ =>
          wpAny (model prog w) A (eval kx env) (fun kv s₄ => wpAny (model prog w) A (eval vx env) (fun vv s₅ =>
              wpAny (model prog w) A (dictSet D kv vv) (fun _ s₆ => ∃ m, m < n ∧ I m s₆) (notedBy (model prog w) A env fun e s' => R (.error e) s') s₅) (notedBy (model prog w) A env fun e s' => R (.error e) s') s₄) (notedBy (model prog w) A env fun e s' => R (.error e) s') s₃)
            (notedBy (model prog w) A env fun e s' => R (.error e) s') s₀) (notedBy (model prog w) A env fun e s' => R (.error e) s') s₁) (notedBy (model prog w) A env fun e s' => R (.error e) s') s)
    (n : Nat) (h : I n s) :
    codeAny (model prog w) A (.compLoop (.DictComp kx vx [⟨target, iter, [], 0⟩] scope pos) 0 it (.ref D) env) R s := by
  refine codeAny_loop rfl I (fun n s hI => ?_) n h
  show wpAny _ A ((compTurn (.DictComp kx vx [⟨target, iter, [], 0⟩] scope pos) 0 it (.ref D) env).onRaise (fun x => do noteFrame x env; theTreesLotGoes x)) _ _ s
  refine wpAny_noted ?_
  rw [compTurn_dict]
  refine wpAny_bind (wpAny_standAt (wpAny_bind (wpAny_mono (turn n s hI) (fun r s₁ h₁ => ?_) fun _ _ h' => h')))
  cases r with
  | none => exact wpAny_pure h₁
  | some v =>
    refine wpAny_bind (wpAny_mono h₁ (fun _ s₀ h₀ => ?_) fun _ _ h' => h')
    refine wpAny_bind (wpAny_mono h₀ (fun _ s₃ h₃ => ?_) fun _ _ h' => h')
    refine wpAny_bind (wpAny_tests_nil ?_)
    exact wpAny_bind (wpAny_bind (wpAny_mono h₃ (fun kv s₄ h₄ => wpAny_bind (wpAny_holding (wpAny_mono h₄ (fun vv s₅ h₅ => wpAny_bind (wpAny_standAt (wpAny_holding (wpAny_mono h₅ (fun _ s₆ h₆ => wpAny_pure ⟨rfl, h₆⟩) fun _ _ h' => h')))) fun _ _ h' => h'))) fun _ _ h' => h'))

variable {s : Shared} {h₀ : Heap} {L : Addr} {m : Str → Option Value} {env : Env} {news : List (Addr × Obj)} {scope : Scope} {cl : List (Str × Addr)} {Q : Value → Shared → Prop}

theorem fr_less {h₀ h h' : Heap} {L I : Addr} {m : Str → Option Value} (F : Fr h₀ L h m) (hs : Heap.SameBut I h h') (hI : I ≠ L ∧ h₀.get? I = none) : Fr h₀ L h' m := fr_but F (fun b o hb e => hs.extBut b o hb e) hI.1 hI.2

/-- {x1: x2 for x1, x2 in xl}: xl a list of pairs of texts -/
theorem comp_dict_pairs {iter : Expr} {x1 x2 : Str} {p1 p2 pt pos q1 q2 : Pos} {kk : Nat} {B : Addr} {es : List (Addr × Ln)} (hh : A.handled = none) (F : Fr h₀ L s.heap m) (N : News h₀ L s.heap news)
    (hB : ListAt h₀ news B (es.map fun e => Value.ref e.1)) (hes : ∀ e ∈ es, (e.1, tupO [.str e.2.1 e.2.2.1, .str e.2.2.2.1 e.2.2.2.2]) ∈ news) (hlen : es.length ≤ 1000) (hn : ((es.map (·.2)).map (·.1)).Nodup) (hlim : h₀.NoLimit)
    (hcl : closureFor scope env = pure cl) (hcell : ∀ y ∈ scope.names, y.2 ≠ .cell) (hk : scope.kind = .function) (hloc : ∀ y ∈ scope.names, y.2 = .local → scope.names.lookup y.1 = some .local) (hx1 : scope.names.lookup x1 = some .local) (hx2 : scope.names.lookup x2 = some .local)
    (hne : x1 ≠ x2) (hd1 : (x1 == ("__debug__" : Str)) = false) (hd2 : (x2 == ("__debug__" : Str)) = false)
    (hs : ∀ x, foldedSetIterable iter env x = pure x)
    (hit : ∀ Q : Value → Shared → Prop, Q (.ref B) s → wpAny (model prog w) A (eval iter env) Q E s)
    (fin : ∀ D h' tk, Fr h₀ L h' m → News h₀ L h' ((D, dObj w (es.map (·.2)) es.length) :: news) → (∀ q ∈ news, q.1 ≠ D) → (D == sysModules) = false → Q (.ref D) { s with heap := h', toks := tk }) :
    wpAny (model prog w) A (eval (.DictComp (.Name x1 q1) (.Name x2 q2) [⟨.Tuple [.Name x1 p1, .Name x2 p2] kk pt, iter, [], 0⟩] scope pos) env) Q E s := by
  rw [arm_eval_DictComp]
  have hls : s.heap.IsList B (es.map fun e => Value.ref e.1).toArray := hB.at F N
  refine wpAny_comprehension_free (use := none) rfl hs hcl hk hloc (hit _ (wpAny_pyIter_list hls ?_))
  have FI := F.push { cls := .type "list_iterator", data := .fields #[.ref B, .int 0 0] }
  have hI : (s.heap.push { cls := .type "list_iterator", data := .fields #[.ref B, .int 0 0] }).IsListIter s.heap.objs.size B 0 := ⟨_, Heap.get?_push_size s.heap (o := { cls := .type "list_iterator", data := .fields #[.ref B, .int 0 0] }) rfl, rfl, rfl⟩
  have NI : News h₀ L (s.heap.push { cls := .type "list_iterator", data := .fields #[.ref B, .int 0 0] }) news := fun q hq => ⟨Heap.get?_push_of_some _ (N q hq).1, (N q hq).2⟩
  have zI : (s.heap.push { cls := .type "list_iterator", data := .fields #[.ref B, .int 0 0] }).objs.size = s.heap.objs.size + 1 := Heap.size_push ..
  generalize hHI : s.heap.push { cls := .type "list_iterator", data := .fields #[.ref B, .int 0 0] } = HI at FI hI NI zI ⊢
  refine wpAny_newObj_type (wpAny_newFunctionEnv hcell (by intro y hy; simp at hy) (fun h₁ hns₁ hsb₁ => ?_) hk)
  dsimp only at hns₁ hsb₁ ⊢
  have FD := FI.push { cls := .type "dict", dict := none, data := .dict #[] }
  have hDg := Heap.get?_push_size HI (o := { cls := .type "dict", dict := none, data := .dict #[] }) rfl
  have hI2 : (HI.push { cls := .type "dict", dict := none, data := .dict #[] }).IsListIter s.heap.objs.size B 0 := hI.at fun o e => Heap.get?_push_of_some _ e
  have ND : News h₀ L (HI.push { cls := .type "dict", dict := none, data := .dict #[] }) news := fun q hq => ⟨Heap.get?_push_of_some _ (NI q hq).1, (NI q hq).2⟩
  have zD : (HI.push { cls := .type "dict", dict := none, data := .dict #[] }).objs.size = s.heap.objs.size + 2 := by rw [Heap.size_push, zI]
  rw [zI] at hDg ⊢
  generalize hHD : HI.push { cls := .type "dict", dict := none, data := .dict #[] } = HD at FD hDg hI2 ND zD hns₁ hsb₁ ⊢
  rw [zD] at hns₁ hsb₁ ⊢
  have keep₁ : ∀ b o, b < s.heap.objs.size + 2 → HD.get? b = some o → h₁.get? b = some o := fun b o hb e => hsb₁.extBut b o (Nat.ne_of_lt hb) (Heap.get?_push_of_some _ e)
  have szL := F.ns.lt
  have szn : ∀ q ∈ news, q.1 < s.heap.objs.size := fun q hq => Heap.lt_size (N q hq).1
  have F₁ : Fr h₀ L h₁ m := fr_but FD (fun b o hb e => keep₁ b o (by have := Heap.lt_size e; rw [zD] at this; exact this) e) (fr_fresh F (a := s.heap.objs.size + 2) (by omega)).1 (fr_fresh F (a := s.heap.objs.size + 2) (by omega)).2
  have N₁ : News h₀ L h₁ news := fun q hq => ⟨keep₁ _ _ (Nat.lt_trans (szn q hq) (by omega)) (ND q hq).1, (ND q hq).2⟩
  have freshI := fr_fresh F (a := s.heap.objs.size) (Nat.le_refl _)
  have freshD := fr_fresh F (a := s.heap.objs.size + 1) (by omega)
  have freshC := fr_fresh F (a := s.heap.objs.size + 2) (by omega)
  have nI : ∀ q ∈ news, q.1 ≠ s.heap.objs.size := fun q hq => Nat.ne_of_lt (szn q hq)
  have nD : ∀ q ∈ news, q.1 ≠ s.heap.objs.size + 1 := fun q hq => Nat.ne_of_lt (Nat.lt_trans (szn q hq) (by omega))
  have nC : ∀ q ∈ news, q.1 ≠ s.heap.objs.size + 2 := fun q hq => Nat.ne_of_lt (Nat.lt_trans (szn q hq) (by omega))
  have loD : (s.heap.objs.size + 1 == sysModules) = false := beq_eq_false_iff_ne.mpr (Nat.ne_of_gt (Nat.lt_of_lt_of_le (modules_low hlim) (Nat.le_trans F.above (Nat.le_of_lt (Nat.lt_trans szL (Nat.lt_succ_self _))))))
  generalize s.heap.objs.size = Z at *
  have e20 : (Z + 2 : Nat) ≠ Z := by omega
  have e02 : (Z : Nat) ≠ Z + 2 := by omega
  have e12 : (Z + 1 : Nat) ≠ Z + 2 := by omega
  have e21 : (Z + 2 : Nat) ≠ Z + 1 := by omega
  have e10 : (Z + 1 : Nat) ≠ Z := by omega
  have e01 : (Z : Nat) ≠ Z + 1 := by omega
  let cenv := compEnvC scope cl (Z + 2) env
  have hkx1 : cenv.kindOf x1 = some .local := lookup_relabel_local hx1
  have hkx2 : cenv.kindOf x2 = some .local := lookup_relabel_local hx2
  have hfk : cenv.scope.kind = .function := by simp [cenv, compEnvC, relabel, hk]
  have hpk : (cenv.scope.kind == .class || (cenv.scope.kind == .module && cenv.locals != cenv.globals)) = false := by simp [cenv, compEnvC, relabel, hk]
  have loop : ∀ s₃ : Shared, s₃ = { s with heap := h₁, toks := s.toks + ([] : List (Str × Value)).length } →
      codeAny (model prog w) A (.compLoop (.DictComp (.Name x1 q1) (.Name x2 q2) [⟨.Tuple [.Name x1 p1, .Name x2 p2] kk pt, iter, [], 0⟩] scope pos) 0 (.ref Z) (.ref (Z + 1)) cenv) (compPost (model prog w) A E none Q (.ref (Z + 1)) (Z + 2)) s₃ := by
    rintro s₃ rfl
    refine dcomp_loop (fun k s' => ∃ i h' tk m', s' = { s with heap := h', toks := tk } ∧ i ≤ es.length ∧ k = es.length + 1 - i ∧ h'.IsListIter Z B i ∧ h'.Ns (Z + 2) m' ∧
      h'.get? (Z + 1) = some (dObj w ((es.take i).map (·.2)) i) ∧ Fr h₀ L h' m ∧ News h₀ L h' news) ?_ (es.length + 1)
      ⟨0, h₁, _, _, rfl, Nat.zero_le _, rfl, hI2.at fun o e => keep₁ _ _ (by omega) e, hns₁, by simpa [dObj] using keep₁ _ _ (by omega) hDg, F₁, N₁⟩
    rintro k s' ⟨i, h', tk, m', rfl, hi, rfl, hit', hns', hD', F', N'⟩
    have hls' : h'.IsList B (es.map fun e => Value.ref e.1).toArray := hB.at F' N'
    by_cases hlt : i < es.length
    · have hle : es[i]? = some es[i] := by simp [hlt]
      have hmem : es[i] ∈ es := List.getElem_mem hlt
      refine wpAny_pyNext_list_item (x := .ref es[i].1) hit' hls' (by simp [hlt]) fun h₂ hit₂ hs₂ => ?_
      have k₂ : ∀ b o, b ≠ Z → h'.get? b = some o → h₂.get? b = some o := fun b o hb e => hs₂.extBut b o hb e
      have hns₂ := hns'.sameBut hs₂ e20
      have F₂ : Fr h₀ L h₂ m := fr_but F' k₂ freshI.1 freshI.2
      have N₂ : News h₀ L h₂ news := news_but N' k₂ nI
      have hT₂ : h₂.IsTuple es[i].1 #[.str es[i].2.1 es[i].2.2.1, .str es[i].2.2.2.1 es[i].2.2.2.2] := ⟨_, (N₂ _ (hes _ hmem)).1, rfl, _, rfl⟩
      refine wpAny_letOwnedTupleGo_listiter (s := { s with heap := h₂, toks := tk }) hit₂ ?_
      have hD₂ := k₂ _ _ e10 hD'
      refine kcp_assign (s := { s with heap := h₂, toks := tk }) hh hT₂ hkx1 hkx2 hpk hns₂ fun h₃ tk₃ hns₃ k₃ => ?_
      have F₃ : Fr h₀ L h₃ m := fr_but F₂ k₃ freshC.1 freshC.2
      have N₃ : News h₀ L h₃ news := news_but N₂ k₃ nC
      have hD₃ := k₃ _ _ e12 hD₂
      refine wpAny_Name (wpAny_loadName_local (s := { s with heap := h₃, toks := tk₃ }) (v := .str es[i].2.1 es[i].2.2.1) hfk hkx1 hns₃ (by simp [hne]) ?_) hd1
      refine wpAny_Name (wpAny_loadName_local (s := { s with heap := h₃, toks := tk₃ }) (v := .str es[i].2.2.2.1 es[i].2.2.2.2) hfk hkx2 hns₃ (by simp) ?_) hd2
      have htk : (es.take (i + 1)).map (·.2) = (es.take i).map (·.2) ++ [es[i].2] := by rw [List.take_add_one, hle, List.map_append]; rfl
      refine dictSet_new (s := { s with heap := h₃, toks := tk₃ }) (k := es[i].2.1) (t := es[i].2.2.1) (v := es[i].2.2.2.1) (u := es[i].2.2.2.2) hD₃ ?_ (by rw [sizeLine_eq, List.length_map, List.length_take]; omega) fun h₆ hD₆ hs₆ => ?_
      · have hsub : (((es.take (i + 1)).map (·.2)).map (·.1)).Nodup := by
          rw [List.map_take, List.map_take]
          exact hn.sublist (List.take_sublist ..)
        rw [htk, List.map_append, List.nodup_append] at hsub
        intro hin
        exact hsub.2.2 _ hin _ (by simp) rfl
      · have k₆ : ∀ b o, b ≠ Z + 1 → h₃.get? b = some o → h₆.get? b = some o := fun b o hb e => hs₆.extBut b o hb e
        exact ⟨_, by omega, i + 1, h₆, _, _, rfl, hlt, rfl, hit₂.at fun o e => k₆ _ _ e01 (k₃ _ _ e02 e), hns₃.sameBut hs₆ e21, by rw [htk]; exact hD₆, fr_but F₃ k₆ freshD.1 freshD.2, news_but N₃ k₆ nD⟩
    · have hin : i = es.length := by omega
      subst hin
      refine wpAny_pyNext_list_end hh hit' hls' (by simp) fun h₂ hs₂ => ?_
      refine ⟨m', hns'.extBut hs₂ e20, fun h₃ hs₃ => ?_⟩
      have k₂ : ∀ b o, b ≠ Z → h'.get? b = some o → h₂.get? b = some o := fun b o hb e => hs₂ b o hb e
      have k₃ : ∀ b o, b ≠ Z + 2 → h₂.get? b = some o → h₃.get? b = some o := fun b o hb e => hs₃.extBut b o hb e
      refine fin (Z + 1) h₃ tk (fr_but (fr_but F' k₂ freshI.1 freshI.2) k₃ freshC.1 freshC.2) ?_ nD loD
      intro q hq
      rcases List.mem_cons.mp hq with rfl | hq
      · rw [List.take_length] at hD'
        exact ⟨k₃ _ _ e12 (k₂ _ _ e10 hD'), freshD⟩
      · exact news_but (news_but N' k₂ nI) k₃ nC q hq
  have hKI : h₁.IsListIter Z B 0 := hI2.at fun o e => keep₁ _ _ (by omega) e
  exact codeAny_compStart_dict (loop _ rfl) (wpAny_pyIter_listiter hKI (loop _ rfl))
end
end Mine
end

section
open PySem PySem.W PyProof.Rows PyProof.V PySem.Calls
set_option maxRecDepth 100000
namespace Mine

/-- what a frame's map knows -/
def Kn (l : List (Str × Value)) (m : Str → Option Value) : Prop := ∀ p ∈ l, m p.1 = some p.2
theorem Kn.nil {m : Str → Option Value} : Kn [] m := fun _ h => nomatch h
theorem Kn.cons {l : List (Str × Value)} {m : Str → Option Value} {x : Str} {v : Value} (h : m x = some v) (k : Kn l m) : Kn ((x, v) :: l) m := by
  intro p hp
  rcases List.mem_cons.mp hp with rfl | hp
  · exact h
  · exact k p hp
theorem Kn.get {l : List (Str × Value)} {m : Str → Option Value} (k : Kn l m) (i : Nat) {x : Str} {v : Value} (h : l[i]? = some (x, v) := by rfl) : m x = some v := k (x, v) (List.mem_of_getElem? h)
theorem Kn.put {l : List (Str × Value)} {m : Str → Option Value} (k : Kn l m) {x : Str} {v : Value} (hx : (l.map (·.1)).contains x = false) : Kn l (upd m x v) := by
  intro p hp
  refine (upd_ne ?_).trans (k p hp)
  intro e
  have : (l.map (·.1)).contains x = true := by
    rw [List.contains_iff_mem]
    exact List.mem_map.mpr ⟨p, hp, e⟩
  rw [hx] at this; cases this
theorem Kn.add {l : List (Str × Value)} {m : Str → Option Value} (k : Kn l m) {x : Str} {v : Value} (hx : (l.map (·.1)).contains x = false) : Kn ((x, v) :: l) (upd m x v) := (k.put hx).cons (upd_at ..)
theorem Kn.sub {l l' : List (Str × Value)} {m : Str → Option Value} (k : Kn l m) (hs : ∀ p ∈ l', p ∈ l) : Kn l' m := fun p hp => k p (hs p hp)
theorem Kn.tail {l : List (Str × Value)} {m : Str → Option Value} {p : Str × Value} (k : Kn (p :: l) m) : Kn l m := fun q hq => k q (.tail _ hq)

theorem beq_str (a b : Str) : (a.cps.toList == b.cps.toList) = (a == b) := by
  rw [Bool.eq_iff_iff, beq_iff_eq, beq_iff_eq]
  constructor
  · intro h
    have := congrArg List.toArray h
    simp at this
    cases a; cases b; simp at this; exact congrArg Str.mk this
  · rintro rfl; rfl

/-- a pair of texts that stands -/
abbrev PEnt := Addr × Ln
def pentO (e : PEnt) : Obj := tupO [.str e.2.1 e.2.2.1, .str e.2.2.2.1 e.2.2.2.2]
def pentKV (e : PEnt) : Str × Str := (e.2.1, e.2.2.2.1)
theorem pent_tup {h₀ h : Heap} {L : Addr} {news : List (Addr × Obj)} {e : PEnt} (N : News h₀ L h news) (he : (e.1, pentO e) ∈ news) : IsTup h e.1 #[.str e.2.1 e.2.2.1, .str e.2.2.2.1 e.2.2.2.2] := ⟨_, (N _ he).1, rfl, _, rfl⟩

inductive PPairs : List Expr → List (Str × Str) → Prop
  | nil : PPairs [] []
  | cons {k v : Str} {n1 n2 kk : Nat} {p1 p2 p : Pos} {es : List Expr} {r : List (Str × Str)} (hr : PPairs es r) : PPairs (.Tuple [.Constant (.str k) n1 p1, .Constant (.str v) n2 p2] kk p :: es) ((k, v) :: r)

section
variable {prog : Program} {w : World} {M : Model} {A : Around} {s : Shared} {h₀ : Heap} {L a : Addr} {m : Str → Option Value} {env : Env}
  {cn : Str} {cs : Scope} {ccd : Value} {cl : List (Str × Addr)} {news : List (Addr × Obj)}

theorem spliced_pairs {es : List Expr} {r : List (Str × Str)} (hp : PPairs es r) {pos : Pos} : ∀ {s : Shared} {news : List (Addr × Obj)} {Q : List Value → Shared → Prop} {E : Value → Shared → Prop}, Fr h₀ L s.heap m → News h₀ L s.heap news → 1 ≤ s.toks →
    (∀ (ps : List PEnt) h' tk nx, Fr h₀ L h' m → News h₀ L h' nx → (∀ q ∈ news, q ∈ nx) → (∀ e ∈ ps, (e.1, pentO e) ∈ nx ∧ LnOk e.2) → ps.map pentKV = r → s.toks ≤ tk → Q (ps.map fun e => Value.ref e.1) { s with heap := h', toks := tk }) →
    wpAny M A (spliced (backTo pos (starEach es env))) Q E s := by
  induction hp with
  | nil => intro s news Q E F N _ hQ; exact spliced_none (hQ [] s.heap s.toks news F N (fun _ h => h) (fun _ h => nomatch h) rfl (Nat.le_refl _))
  | cons _ ih =>
    rename_i k v n1 n2 kk p1 p2 p es r _
    intro s news Q E F N h1 hQ
    refine spliced_more (Tuple_ (spliced_more (Constant_str (spliced_more (Constant_str (spliced_none ?_)) rfl)) rfl)) rfl
    refine newTuple_N (s := { s with toks := s.toks + 1 + 1 }) F N (fun h' F' N' => ?_) (Nat.le_of_ble_eq_true rfl)
    refine ih (s := { s with heap := h', toks := s.toks + 1 + 1 }) F' N' (Nat.le_trans h1 (Nat.le_add_right s.toks 2)) fun ps h'' tk nx F'' N'' hs he hr htk => ?_
    refine hQ ((s.heap.objs.size, k, s.toks, v, s.toks + 1) :: ps) h'' tk nx F'' N'' (fun q hq => hs q (.tail _ hq)) ?_ ?_ (Nat.le_trans (Nat.le_add_right s.toks 2) htk)
    · intro e hx
      rcases List.mem_cons.mp hx with rfl | hx
      · exact ⟨hs _ (.head _), Nat.pos_iff_ne_zero.mp h1, Nat.succ_ne_zero _, Nat.ne_of_lt (Nat.lt_succ_self _)⟩
      · exact he e hx
    · rw [List.map_cons, hr]; rfl

/-- a display of pairs of texts -/
theorem ev_pairs {es : List Expr} {r : List (Str × Str)} (hp : PPairs es r) {pos : Pos} {Q E : Value → Shared → Prop} (F : Fr h₀ L s.heap m) (N : News h₀ L s.heap news) (h1 : 1 ≤ s.toks) (hl : r.length ≤ 1000)
    (hQ : ∀ a (ps : List PEnt) h' tk nx, Fr h₀ L h' m → News h₀ L h' nx → (a, lstO (ps.map fun e => Value.ref e.1)) ∈ nx → (∀ q ∈ news, q ∈ nx) → (∀ e ∈ ps, (e.1, pentO e) ∈ nx ∧ LnOk e.2) → ps.map pentKV = r → s.toks ≤ tk → Q (.ref a) { s with heap := h', toks := tk }) :
    wpAny M A (eval (.List es pos) env) Q E s := by
  refine List_ (spliced_pairs hp F N h1 fun ps h' tk nx F' N' hs he hr htk => ?_)
  refine newList_N (s := { s with heap := h', toks := tk }) F' N' (fun h₂ F₂ N₂ => hQ _ ps h₂ tk _ F₂ N₂ (.head _) (fun q hq => .tail _ (hs q hq)) (fun e hx => ⟨.tail _ (he e hx).1, (he e hx).2⟩) hr htk) ?_
  have : ps.length = r.length := by rw [← hr, List.length_map]
  rw [List.length_map, this, sizeLine_eq]; omega

/-- x = value, and what follows; the state flat -/
theorem letf {s₀ : Shared} {hp : Heap} {tk : Tok} {x : Str} {px pos : Pos} {value : Expr} {rest : List Stmt} {Q : Flow → Shared → Prop} {E : Value → Shared → Prop}
    (h : wpAny M A (eval value (envX cn cs L a ccd cl)) (fun v s₁ => ∃ m news h₁ tk₁, s₁ = { s₀ with heap := h₁, toks := tk₁ } ∧ Fr h₀ L h₁ m ∧ News h₀ L h₁ news ∧ ∀ h' tk', 1 ≤ tk' → Fr h₀ L h' (upd m x v) → News h₀ L h' news →
      wpAny M A (execs rest (envX cn cs L a ccd cl)) Q E { s₀ with heap := h', toks := tk' }) E { s₀ with heap := hp, toks := tk })
    (hs : swapsWith value (some (.Name x px)) pos.line (envX cn cs L a ccd cl) = pure false := by rfl)
    (hk : cs.kind = .function := by rfl) (hx : (envX cn cs L a ccd cl).kindOf x = some .local := by kernel_rfl) :
    wpAny M A (execs (.Assign [.Name x px] value pos :: rest) (envX cn cs L a ccd cl)) Q E { s₀ with heap := hp, toks := tk } := by
  refine seq_let (h₀ := h₀) hs hk hx (wpAny_mono h ?_ fun _ _ x => x)
  rintro v s₁ ⟨m, news, h₁, tk₁, rfl, F, N, k⟩
  exact ⟨m, news, F, N, fun h' F' N' => k h' (tk₁ + 1) (Nat.le_add_left _ _) F' N'⟩

/-- an if whose test says no -/
theorem if_nof {s₀ : Shared} {hp : Heap} {tk : Tok} {test : Expr} {body : List Stmt} {pos : Pos} {rest : List Stmt} {Q : Flow → Shared → Prop} {E : Value → Shared → Prop}
    (h : wpAny M A (PySem.isTrue test env (eval test env)) (fun b s₂ => b = false ∧ ∃ h₁ tk₁, s₂ = { s₀ with heap := h₁, toks := tk₁ } ∧ wpAny M A (execs rest env) Q E { s₀ with heap := h₁, toks := tk₁ }) E { s₀ with heap := hp, toks := tk }) :
    wpAny M A (execs (.If test body [] pos :: rest) env) Q E { s₀ with heap := hp, toks := tk } := by
  refine seq_if (wpAny_mono h ?_ fun _ _ x => x)
  rintro b s₂ ⟨rfl, h₁, tk₁, rfl, k⟩
  rw [if_neg Bool.false_ne_true]
  exact wpAny_execs_nil k

/-- for TARGET in ITER: a list; no turn leaves the loop early -/
theorem for_list_e {s₀ : Shared} {hp : Heap} {tk : Tok} {target iter : Expr} {pos : Pos} {body rest : List Stmt} {Q : Flow → Shared → Prop}
    (hh : A.handled = none) (F : Fr h₀ L hp m) (hs : ∀ v, foldedSetIterable iter (envX cn cs L a ccd cl) v = pure v)
    (h : wpAny (model prog w) A (eval iter (envX cn cs L a ccd cl)) (fun v s₁ => ∃ (J : Nat → (Str → Option Value) → List (Addr × Obj) → Prop) (l : Addr) (vs : List Value) (m₁ : Str → Option Value) (news₁ : List (Addr × Obj)) (h₁ : Heap) (tk₁ : Tok), v = .ref l ∧ s₁ = { s₀ with heap := h₁, toks := tk₁ } ∧ Fr h₀ L h₁ m₁ ∧ News h₀ L h₁ news₁ ∧ ListAt h₀ news₁ l vs ∧ J 0 m₁ news₁ ∧
      (∀ i v m₁ news₁ h₁ tk₁ own I, vs[i]? = some v → J i m₁ news₁ → (∀ p ∈ news₁, p.1 ≠ I) → (∀ p ∈ own, p.1 = I ∨ p.1 = l) → Fr h₀ L h₁ m₁ → News h₀ L h₁ (own ++ news₁) →
        wpAny (model prog w) A (assign target (envX cn cs L a ccd cl) v) (fun _ s₂ => wpAny (model prog w) A (execs body (envX cn cs L a ccd cl))
          (fun fl s₃ => fl = .next ∧ ∃ h' tk m' news', s₃ = { s₀ with heap := h', toks := tk } ∧ Fr h₀ L h' m' ∧ News h₀ L h' (own ++ news') ∧ (∀ p ∈ news', p.1 ≠ I) ∧ J (i + 1) m' news') (fun _ _ => False) s₂) (fun _ _ => False) { s₀ with heap := h₁, toks := tk₁ }) ∧
      (∀ h' tk' m' news', Fr h₀ L h' m' → News h₀ L h' news' → J vs.length m' news' → tk ≤ tk' → wpAny (model prog w) A (execs rest (envX cn cs L a ccd cl)) Q (fun _ _ => False) { s₀ with heap := h', toks := tk' })) (fun _ _ => False) { s₀ with heap := hp, toks := tk }) :
    wpAny (model prog w) A (execs (.For target iter body [] pos :: rest) (envX cn cs L a ccd cl)) Q (fun _ _ => False) { s₀ with heap := hp, toks := tk } := by
  refine wpAny_execs_cons (toksQ ?_)
  refine For_turns (s := { s₀ with heap := hp, toks := tk }) (h₀ := h₀) (m := m) F ?_ hs PassesOwn.never
  refine wpAny_mono h ?_ (fun _ _ x => x)
  rintro v s₁ ⟨J, l, vs, m₁, news₁, h₁, tk₁, rfl, rfl, F₁, N₁, hl, h0, step, done⟩
  refine iter_list (s := { s₀ with heap := h₁, toks := tk₁ }) J hh F₁ N₁ hl h0 ?_ (fun h' tk m' news' F' N' hJ => ?_)
  · intro i v m₁ news₁ h₁ tk₁ own I hv hJ hoff hown F₁ N₁
    refine wpAny_mono (step i v m₁ news₁ h₁ tk₁ own I hv hJ hoff hown F₁ N₁) ?_ (fun _ _ x => x)
    intro _ s₂ h₂
    refine wpAny_mono h₂ ?_ (fun _ _ x => x)
    rintro fl s₃ ⟨rfl, h₃, tk₃, m₃, news₃, rfl, F₃, N₃, hoff₃, hJ₃⟩
    exact .next ⟨rfl, h₃, tk₃, m₃, news₃, rfl, F₃, N₃, fun p hp hI => hoff₃ p hp (List.mem_singleton.mp hI), hJ₃⟩
  · exact fun htk => done h' tk m' news' F' N' hJ htk

/-- EXPR.replace(y, z), y and z written -/
theorem ev_replE {o : Expr} {y z : Str} {k1 k2 : Nat} {p2 p3 p4 p5 : Pos} {Q E : Value → Shared → Prop}
    (h : wpAny (model prog w) A (eval o env) (fun v s₁ => ∃ X t, v = .str X t ∧ 1 ≤ s₁.toks ∧ X.length + (X.length + 1) * z.length ≤ 16777216 ∧ ∀ t' k, 1 ≤ k → Q (.str (Txt.replace X y z) t') { s₁ with toks := k }) E s)
    (ho : attributeBase o (Str.ofString "replace") env (eval o env) = eval o env) (hp : (p2.endLine == p5.line) = true) (hyz : (y == z) = false) :
    wpAny (model prog w) A (eval (.Call (.Attribute o (Str.ofString "replace") p2) [.Constant (.str y) k1 p3, .Constant (.str z) k2 p4] [] p5) env) Q E s := by
  refine mcall (env := env) hp rfl ho (wpAny_mono h ?_ fun _ _ x => x)
  rintro v s₁ ⟨X, t, rfl, h1, hb, k⟩
  refine GM.replace ?_
  refine callWith_method1 (spliced_more (Calls.Constant_str (spliced_more (Calls.Constant_str (spliced_none ?_)) rfl)) rfl) rfl rfl
  refine toks_le (SC.replace ?_ ?_ ?_ hyz hb ?_)
  · show s₁.toks ≠ 0; omega
  · show s₁.toks + 1 ≠ 0; omega
  · exact Nat.ne_of_lt (Nat.lt_succ_self s₁.toks)
  · intro t' k' hk'
    exact k t' k' (by have : s₁.toks + 1 + 1 ≤ k' := hk'; omega)

/-- a def of the text's called with a keyword -/
theorem call_name_kw {K : Frag} {p : Program} {loose : List Str} {mean : ExcName → Option Value} {mg mb : Str → Option Value} {A₀ : Around} {base : Heap} {outer : List Env} {E : Value → Shared → Prop}
    {x : Str} {f : Addr} {e : Expr} {rest : List Expr} {kws : List Keyword} {px pos : Pos} {Q : Value → Shared → Prop}
    (S : Site K p loose mean mg mb A (envX cn cs L a ccd cl) A₀ base outer h₀ L) (F : Fr h₀ L s.heap m) (he : nsIn K mainGlobals x = some (some (.ref f))) (hkp : keepIn K (.ref f) = true)
    (hx : (envX cn cs L a ccd cl).kindOf x = some .globalImplicit) (hd : (x == ("__debug__" : Str)) = false)
    (hall : (backToKw pos (keywordEach kws (envX cn cs L a ccd cl))).all (·.1.isSome) = true)
    (h : wpAny (model prog w) A (spliced (backTo pos (starEach (e :: rest) (envX cn cs L a ccd cl)))) (fun vs s₁ => wpAny (model prog w) A (evalAll ((backToKw pos (keywordEach kws (envX cn cs L a ccd cl))).map (·.2)))
      (fun ks s₂ => K.In s₂.heap ∧ wpAny (model prog w) A (call (.ref f) vs (((backToKw pos (keywordEach kws (envX cn cs L a ccd cl))).filterMap (·.1)).zip ks)) Q E s₂) E s₁) E s)
    (hplain : ((backTo pos (starEach (e :: rest) (envX cn cs L a ccd cl))).any (·.1) || (backToKw pos (keywordEach kws (envX cn cs L a ccd cl))).any (·.1.isNone)) = false) (he1 : starEach (e :: rest) (envX cn cs L a ccd cl) = (false, eval e (envX cn cs L a ccd cl)) :: starEach rest (envX cn cs L a ccd cl)) :
    wpAny (model prog w) A (eval (.Call (.Name x px) (e :: rest) kws pos) (envX cn cs L a ccd cl)) Q E s := by
  have hev : eval (.Call (.Name x px) (e :: rest) kws pos) (envX cn cs L a ccd cl) = (do callWith pos (← eval (.Name x px) (envX cn cs L a ccd cl)) [] (backTo pos (starEach (e :: rest) (envX cn cs L a ccd cl))) (backToKw pos (keywordEach kws (envX cn cs L a ccd cl)))) := rfl
  rw [hev]
  refine wpAny_bind (nameX_K F S.X (topRead_of S.T) he ?_ S.hk hx hd)
  exact callWith_KW (first := []) S.X hkp hall h hplain he1
end
end Mine
end

section
open PySem PySem.W PyProof.Rows PyProof.V PySem.Calls
set_option maxRecDepth 100000
namespace Mine
section
variable {prog : Program} {w : World} {K : Frag} {p : Program} {loose : List Str} {mean : ExcName → Option Value} {mg mb : Str → Option Value}

/-- what a body with cells has to show -/
def BodyGivesC (prog : Program) (w : World) (K : Frag) (p : Program) (loose : List Str) (mean : ExcName → Option Value) (mg mb : Str → Option Value) (n : Nat) (f : Addr) (qual : Str) (scope : Scope) (cdv : Value) (body : List Stmt) (binds : List (Str × Value))
    (pre : Heap → List (Addr × Obj) → Prop) (R : Value → List (Addr × Obj) → Prop) : Prop :=
  ∀ (A : Around) (A₀ : Around) (base : Heap) (outer : List Env) (g : Heap) (L : Addr) (news cells : List (Addr × Obj)) (s : Shared) (Q : Flow → Shared → Prop),
    Site K p loose mean mg mb A (envOfC qual scope L f cdv) A₀ base outer g L → Fr g L s.heap (bindL (envOfC qual scope L f cdv).kindOf binds fun _ => none) → News g L s.heap (cells ++ news) →
    CellsAre (bindC (envOfC qual scope L f cdv).kindOf binds fun _ => none) (cellsFrom (L + 1) scope.names []) cells → (∀ q ∈ news, q.1 < L) → Room A n → pre base news →
    (∀ v ex h' tk' m', Fr g L h' m' → News g L h' (ex ++ news) → (∀ q ∈ news, ∀ x ∈ ex, q.1 ≠ x.1) → 1 ≤ tk' → R v ex → Q (.ret v) { s with heap := h', toks := tk' }) →
    wpAny (model prog w) A (execs body (envOfC qual scope L f cdv)) Q (fun _ _ => False) s

theorem gives_defC {n : Nat} {f : Addr} {vs : List Value} {pre : Heap → List (Addr × Obj) → Prop} {R : Value → List (Addr × Obj) → Prop}
    {name qual : Str} {params : Arguments} {body : List Stmt} {scope : Scope} {dV kV doc pm cdv ct oc : Value} {an od : Option Addr} {osl : Array (Option Value)} {binds : List (Str × Value)}
    (ho : K.lookup f = some ⟨oc, od, .func (fnOf name qual params body scope dV kV doc pm an cdv ct), osl⟩) (hcd : codeIn K cdv qual = true)
    (hbind : ∀ s : Shared, K.In s.heap → BindsTo s (fnOf name qual params body scope dV kV doc pm an cdv ct) ⟨vs, []⟩ binds) (hkind : (binds.all fun y => scope.names.lookup y.1 == some .local || scope.names.lookup y.1 == some .cell) = true)
    (hnd : ((cellsFrom 0 scope.names []).map (·.1)).Nodup)
    (hco : scope.isCoroutine = false) (hgen : scope.isGenerator = false) (hk : scope.kind = .function)
    (hb : BodyGivesC prog w K p loose mean mg mb n f qual scope cdv body binds pre R) :
    Gives prog w K p loose mean mg mb (n + 1) f vs pre R := by
  intro A env A₀ base outer h₀ L m news s Q E S F N hr hpre hQ
  refine wpAny_call (code_defC S.B F S.X N S.T S.hA S.hf S.hk ho hcd (by have := hr.1; omega) (hbind s (S.X.keeps F.keep)) hkind hnd (fun g L' h₁ tk cells FG F' N' Y B' X' T' hlt => ?_) hco hgen hk)
  refine wpAny_mono (hb (A.deeper (envOfC qual scope L' f cdv)) A base (env :: outer) g L' news cells _ _ ⟨B', X', T', ?_, rfl, hk, S.hh⟩ F' N' Y hlt hr.deeper hpre (fun v ex h' tk' m' F₂ N₂ hne htk hR => ?_)) (fun _ _ x => x) (fun _ _ x => x.elim)
  · show A.frames.map _ = _
    rw [S.hA]; rfl
  · exact leaveK_ F₂ N₂ fun F₃ N₃ => hQ v ex h' tk' F₃ N₃ hne htk hR
end

section
variable {prog : Program} {w : World} {A : Around} {E : Value → Shared → Prop} {s : Shared} {h₀ : Heap} {L a : Addr} {m : Str → Option Value} {env : Env} {news : List (Addr × Obj)}
  {scope : Scope} {cl : List (Str × Addr)} {x : Str} {pos : Pos} {Q : Value → Shared → Prop}

theorem off1_mem {D : Addr} : ∀ {l : List (Addr × Obj)}, LCg.Off1 D l → ∀ q ∈ l, q.1 ≠ D
  | [], _, _, h => nomatch h
  | _ :: _, x, q, h => by
    rcases List.mem_cons.mp h with rfl | h
    · exact x.1
    · exact off1_mem x.2 q h

/-- the turns of a comprehension that makes texts and leaves what stands -/
theorem comp_rest {elt : Expr} {s₂ : Shared} {S : List (Addr × Obj) → Prop} {P : Nat → Value → Prop} {n : Nat} (R : Nat → Value → Prop) (hS : S news) {Fin : List Value → List (Addr × Obj) → Prop}
    (step : ∀ i v C m₂ own s₃, i < n → P i v → s₃.heap.Ns C m₂ → m₂ x = some v → Fr h₀ L s₃.heap m → News h₀ L s₃.heap (own ++ news) →
      wpAny (model prog w) A (eval elt (compEnvC scope cl C env)) (fun y s₄ => ∃ h' tk, s₄ = { s₃ with heap := h', toks := tk } ∧ Fr h₀ L h' m ∧ News h₀ L h' (own ++ news) ∧ R i y) (fun _ _ => False) s₃)
    (fin : ∀ ys, ys.length = n → (∀ (i : Nat) (y : Value), ys[i]? = some y → R i y) → Fin ys news) : LCg.CompRest prog w A h₀ L m env elt x scope cl s₂ S P Fin n 0 [] news := by
  have key : ∀ (j i : Nat) (ys : List Value), i + j = n → ys.length = i → (∀ (k : Nat) (y : Value), ys[k]? = some y → R k y) → LCg.CompRest prog w A h₀ L m env elt x scope cl s₂ S P Fin j i ys news := by
    intro j
    induction j with
    | zero => intro i ys hi hy hR; exact LCg.CompRest.zero (fin ys (by omega) hR)
    | succ j ih =>
      intro i ys hi hy hR
      refine LCg.CompRest.succ fun v I oI C oC D m₂ h' tk E' hv hC hxv F' N' off ne => ?_
      refine wpAny_mono (step i v C m₂ [(I, oI), (C, oC), (D, LCg.lst ys)] _ (by omega) hv (nsObj_ns hC (N' _ (.tail _ (.head _))).1) hxv F' N') ?_ (fun _ _ x => x.elim)
      rintro y s₃ ⟨h₃, tk₃, rfl, F₃, N₃, hRy⟩
      refine ⟨h₃, tk₃, news, rfl, F₃, N₃, off, hS, ih (i + 1) (ys ++ [y]) (by omega) (by simp [hy]) ?_⟩
      intro k z hz
      rcases Nat.lt_trichotomy k ys.length with hk' | hk' | hk'
      · rw [List.getElem?_append_left hk'] at hz; exact hR k z hz
      · subst hk'
        simp at hz
        rw [hy, ← hz]; exact hRy
      · rw [List.getElem?_append_right (by omega), List.getElem?_eq_none (by simp; omega)] at hz
        cases hz
  exact key n 0 [] (by omega) rfl (by simp)

/-- [elt for x in TEXT] -/
theorem comp_text {elt iter : Expr} {px : Pos} (R : Nat → Value → Prop) (hh : A.handled = none)
    (hcl : closureFor scope env = pure cl) (hcell : ∀ y ∈ scope.names, y.2 ≠ .cell) (hk : scope.kind = .function) (hloc : ∀ y ∈ scope.names, y.2 = .local → scope.names.lookup y.1 = some .local) (hx : scope.names.lookup x = some .local)
    (hs : ∀ x, foldedSetIterable iter env x = pure x)
    (h : wpAny (model prog w) A (eval iter env) (fun xv s₁ => ∃ X t news, xv = .str X t ∧ Fr h₀ L s₁.heap m ∧ News h₀ L s₁.heap news ∧ X.length ≤ sizeLine ∧
      (∀ i c u C m₂ own s₂, X.cps.toList[i]? = some c → s₂.heap.Ns C m₂ → m₂ x = some (.str ⟨#[c]⟩ u) → Fr h₀ L s₂.heap m → News h₀ L s₂.heap (own ++ news) →
        wpAny (model prog w) A (eval elt (compEnvC scope cl C env)) (fun y s₃ => ∃ h' tk, s₃ = { s₂ with heap := h', toks := tk } ∧ Fr h₀ L h' m ∧ News h₀ L h' (own ++ news) ∧ R i y) (fun _ _ => False) s₂) ∧
      (∀ ys D h' tk, ys.length = X.length → (∀ (i : Nat) (y : Value), ys[i]? = some y → R i y) → Fr h₀ L h' m → News h₀ L h' ((D, LCg.lst ys) :: news) → (∀ q ∈ news, q.1 ≠ D) → Q (.ref D) { s₁ with heap := h', toks := tk })) E s) :
    wpAny (model prog w) A (eval (.ListComp elt [⟨.Name x px, iter, [], 0⟩] scope pos) env) Q E s := by
  rw [eval_ListComp]
  refine wpAny_comprehension_free (use := none) rfl hs hcl hk hloc (wpAny_mono h (fun xv s₁ h₁ => ?_) fun _ _ e => e)
  obtain ⟨X, t, news, rfl, F, N, hsz, step, fin⟩ := h₁
  have go : ∀ (ty : String) (o : Obj), o = { cls := .type ty, data := .fields #[.str X t, .int 0 0] } → (∀ I, Walks prog w A I [I] [I] X.cps.size (SignAt X) (fun i h => h.IsStrIter I ty X t i)) →
      wpAny (model prog w) A (newList []) (fun acc s₃ => wpAny (model prog w) A (newFunctionEnv scope env.globals cl [] env.qual none .none (some env)) (fun cenv s₄ =>
        codeAny (model prog w) A (.compStart (.ListComp elt [⟨.Name x px, iter, [], 0⟩] scope pos) 0 (.ref s₁.heap.objs.size) acc { cenv with scope := relabel scope env }) (compPost (model prog w) A E none Q acc cenv.locals) s₄) E s₃) E { s₁ with heap := s₁.heap.push o } := by
    rintro ty o rfl W
    refine LCg.block_U (h₀ := h₀) (L := L) (m := m) (news := news) (S := fun _ => True) (P := SignAt X) (Fin := LCg.FinE h₀ L m s₁ Q) (W s₁.heap.objs.size) (by rw [show X.cps.size = X.length from rfl]; exact hsz) (fun i h st => by obtain ⟨o, e, _⟩ := st; exact ⟨o, e⟩)
      (fun i h h' o nw st e e' _ _ _ => by obtain ⟨o', q, r⟩ := st; rw [e] at q; cases q; exact ⟨o, e', r⟩) hcell hk hx ⟨_, Heap.get?_push_size _ rfl, rfl, rfl⟩ (fun b hb => ?_)
      (F.keeps fun _ _ e => Heap.get?_push_of_some _ e) (N.grown fun _ _ e => Heap.get?_push_of_some _ e) (Nat.ne_of_lt F.ns.lt) (next_is_new F) (fun p hp => Nat.ne_of_lt (Heap.lt_size (N p hp).1)) trivial ?_ ?_
    · rw [List.mem_singleton.mp hb]
      show s₁.heap.objs.size < (s₁.heap.push _).objs.size
      rw [Heap.size_push]; exact Nat.lt_succ_self _
    · refine comp_rest R trivial ?_ ?_
      · rintro i v C m₂ own s₃ hi ⟨c, u, hc, rfl⟩ hns hxv F₃ N₃
        exact step i c u C m₂ own s₃ (by simpa using hc) hns hxv F₃ N₃
      · intro ys hl hR D h' tk F' N' off
        exact fin ys D h' tk hl hR F' N' (off1_mem off)
    · intro D C h tk m' ys news' F' N' o1 hn hC₀ hD₀ hCL hDL hCD offC fin'
      refine ⟨m', hn, fun h'' hs'' => fin' D h'' tk (F'.change hs'' hCL hC₀) (fun p hp => ?_) o1⟩
      refine ⟨hs''.extBut _ _ ?_ (N' p hp).1, (N' p hp).2⟩
      rcases List.mem_cons.mp hp with rfl | hp
      · exact Ne.symm hCD
      · exact offC p hp
  cases ha : X.cps.all (· < 128)
  · exact wpAny_pyIter_wide ha (go _ _ rfl fun I => Walks.strWide hh I X t)
  · exact wpAny_pyIter_ascii ha (go _ _ rfl fun I => Walks.strAscii hh I X t)
end
end Mine
end

section
open PySem PySem.W PyProof.Rows PyProof.V PySem.Calls
set_option maxRecDepth 100000
namespace Mine

/-- a table's line, by its key -/
def lnGet (l : List Ln) (k : Str) : Option Ln := l.find? fun e => e.1 = k
theorem valueAt_ln (l : List Ln) (k : Str) : valueAt (lnKvs l) k = (lnGet l k).map fun e => Value.str e.2.2.1 e.2.2.2 := by
  unfold valueAt lnKvs lnGet
  induction l with
  | nil => rfl
  | cons e r ih =>
    by_cases h : e.1 = k
    · simp [h]
    · rw [List.map_cons, List.find?_cons_of_neg (by simpa using h), List.find?_cons_of_neg (by simpa using h)]
      exact ih
theorem lnGet_key {l : List Ln} {k : Str} {e : Ln} (h : lnGet l k = some e) : e.1 = k ∧ e ∈ l := by
  unfold lnGet at h
  exact ⟨by simpa using List.find?_some h, List.mem_of_find?_eq_some h⟩
theorem lnGet_none {l : List Ln} {k : Str} (h : lnGet l k = none) : k ∉ l.map (·.1) := by
  unfold lnGet at h
  rw [List.find?_eq_none] at h
  intro hm
  obtain ⟨e, he, hk⟩ := List.mem_map.mp hm
  exact absurd hk (by simpa using h e he)

section
variable {prog : Program} {w : World} {A : Around} {E : Value → Shared → Prop} {s : Shared} {d : Addr} {l : List Ln} {ep : Nat} {k : Str} {t : Tok}

theorem in_ln {Q : Value → Shared → Prop} (hd : s.heap.get? d = some (dObj w l ep)) (hn : (l.map (·.1)).Nodup) (lo : (d == sysModules) = false) (h : Q (.bool (lnGet l k).isSome) { s with toks := s.toks + 1 }) : wpAny (model prog w) A (compareOp .In (.str k t) (.ref d)) Q E s :=
  wpAny_in_of (strKind_is prog w k t) lo (dObj_at (prog := prog) hd hn).dictOf.mapOf (by rw [valueAt_ln, Option.isSome_map]; exact h)
theorem notin_ln {Q : Value → Shared → Prop} (hd : s.heap.get? d = some (dObj w l ep)) (hn : (l.map (·.1)).Nodup) (lo : (d == sysModules) = false) (h : Q (.bool (!(lnGet l k).isSome)) { s with toks := s.toks + 1 }) : wpAny (model prog w) A (compareOp .NotIn (.str k t) (.ref d)) Q E s :=
  wpAny_notIn_of (strKind_is prog w k t) lo (dObj_at (prog := prog) hd hn).dictOf.mapOf (by rw [valueAt_ln, Option.isSome_map]; exact h)
theorem tail_get {e : Ln} {value slice : Expr} {Q : Value → Shared → Prop} (hd : s.heap.get? d = some (dObj w l ep)) (hn : (l.map (·.1)).Nodup) (he : lnGet l k = some e)
    (h : Q (.str e.2.2.1 e.2.2.2) { s with toks := s.toks + 1 })
    (hs : subscripted slice false (.ref d) (.str k t) = operate [.ref d, .str k t] (getItem (.ref d) (.str k t))) : wpAny (model prog w) A (subscriptTail value slice (.ref d) (.str k t)) Q E s := by
  have hD := dObj_at (prog := prog) hd hn
  exact tail_any hD.dictOf.mapOf.typeIs slot_dict_getitem.lookup (wpAny_getItem_of (strKind_is prog w k t) hD.dictOf.mapOf (by rw [valueAt_ln, he]; rfl) h) hs

/-- a new line stored -/
theorem setItem_new {v : Str} {u : Tok} {Q : Unit → Shared → Prop} (hd : s.heap.get? d = some (dObj w l ep)) (hk : k ∉ l.map (·.1)) (hl : l.length ≤ 1000)
    (hQ : ∀ h', h'.get? d = some (dObj w (l ++ [(k, t, v, u)]) (ep + 1)) → Heap.SameBut d s.heap h' → Q () { s with heap := h', toks := s.toks + 1 }) :
    wpAny (model prog w) A (setItem (.ref d) (.str k t) (.str v u)) Q E s := by
  have hT : s.TypeIs (.ref d) "dict" := ⟨_, hd, rfl⟩
  unfold setItem
  try with_reducible refine wpAny_holding ?_
  first | refine wpAny_bind (wpAny_pure ?_) | skip
  refine wpAny_bind (wpAny_sequenceKey hT (by decide) ?_)
  refine wpAny_bind (wpAny_callSpecial?_slot (name := Str.ofString "__setitem__") hT slot_dict_setitem
    (wpAny_call_entry slot_dict_setitem hT entry_dict_setitem ?_ (args_dict_setitem _ _ _)))
  show wpAny _ _ (Builtin.Dict.notOrdered "__setitem__" ⟨[.ref d, .str k t, .str v u], []⟩ >>= _) _ _ s
  refine wpAny_bind (wpAny_notOrdered_dict hT ?_)
  show wpAny _ _ (dictSet d (.str k t) (.str v u) >>= _) _ _ s
  exact wpAny_bind (dictSet_new hd hk (by rw [sizeLine_eq]; omega) fun h' hd' hs' => wpAny_pure ⟨.none, rfl, wpAny_pure (hQ h' hd' hs')⟩)

theorem news_put {h₀ h h' : Heap} {L d : Addr} {o o' : Obj} {news : List (Addr × Obj)} (N : News h₀ L h news) (hd : (d, o) ∈ news) (hs : Heap.SameBut d h h') (ho : h'.get? d = some o') : News h₀ L h' ((d, o') :: news.filter fun q => decide (q.1 ≠ d)) := by
  intro q hq
  rcases List.mem_cons.mp hq with rfl | hq
  · exact ⟨ho, (N _ hd).2⟩
  · obtain ⟨hq, hne⟩ := List.mem_filter.mp hq
    exact ⟨hs.extBut _ _ (by simpa using hne) (N q hq).1, (N q hq).2⟩
theorem fr_put {h₀ h h' : Heap} {L d : Addr} {o : Obj} {m : Str → Option Value} {news : List (Addr × Obj)} (F : Fr h₀ L h m) (N : News h₀ L h news) (hd : (d, o) ∈ news) (hs : Heap.SameBut d h h') : Fr h₀ L h' m := fr_less F hs (N _ hd).2

theorem keys_walks (hh : A.handled = none) (I d : Addr) (hne : d ≠ I) (l : List Ln) (ep : Nat) (hn : (l.map (·.1)).Nodup) :
    Walks prog w A I [I, d] [I] l.length (fun i v => ∃ e, l[i]? = some e ∧ v = .str e.1 e.2.1) (fun i h => IsKI h I d i l.length ep ∧ h.get? d = some (dObj w l ep)) where
  sub := fun b hb => by simp at hb; simp [hb]
  frame := fun i h h' st hk => ⟨hk I (by simp) _ st.1, hk d (by simp) _ st.2⟩
  item := fun i s Q E hi st hQ => by
    have hx : l[i]? = some l[i] := by simp [hi]
    refine next_key (e := lnE w l[i]) st.1 st.2 rfl (by simp) (by simp [hi]) fun h' hit hs => ?_
    exact hQ _ h' s.toks ⟨_, hx, rfl⟩ ⟨hit, hs.extBut d _ hne st.2⟩ fun b o hb e => hs.extBut b o (fun q => hb (by simp [q])) e
  done := fun s Q E st hQ => by
    have hl : (lnKvs l).length = l.length := by simp [lnKvs]
    have he : s.heap.IsKeyIter I d l.length (lnKvs l).length ep := by rw [hl]; exact st.1.key
    exact wpAny_pyNext_dict_end (knd := PySem.strKind prog w) (kvs := lnKvs l) hh he (dObj_at (prog := prog) st.2 hn) (by simp [lnKvs]) fun h' hx => hQ h' s.toks fun b o hb e => hx b o (fun q => hb (by simp [q])) e
  self := fun i s Q E st hQ => wpAny_pyIter_keyiter st.1.key hQ
end

section
variable {prog : Program} {w : World} {A : Around} {s₀ : Shared} {h₀ : Heap} {L a : Addr} {m : Str → Option Value}
  {cn : Str} {cs : Scope} {ccd : Value} {cl : List (Str × Addr)} {hp : Heap} {tk : Tok}

/-- for x in d: d a dict of texts that stands; no turn leaves the loop early -/
theorem for_keys {x : Str} {px pos : Pos} {iter : Expr} {body rest : List Stmt} {Q : Flow → Shared → Prop}
    (hh : A.handled = none) (F : Fr h₀ L hp m) (hs : ∀ v, foldedSetIterable iter (envX cn cs L a ccd cl) v = pure v) (hk : cs.kind = .function) (hx : (envX cn cs L a ccd cl).kindOf x = some .local)
    (h : wpAny (model prog w) A (eval iter (envX cn cs L a ccd cl)) (fun v s₁ => ∃ (J : Nat → (Str → Option Value) → List (Addr × Obj) → Prop) (d : Addr) (l : List Ln) (ep : Nat) (m₁ : Str → Option Value) (news₁ : List (Addr × Obj)) (h₁ : Heap) (tk₁ : Tok), v = .ref d ∧ s₁ = { s₀ with heap := h₁, toks := tk₁ } ∧ Fr h₀ L h₁ m₁ ∧ News h₀ L h₁ news₁ ∧
      (d, dObj w l ep) ∈ news₁ ∧ (l.map (·.1)).Nodup ∧ (d == sysModules) = false ∧ J 0 m₁ news₁ ∧
      (∀ i e m₁ news₁ h₁ tk₁ own I, l[i]? = some e → J i m₁ news₁ → (∀ p ∈ news₁, p.1 ≠ I) → (∀ p ∈ own, p.1 = I ∨ p.1 = d) → Fr h₀ L h₁ (upd m₁ x (.str e.1 e.2.1)) → News h₀ L h₁ (own ++ news₁) → 1 ≤ tk₁ →
        wpAny (model prog w) A (execs body (envX cn cs L a ccd cl))
          (fun fl s₃ => fl = .next ∧ ∃ h' tk m' news', s₃ = { s₀ with heap := h', toks := tk } ∧ Fr h₀ L h' m' ∧ News h₀ L h' (own ++ news') ∧ (∀ p ∈ news', p.1 ≠ I) ∧ J (i + 1) m' news') (fun _ _ => False) { s₀ with heap := h₁, toks := tk₁ }) ∧
      (∀ h' tk' m' news', Fr h₀ L h' m' → News h₀ L h' news' → J l.length m' news' → tk ≤ tk' → wpAny (model prog w) A (execs rest (envX cn cs L a ccd cl)) Q (fun _ _ => False) { s₀ with heap := h', toks := tk' })) (fun _ _ => False) { s₀ with heap := hp, toks := tk }) :
    wpAny (model prog w) A (execs (.For (.Name x px) iter body [] pos :: rest) (envX cn cs L a ccd cl)) Q (fun _ _ => False) { s₀ with heap := hp, toks := tk } := by
  refine wpAny_execs_cons (toksQ ?_)
  refine For_turns (s := { s₀ with heap := hp, toks := tk }) (h₀ := h₀) (m := m) F ?_ hs PassesOwn.never
  refine wpAny_mono h ?_ (fun _ _ x => x)
  rintro v s₁ ⟨J, d, l, ep, m₁, news₁, h₁, tk₁, rfl, rfl, F₁, N₁, hd, hn, lo, h0, step, done⟩
  have hdg := (N₁ _ hd).1
  have hl : (lnKvs l).length = l.length := by simp [lnKvs]
  have hne : d ≠ h₁.objs.size := Nat.ne_of_lt (Heap.lt_size hdg)
  refine wpAny_pyIter_dict (s := { s₀ with heap := h₁, toks := tk₁ }) (knd := PySem.strKind prog w) lo (dObj_at hdg hn) ?_
  rw [hl]
  refine ⟨h₁.objs.size, [h₁.objs.size, d], [h₁.objs.size], l.length, _, _, _, m₁, news₁, J, rfl, KTurns.ofWalks (keys_walks hh h₁.objs.size d hne l ep hn) fun i v s Q E st q => wpAny_pure q, ?_, ?_, ?_, ?_, F₁.push _, ?_, h0, ?_, ?_⟩
  · intro hm'
    rcases List.mem_cons.mp hm' with e | e
    · exact absurd F₁.ns.lt (by rw [show L = h₁.objs.size from e]; exact Nat.lt_irrefl _)
    · exact (N₁ _ hd).2.1 (List.mem_singleton.mp e).symm
  · intro b hb
    rw [List.mem_singleton.mp hb]
    exact next_is_new F₁
  · intro q hq hI
    exact absurd (Heap.lt_size (N₁ _ hq).1) ((List.mem_singleton.mp hI) ▸ Nat.lt_irrefl _)
  · exact ⟨Heap.get?_push_size _ rfl, Heap.get?_push_of_some _ hdg⟩
  · exact fun q hq => ⟨Heap.get?_push_of_some _ (N₁ _ hq).1, (N₁ _ hq).2⟩
  · rintro i v m₂ news₂ h₂ tk₂ own _ ⟨e, he, rfl⟩ hJ hoff hof _ _ _ F₂ N₂
    refine PyProof.Rows.assign_Name (storeX_L (s := { s₀ with heap := h₂, toks := tk₂ }) F₂ N₂ (fun h₃ F₃ N₃ => ?_) hk hx)
    refine wpAny_mono (step i e m₂ news₂ h₃ (tk₂ + 1) own h₁.objs.size he hJ (fun p hp e => hoff p hp (by simp [e])) (fun p hp => by simpa using hof p hp) F₃ N₃ (Nat.le_add_left _ _)) ?_ (fun _ _ x => x)
    rintro fl s₃ ⟨rfl, h₄, tk₄, m₄, news₄, rfl, F₄, N₄, hoff₄, hJ₄⟩
    exact .next ⟨rfl, h₄, tk₄, m₄, news₄, rfl, F₄, N₄, fun p hp hI => hoff₄ p hp (List.mem_singleton.mp hI), hJ₄⟩
  · exact fun h' tk' m' news' F' N' _ hJ htk => done h' tk' m' news' F' N' hJ htk

/-- for x in range(n): a turn may come back -/
theorem for_range {x : Str} {px pos : Pos} {iter : Expr} {body rest : List Stmt} {Q : Flow → Shared → Prop}
    (hh : A.handled = none) (F : Fr h₀ L hp m) (hs : ∀ v, foldedSetIterable iter (envX cn cs L a ccd cl) v = pure v) (hk : cs.kind = .function) (hx : (envX cn cs L a ccd cl).kindOf x = some .local)
    (h : wpAny (model prog w) A (eval iter (envX cn cs L a ccd cl)) (fun v s₁ => ∃ (J : Nat → (Str → Option Value) → List (Addr × Obj) → Prop) (r : Addr) (n : Nat) (t₀ u₀ v₀ : Tok) (m₁ : Str → Option Value) (news₁ : List (Addr × Obj)) (h₁ : Heap) (tk₁ : Tok), v = .ref r ∧ s₁ = { s₀ with heap := h₁, toks := tk₁ } ∧ Fr h₀ L h₁ m₁ ∧ News h₀ L h₁ news₁ ∧
      IsRange h₁ r 0 (n : Int) 1 t₀ u₀ v₀ ∧ n ≤ 1000000 ∧ J 0 m₁ news₁ ∧
      (∀ i t m₁ news₁ h₁ tk₁ own I, i < n → J i m₁ news₁ → (∀ p ∈ news₁, p.1 ≠ I) → (∀ p ∈ own, p.1 = I) → Fr h₀ L h₁ (upd m₁ x (.int (i : Int) t)) → News h₀ L h₁ (own ++ news₁) → 1 ≤ tk₁ →
        wpAny (model prog w) A (execs body (envX cn cs L a ccd cl))
          (fun fl s₃ => (∃ v, fl = .ret v ∧ (tk ≤ s₃.toks → Q (.ret v) s₃)) ∨ fl = .next ∧ ∃ h' tk m' news', s₃ = { s₀ with heap := h', toks := tk } ∧ Fr h₀ L h' m' ∧ News h₀ L h' (own ++ news') ∧ (∀ p ∈ news', p.1 ≠ I) ∧ J (i + 1) m' news') (fun _ _ => False) { s₀ with heap := h₁, toks := tk₁ }) ∧
      (∀ h' tk' m' news', Fr h₀ L h' m' → News h₀ L h' news' → J n m' news' → tk ≤ tk' → wpAny (model prog w) A (execs rest (envX cn cs L a ccd cl)) Q (fun _ _ => False) { s₀ with heap := h', toks := tk' })) (fun _ _ => False) { s₀ with heap := hp, toks := tk }) :
    wpAny (model prog w) A (execs (.For (.Name x px) iter body [] pos :: rest) (envX cn cs L a ccd cl)) Q (fun _ _ => False) { s₀ with heap := hp, toks := tk } := by
  refine wpAny_execs_cons (toksQ ?_)
  refine For_turns (s := { s₀ with heap := hp, toks := tk }) (h₀ := h₀) (m := m) F ?_ hs PassesOwn.never
  refine wpAny_mono h ?_ (fun _ _ x => x)
  rintro v s₁ ⟨J, r, n, t₀, u₀, v₀, m₁, news₁, h₁, tk₁, rfl, rfl, F₁, N₁, hr, hn, h0, step, done⟩
  refine iter_range (s := { s₀ with heap := h₁, toks := tk₁ }) (n := n) J hh hr (small_one (by decide) (by decide) (by omega) (by omega)) (by rw [rangeSize_nat]; omega) F₁ N₁ h0 ?_ (fun h' tk m' news' F' N' hJ => ?_)
  · intro i t m₁ news₁ h₁ tk₁ own I hi hJ hoff hown F₁ N₁
    rw [Int.zero_add]
    refine PyProof.Rows.assign_Name (storeX_L (s := { s₀ with heap := h₁, toks := tk₁ }) F₁ N₁ (fun h₂ F₂ N₂ => ?_) hk hx)
    refine wpAny_mono (step i t m₁ news₁ h₂ (tk₁ + 1) own I hi hJ hoff hown F₂ N₂ (Nat.le_add_left _ _)) ?_ (fun _ _ x => x)
    rintro fl s₃ (⟨v, rfl, hv⟩ | ⟨rfl, h₃, tk₃, m₃, news₃, rfl, F₃, N₃, hoff₃, hJ₃⟩)
    · exact .ret hv
    · exact .next ⟨rfl, h₃, tk₃, m₃, news₃, rfl, F₃, N₃, fun p hp hI => hoff₃ p hp (List.mem_singleton.mp hI), hJ₃⟩
  · exact fun htk => done h' tk m' news' F' N' hJ htk
end
end Mine
end

section
open PySem PySem.W PyProof.Rows PyProof.V PySem.Calls PySem.StrLaws
set_option maxRecDepth 100000
namespace Mine

theorem sliceMade_eq (x : Str) (t : Tok) (l u : Option (Int × Tok)) : sliceMade x t l u none = if ((1 : Int) == 1 && (Builtin.Str.strSliceIndices (l.map (·.1)) (u.map (·.1)) 1 x.length).length == x.length) = true then .val (.str x t) else .str ⟨((Builtin.Str.strSliceIndices (l.map (·.1)) (u.map (·.1)) 1 x.length).filterMap (x.cps[·]?)).toArray⟩ := rfl
/-- what stands between a text's first and its last sign -/
theorem slice_mid {q Z r : Str} (hq : q.length = 1) (hr : r.length = 1) : sliceText (q ++ Z ++ r) (some 1) (some (-1)) = Z := by
  have hl : (q ++ Z ++ r).length = Z.length + 2 := by rw [Str.length_append, Str.length_append]; omega
  rw [sliceText_neg_hi _ _ (by decide) (by rw [hl]; omega), hl]
  have e : (-1 + ((Z.length + 2 : Nat) : Int)) = ((Z.length + 1 : Nat) : Int) := by omega
  rw [e, sliceText_plain ⟨by decide, by omega, by have := hl; simp [Str.length] at this ⊢; omega⟩]
  obtain ⟨a, ha⟩ : ∃ a, q.cps.toList = [a] := List.length_eq_one_iff.mp (by simpa [Str.length] using hq)
  have hz : Z.cps.toList.length = Z.length := by simp [Str.length]
  have e1 : (1 : Int).toNat = 1 := rfl
  have e2 : (((Z.length + 1 : Nat) : Int) - 1).toNat = Z.length := by omega
  rw [e1, e2]
  have : (q ++ Z ++ r).cps.toList = a :: (Z.cps.toList ++ r.cps.toList) := by simp [Str.cps_append, ha]
  rw [this, List.drop_succ_cons, List.drop_zero, ← hz, List.take_left]

section
variable {prog : Program} {w : World} {M : Model} {A : Around} {E : Value → Shared → Prop} {s : Shared} {h₀ : Heap} {L : Addr} {m : Str → Option Value} {news : List (Addr × Obj)} {env : Env} {Q : Value → Shared → Prop}

/-- TEXT[1:-1] -/
theorem ev_mid {value : Expr} {n1 n2 : Nat} {p1 p2 p3 p4 pos : Pos}
    (h : wpAny (model prog w) A (eval value env) (fun o s₁ => ∃ q Z r t, o = .str (q ++ Z ++ r) t ∧ q.length = 1 ∧ r.length = 1 ∧ Z.length ≤ sizeLine ∧ ∀ t' tk ob, 1 ≤ tk → Q (.str Z t') { s₁ with heap := s₁.heap.push ob, toks := tk }) E s) :
    wpAny (model prog w) A (eval (.Subscript value (.Slice (some (.Constant (.int 1) n1 p1)) (some (.UnaryOp .USub (.Constant (.int 1) n2 p2) p3)) none p4) pos) env) Q E s := by
  refine Subscript_ (wpAny_mono h ?_ fun _ _ x => x)
  rintro o s₁ ⟨q, Z, r, t, rfl, hq, hr, hZ, k⟩
  refine wpAny_Slice ?_
  rw [evalPart_some, evalPart_some, evalPart_none]
  refine wpAny_Constant_int (UnaryOp_ (wpAny_Constant_int (P.neg_int (wpAny_pure ?_))))
  refine tail_any (T := "str") (ops := _) (typeIs_str _ _ _) PySem.F.slot_str_getitem.lookup ?_ rfl
  refine wpAny_getItem_str_slice (l := some (1, _)) (u := some (-1, _)) (st := none) ⟨_, Heap.get?_push_size _ rfl, rfl, rfl⟩ rfl ?_
  have hm := slice_mid (q := q) (Z := Z) (r := r) hq hr
  unfold sliceText at hm
  rw [sliceMade_eq]
  simp only [Option.map_some]
  by_cases hc : ((1 : Int) == 1 && (Builtin.Str.strSliceIndices (some 1) (some (-1)) 1 (q ++ Z ++ r).length).length == (q ++ Z ++ r).length) = true
  · rw [if_pos hc] at hm ⊢
    rw [hm]
    exact k _ _ _ (Nat.le_add_left _ _)
  · rw [if_neg hc] at hm ⊢
    rw [hm]
    exact ⟨hZ, k _ _ _ (Nat.le_add_left _ _)⟩

/-- a slice of a list -/
theorem ev_slice {value : Expr} {lower upper : Option Expr} {p pos : Pos}
    (h : wpAny (model prog w) A (eval value env) (fun o s₁ => wpAny (model prog w) A (evalPart lower env) (fun vl s₂ => wpAny (model prog w) A (evalPart upper env) (fun vu s₃ => ∃ l vs lo hi m news, o = .ref l ∧ Fr h₀ L s₃.heap m ∧ News h₀ L s₃.heap news ∧ ListAt h₀ news l vs ∧ vs.length ≤ 1000 ∧ IsPart vl lo ∧ IsPart vu hi ∧
      (∀ D h', Fr h₀ L h' m → News h₀ L h' ((D, ({ cls := .type "list", data := .seq (slicePick vs.toArray lo hi none) } : Obj)) :: news) → (∀ q ∈ news, q.1 < D) → Q (.ref D) { s₃ with heap := h' })) E s₂) E s₁) E s) :
    wpAny (model prog w) A (eval (.Subscript value (.Slice lower upper none p) pos) env) Q E s := by
  refine Subscript_ (wpAny_mono h (fun o s₁ h₁ => wpAny_Slice (wpAny_mono h₁ (fun vl s₂ h₂ => wpAny_mono h₂ ?_ fun _ _ x => x) fun _ _ x => x)) fun _ _ x => x)
  rintro vu s₃ ⟨l, vs, lo, hi, m, news, rfl, F, N, hl, hlen, pl, pu, k⟩
  rw [evalPart_none]
  refine wpAny_pure ?_
  have hls := (hl.at F N).push { cls := .type "slice", data := .fields #[vl, vu, .none] }
  refine tail_any (T := "list") (ops := _) hls.typeIs list_getitem_lookup ?_ rfl
  refine wpAny_getItem_list_slice (s := { s₃ with heap := s₃.heap.push { cls := .type "slice", data := .fields #[vl, vu, .none] } }) hls (Heap.IsSliceOf.new ..) pl pu .none (by simp) ?_ (by rw [List.size_toArray, sizeLine_eq]; omega)
  rw [Heap.size_push]
  have N1 : News h₀ L (s₃.heap.push { cls := .type "slice", data := .fields #[vl, vu, .none] }) news := fun q hq => ⟨Heap.get?_push_of_some _ (N q hq).1, (N q hq).2⟩
  have F1 : Fr h₀ L (s₃.heap.push { cls := .type "slice", data := .fields #[vl, vu, .none] }) m := F.push _
  have hz : (s₃.heap.push { cls := .type "slice", data := .fields #[vl, vu, .none] }).objs.size = s₃.heap.objs.size + 1 := Heap.size_push ..
  have hf := fr_fresh F1 (a := s₃.heap.objs.size + 1) (by rw [hz]; exact Nat.le_refl _)
  refine k _ _ (F1.push _) ?_ (fun q hq => Nat.lt_succ_of_lt (Heap.lt_size (N q hq).1))
  intro q hq
  rcases List.mem_cons.mp hq with rfl | hq
  · refine ⟨?_, hf⟩
    have := Heap.get?_push_size (s₃.heap.push { cls := .type "slice", data := .fields #[vl, vu, .none] }) (o := { cls := .type "list", data := .seq (slicePick vs.toArray lo hi none) }) rfl
    rw [hz] at this; exact this
  · exact ⟨Heap.get?_push_of_some _ (N1 q hq).1, (N1 q hq).2⟩

inductive DDs : List Expr → List (List (Str × Str)) → Prop
  | nil : DDs [] []
  | cons {ks : List (Option Expr)} {vs : List Expr} {p : Pos} {r : List (Str × Str)} {es : List Expr} {rs : List (List (Str × Str))} (h : DPairs ks vs r) (hl : r.length ≤ 15) (hn : (r.map (·.1)).Nodup) (hr : DDs es rs) : DDs (.Dict ks vs p :: es) (r :: rs)

/-- what the dicts of a display are -/
def DictsAt (w : World) (nx : List (Addr × Obj)) (ds : List (Addr × Tok)) (rs : List (List (Str × Str))) : Prop :=
  ds.length = rs.length ∧ ∀ (i : Nat) (e : Addr × Tok) (r : List (Str × Str)), ds[i]? = some e → rs[i]? = some r → (e.1, dObj w (lnFrom e.2 r) r.length) ∈ nx ∧ (e.1 == sysModules) = false

theorem spliced_dicts {es : List Expr} {rs : List (List (Str × Str))} (hd : DDs es rs) {pos : Pos} (hlim : h₀.NoLimit) : ∀ {s : Shared} {news : List (Addr × Obj)} {Q : List Value → Shared → Prop} {E : Value → Shared → Prop}, Fr h₀ L s.heap m → News h₀ L s.heap news →
    (∀ (ds : List (Addr × Tok)) h' tk nx, Fr h₀ L h' m → News h₀ L h' (nx ++ news) → (∀ q ∈ nx, ∀ q' ∈ news, q'.1 ≠ q.1) → DictsAt w nx ds rs → s.toks ≤ tk → Q (ds.map fun e => Value.ref e.1) { s with heap := h', toks := tk }) →
    wpAny (model prog w) A (spliced (backTo pos (starEach es env))) Q E s := by
  induction hd with
  | nil => intro s news Q E F N hQ; exact spliced_none (hQ [] s.heap s.toks [] F N (fun _ h => nomatch h) ⟨rfl, fun i e r h => by simp at h⟩ (Nat.le_refl _))
  | cons h hl hn _ ih =>
    rename_i ks vs p r es rs _
    intro s news Q E F N hQ
    refine spliced_more (ev_dict0 F N hlim h hl hn fun h' tk F' N' hlt lo htk => ?_) rfl
    refine ih (s := { s with heap := h', toks := tk }) F' N' fun ds h'' tk' nx F'' N'' hap hds htk' => ?_
    have N3 : News h₀ L h'' ((nx ++ [(s.heap.objs.size, dObj w (lnFrom s.toks r) r.length)]) ++ news) := by
      rw [List.append_assoc]; exact N''
    refine hQ ((s.heap.objs.size, s.toks) :: ds) h'' tk' _ F'' N3 ?_ ⟨by simp [hds.1], ?_⟩ (Nat.le_trans htk htk')
    · intro q hq q' hq'
      rcases List.mem_append.mp hq with hq | hq
      · exact hap q hq q' (.tail _ hq')
      · rw [List.mem_singleton.mp hq]; exact Nat.ne_of_lt (hlt q' hq')
    · intro i e r' he hr'
      cases i with
      | zero =>
        simp at he hr'
        subst he; subst hr'
        exact ⟨List.mem_append_right _ (.head _), lo⟩
      | succ i =>
        have := hds.2 i e r' (by simpa using he) (by simpa using hr')
        exact ⟨List.mem_append_left _ this.1, this.2⟩

/-- a display of dicts of texts -/
theorem ev_dicts {es : List Expr} {rs : List (List (Str × Str))} (hd : DDs es rs) {pos : Pos} (hlim : h₀.NoLimit) (hl : rs.length ≤ 1000) (F : Fr h₀ L s.heap m) (N : News h₀ L s.heap news)
    (hQ : ∀ a (ds : List (Addr × Tok)) h' tk nx, Fr h₀ L h' m → News h₀ L h' ((a, lstO (ds.map fun e => Value.ref e.1)) :: (nx ++ news)) → (∀ q ∈ nx, ∀ q' ∈ news, q'.1 ≠ q.1) → (∀ q ∈ nx ++ news, q.1 < a) → DictsAt w nx ds rs → s.toks ≤ tk → Q (.ref a) { s with heap := h', toks := tk }) :
    wpAny (model prog w) A (eval (.List es pos) env) Q E s := by
  refine List_ (spliced_dicts hd hlim F N fun ds h' tk nx F' N' hap hds htk => ?_)
  refine newList_N (s := { s with heap := h', toks := tk }) F' N' (fun h₂ F₂ N₂ => hQ _ ds h₂ tk nx F₂ N₂ hap (fun q hq => Heap.lt_size (N' q hq).1) hds htk) ?_
  rw [List.length_map, hds.1, sizeLine_eq]; omega

/-- a text, n times -/
def rep (x : Str) (n : Nat) : Str := ⟨(List.replicate n x.cps.toList).flatten.toArray⟩
theorem rep_list (x : Str) (n : Nat) : (rep x n).cps.toList = (List.replicate n x.cps.toList).flatten := rfl
theorem foldl_app (l : List (Array Nat)) : ∀ a : Array Nat, (l.foldl (· ++ ·) a).toList = a.toList ++ (l.map Array.toList).flatten := by
  induction l with
  | nil => intro a; simp
  | cons b r ih => intro a; rw [List.foldl_cons, ih]; simp
theorem mul_rep (x : Str) (n : Nat) : Txt.mul x (n : Int) = rep x n := by
  have hx : ∀ a b : Str, a.cps.toList = b.cps.toList → a = b := fun a b h => by
    have := congrArg List.toArray h
    simp at this
    cases a; cases b; simp at this; exact congrArg Str.mk this
  refine hx _ _ ?_
  rw [rep_list]
  unfold Txt.mul
  by_cases h1 : (n : Int) < 1
  · have : n = 0 := by omega
    subst this
    rfl
  · rw [if_neg h1]
    by_cases h2 : ((n : Int) == 1 || x.length == 0) = true
    · rw [if_pos h2]
      rcases Bool.or_eq_true_iff.mp h2 with h | h
      · have : n = 1 := by have := beq_iff_eq.mp h; omega
        subst this; simp
      · have hl : x.cps.toList = [] := List.length_eq_zero_iff.mp (by simpa [Str.length] using beq_iff_eq.mp h)
        rw [hl]
        have : ∀ k, (List.replicate k ([] : List Nat)).flatten = [] := fun k => by induction k with | zero => rfl | succ k ih => simp
        rw [this]
    · rw [if_neg h2]
      show ((List.replicate (n : Int).toNat x.cps).foldl (· ++ ·) #[]).toList = _
      rw [foldl_app]
      simp
theorem mulOk {x : Str} {n : Nat} (hx : x.length ≤ 1000) (hn : n ≤ 1000) : MulOk x (n : Int) := by
  have hp : x.length * n ≤ 1000 * 1000 := Nat.mul_le_mul hx hn
  refine ⟨?_, fun h1 _ => ?_, fun _ _ => ?_⟩
  · have h1 : ¬ ((n : Int) < -(2 ^ 63 : Int)) := by omega
    have h2 : ¬ ((n : Int) ≥ 2 ^ 63) := by omega
    rw [decide_eq_false h1, decide_eq_false h2]; rfl
  · have h3 : (1000 : Int) ≤ (2 ^ 63 - 1) / (n : Int) := by
      rw [Int.le_ediv_iff_mul_le (by omega)]
      omega
    omega
  · unfold Builtin.Str.tooLong
    rw [decide_eq_false_iff_not, sizeLine_eq, Int.toNat_natCast]
    omega
theorem ev_mul {x : Str} {t u : Tok} {n : Nat} (hx : x.length ≤ 1000) (hn : n ≤ 1000) (h : ∀ t' k, Q (.str (rep x n) t') { s with toks := k }) : wpAny (model prog w) A (binaryOp .Mult (.str x t) (.int (n : Int) u)) Q E s :=
  SB.mul (mulOk hx hn) fun t' k => by rw [mul_rep]; exact h t' k
end
end Mine
end

section
open PySem PySem.W PyProof.Rows PyProof.V PySem.Calls
set_option maxRecDepth 100000
namespace Mine
theorem updF_mid2 {C : Addr} {o : Obj} {W : List (Addr × Obj)} (hW : ∀ p ∈ W, p.1 ≠ C) : ∀ {own : List (Addr × Obj)}, (∀ p ∈ own, p.1 ≠ C) → UpdF C o (own ++ (C, o) :: W) (fun o' => own ++ (C, o') :: W)
  | [], _ => .head hW
  | p :: r, h => .tail (h p (List.mem_cons_self ..)) (updF_mid2 hW fun q hq => h q (List.mem_cons_of_mem _ hq))
theorem news_at {h₀ h h' : Heap} {L d : Addr} {o o' : Obj} {a b : List (Addr × Obj)} (N : News h₀ L h (a ++ (d, o) :: b)) (ha : ∀ q ∈ a, q.1 ≠ d) (hb : ∀ q ∈ b, q.1 ≠ d) (hs : Heap.SameBut d h h') (ho : h'.get? d = some o') : News h₀ L h' (a ++ (d, o') :: b) := by
  intro q hq
  have hd := (N (d, o) (List.mem_append_right _ (.head _))).2
  rcases List.mem_append.mp hq with hq | hq
  · exact ⟨hs.extBut _ _ (ha q hq) (N q (List.mem_append_left _ hq)).1, (N q (List.mem_append_left _ hq)).2⟩
  · rcases List.mem_cons.mp hq with rfl | hq
    · exact ⟨ho, hd⟩
    · have := N q (List.mem_append_right _ (.tail _ hq))
      exact ⟨hs.extBut _ _ (hb q hq) this.1, this.2⟩
def lkpS (l : List (Str × Str)) (k : Str) : Option Str := (l.find? fun e => e.1 = k).map (·.2)
theorem lkp_ln (l : List Ln) (k : Str) : lkpS (lnReps l) k = (lnGet l k).map (·.2.2.1) := by
  unfold lkpS lnReps lnGet
  rw [List.find?_map, Option.map_map]
  rfl
/-- a list of numbers below the line -/
def KsAt (vs : List Value) (ks : List Nat) : Prop := vs.length = ks.length ∧ ∀ (i : Nat) (k : Nat), ks[i]? = some k → ∃ t, vs[i]? = some (.int (k : Int) t)
section
variable {prog : Program} {w : World} {A : Around} {E : Value → Shared → Prop} {s : Shared} {h₀ : Heap} {L a : Addr} {m : Str → Option Value} {env : Env}
  {cn : Str} {cs : Scope} {ccd : Value} {cl : List (Str × Addr)} {news : List (Addr × Obj)} {Q : Value → Shared → Prop}

/-- range(e) -/
theorem call_range_e {K : Frag} {p : Program} {loose : List Str} {mean : ExcName → Option Value} {mg mb : Str → Option Value} {A₀ : Around} {base : Heap} {outer : List Env} {env' : Env} {px pos : Pos} {e : Expr}
    (S : Site K p loose mean mg mb A env' A₀ base outer h₀ L) (F : Fr h₀ L s.heap m) (he : nsIn K mainGlobals (Str.ofString "range") = some none)
    (h : wpAny (model prog w) A (eval e (envX cn cs L a ccd cl)) (fun v s₁ => ∃ (n : Nat), ∃ t m news, v = .int (n : Int) t ∧ Fr h₀ L s₁.heap m ∧ News h₀ L s₁.heap news ∧
      ∀ r h' tk t₀ u₀ v₀, IsRange h' r 0 (n : Int) 1 t₀ u₀ v₀ → Fr h₀ L h' m → News h₀ L h' news → Q (.ref r) { s₁ with heap := h', toks := tk }) E s)
    (hk : cs.kind = .function := by rfl) (hx : (envX cn cs L a ccd cl).kindOf (Str.ofString "range") = some .globalImplicit := by kernel_rfl)
    (he1 : starEach [e] (envX cn cs L a ccd cl) = [(false, eval e (envX cn cs L a ccd cl))] := by rfl) :
    wpAny (model prog w) A (eval (.Call (.Name (Str.ofString "range") px) [e] [] pos) (envX cn cs L a ccd cl)) Q E s := by
  refine Call_ (nameX_B F S.X (topRead_of S.T) he boot_range (by decide +kernel) ?_ hk hx (by decide +kernel))
  refine PyProof.Rows.callWith_type1 (spliced_more (wpAny_mono h (fun v s₁ h₁ => spliced_none ?_) fun _ _ x => x) he1) he1 rfl
  obtain ⟨n, t, m, news, rfl, F₁, N₁, k⟩ := h₁
  exact range1_rows F₁ N₁ fun h' tk t₁ u₁ v₁ hr F' N' _ => k _ h' tk t₁ u₁ v₁ hr F' N'

/-- len(x): a list that stands -/
theorem ev_len {K : Frag} {p : Program} {loose : List Str} {mean : ExcName → Option Value} {mg mb : Str → Option Value} {A₀ : Around} {base : Heap} {outer : List Env} {env' : Env} {x : Str} {p1 p2 p3 : Pos} {l : Addr} {vs : List Value}
    (S : Site K p loose mean mg mb A env' A₀ base outer h₀ L) (F : Fr h₀ L s.heap m) (he : nsIn K mainGlobals (Str.ofString "len") = some none) (hm : m x = some (.ref l)) (hl : s.heap.IsList l vs.toArray) (hlen : vs.length ≤ 1000000)
    (h : ∀ t, Q (.int (vs.length : Int) t) { s with toks := s.toks + 1 + 1 })
    (hk : cs.kind = .function := by rfl) (hx : (envX cn cs L a ccd cl).kindOf x = some .local := by kernel_rfl) (hd : (x == ("__debug__" : Str)) = false := by decide +kernel)
    (hx2 : (envX cn cs L a ccd cl).kindOf (Str.ofString "len") = some .globalImplicit := by kernel_rfl) :
    wpAny (model prog w) A (eval (.Call (.Name (Str.ofString "len") p1) [.Name x p2] [] p3) (envX cn cs L a ccd cl)) Q E s := by
  refine call_b1 (cl := cl) S F he boot_len ?_ (by decide +kernel) hk hx2 (by decide +kernel) rfl
  refine nameX_L F hm ?_ hk hx hd
  refine len_list hl (by rw [List.size_toArray]; omega) ?_
  rw [List.size_toArray]
  exact h _

/-- an item of a list of numbers -/
theorem ev_kth {xl xi : Str} {p1 p2 p3 : Pos} {l : Addr} {vs : List Value} {ks : List Nat} {i k : Nat} {ti : Tok}
    (F : Fr h₀ L s.heap m) (hm : m xl = some (.ref l)) (hmi : m xi = some (.int (i : Int) ti)) (hl : s.heap.IsList l vs.toArray) (hv : KsAt vs ks) (hi : ks[i]? = some k) (hlen : ks.length ≤ 1000000)
    (h : ∀ t, Q (.int (k : Int) t) s)
    (hk : cs.kind = .function := by rfl) (hx : (envX cn cs L a ccd cl).kindOf xl = some .local := by kernel_rfl) (hd : (xl == ("__debug__" : Str)) = false := by decide +kernel)
    (hx2 : (envX cn cs L a ccd cl).kindOf xi = some .local := by kernel_rfl) (hd2 : (xi == ("__debug__" : Str)) = false := by decide +kernel) :
    wpAny (model prog w) A (eval (.Subscript (.Name xl p1) (.Name xi p2) p3) (envX cn cs L a ccd cl)) Q E s := by
  refine Subscript_ (nameX_L F hm (nameX_L F hmi ?_ hk hx2 hd2) hk hx hd)
  obtain ⟨t, ht⟩ := hv.2 i k hi
  have hlt := (List.getElem?_eq_some_iff.mp hi).1
  exact tail_list (vs := vs) (v := .int (k : Int) t) hl (by omega) (by omega) (by rw [Int.toNat_natCast]; exact ht) rfl (h t)
end
end Mine
end

section
open PySem PySem.W PyProof.Rows PyProof.V PySem.Calls
set_option maxRecDepth 100000
namespace Mine
abbrev listO (vs : List Value) (n : Nat) : Obj := { cls := .type "list", data := .seq vs.toArray n }
section
variable {prog : Program} {w : World} {A : Around} {h₀ : Heap} {L a : Addr} {m : Str → Option Value} {env : Env}
  {cn : Str} {cs : Scope} {ccd : Value} {cl cl' : List (Str × Addr)} {news : List (Addr × Obj)} {s₀ : Shared} {hp : Heap} {tk : Tok}

/-- a small power -/
theorem ev_pow {E : Value → Shared → Prop} {s : Shared} {b : Int} {k : Nat} {t u : Tok} {Q : Value → Shared → Prop} (hb : 2 ≤ b) (hb2 : b ≤ 16) (hk : k ≤ 20) (h : ∀ t' tk, Q (.int (b ^ k) t') { s with toks := tk }) :
    wpAny (model prog w) A (binaryOp .Pow (.int b t) (.int (k : Int) u)) Q E s := by
  refine PySem.AutoIntOpsIf.pow ?_
  rw [if_pos (by omega)]
  by_cases h0 : ((k : Int) == 0) = true
  · rw [if_pos h0]
    have : k = 0 := by have := beq_iff_eq.mp h0; omega
    subst this
    have h1 := h s.toks (s.toks + 1)
    rw [show b ^ 0 = 1 from Int.pow_zero b] at h1
    exact h1
  · rw [if_neg h0, if_neg (by simp; omega), if_neg (by simp; omega), if_neg ?_]
    · rw [Int.toNat_natCast]
      exact h _ _
    · unfold Builtin.Int.intTooBig Builtin.Int.intBits
      rw [if_neg (by simp; omega)]
      have hl : b.natAbs.log2 ≤ 4 := by
        have h1 : b.natAbs < 2 ^ 5 := by omega
        have h2 : b.natAbs ≠ 0 := by omega
        have := (Nat.log2_lt h2).mpr h1
        omega
      have h3 : (((b.natAbs.log2 + 1 : Nat) : Int) * (k : Int)) ≤ 5 * 20 := by
        have : (b.natAbs.log2 + 1) * k ≤ 5 * 20 := Nat.mul_le_mul (by omega) hk
        have h4 : (((b.natAbs.log2 + 1) * k : Nat) : Int) ≤ ((5 * 20 : Nat) : Int) := Int.ofNat_le.mpr this
        rw [Int.natCast_mul] at h4
        exact h4
      have h5 : (100 : Int) ≤ bitsLine := by decide +kernel
      rw [decide_eq_true_eq]
      intro hgt
      omega

/-- y = [elt for x in range(n)] -/
theorem let_comp_range {elt iter : Expr} {x y : Str} {px py spos pos : Pos} {scope : Scope} {rest : List Stmt} {Q : Flow → Shared → Prop} (R : Nat → Value → Prop) (hh : A.handled = none)
    (hsw : swapsWith (.ListComp elt [⟨.Name x px, iter, [], 0⟩] scope spos) (some (.Name y py)) pos.line (envX cn cs L a ccd cl) = pure true)
    (hcl : closureFor scope (envX cn cs L a ccd cl) = pure cl') (hcell : ∀ z ∈ scope.names, z.2 ≠ .cell) (hkind : scope.kind = .function) (hnames : ∀ z ∈ scope.names, z.2 = .local → scope.names.lookup z.1 = some .local) (hx : scope.names.lookup x = some .local)
    (hy : (envX cn cs L a ccd cl).kindOf y = some .local) (hk : cs.kind = .function) (hs : ∀ v, foldedSetIterable iter (envX cn cs L a ccd cl) v = pure v)
    (F₀ : Fr h₀ L hp m)
    (h : wpAny (model prog w) A (eval iter (envX cn cs L a ccd cl)) (fun xv s₁ => ∃ (r : Addr) (n : Nat) (t u v : Tok) (news : List (Addr × Obj)) (h₁ : Heap) (tk₁ : Tok), xv = .ref r ∧ s₁ = { s₀ with heap := h₁, toks := tk₁ } ∧ Fr h₀ L h₁ m ∧ News h₀ L h₁ news ∧ IsRange h₁ r 0 (n : Int) 1 t u v ∧ n ≤ 1000 ∧
      (∀ i t C m₂ own s₂, i < n → s₂.heap.Ns C m₂ → m₂ x = some (.int (i : Int) t) → Fr h₀ L s₂.heap m → News h₀ L s₂.heap (own ++ news) →
        wpAny (model prog w) A (eval elt (compEnvC scope cl' C (envX cn cs L a ccd cl))) (fun y s₃ => ∃ h' tk, s₃ = { s₂ with heap := h', toks := tk } ∧ Fr h₀ L h' m ∧ News h₀ L h' (own ++ news) ∧ R i y) (fun _ _ => False) s₂) ∧
      (∀ ys D h' tk', tk ≤ tk' → ys.length = n → (∀ (i : Nat) (y : Value), ys[i]? = some y → R i y) → Fr h₀ L h' (upd m y (.ref D)) → News h₀ L h' ((D, LCg.lst ys) :: news) → (∀ q ∈ news, q.1 ≠ D) →
        wpAny (model prog w) A (execs rest (envX cn cs L a ccd cl)) Q (fun _ _ => False) { s₀ with heap := h', toks := tk' })) (fun _ _ => False) { s₀ with heap := hp, toks := tk }) :
    wpAny (model prog w) A (execs (.Assign [.Name y py] (.ListComp elt [⟨.Name x px, iter, [], 0⟩] scope spos) pos :: rest) (envX cn cs L a ccd cl)) Q (fun _ _ => False) { s₀ with heap := hp, toks := tk } := by
  refine wpAny_execs_cons (toksQ ?_)
  refine LCg.Assign_ListComp_U (h₀ := h₀) (L := L) (m := m) (s := { s₀ with heap := hp, toks := tk }) F₀ rfl hsw hcl hcell hkind hnames hx hy ?_ ?_ hs
  · show ((cs.kind == .class || (cs.kind == .module && _)) = false)
    rw [hk]; rfl
  refine wpAny_mono h ?_ (fun _ _ e => e)
  rintro xv s₁ ⟨r, n, t, u, v, news, h₁, tk₁, rfl, rfl, F₁, N₁, hr, hn, step, fin⟩
  refine LCg.CompSrc.range (s₁ := { s₀ with heap := h₁, toks := tk₁ }) hh F₁ N₁ hr (small_one (by decide) (by decide) (by omega) (by omega)) (by rw [rangeSize_nat]; try omega) (by rw [sizeLine_eq]; omega) fun g => ?_
  refine comp_rest R trivial ?_ ?_
  · rintro i v C m₂ own s₃ hi ⟨tt, rfl⟩ hns hxv F₃ N₃
    rw [Int.zero_add] at hxv
    exact step i tt C m₂ own s₃ hi hns hxv F₃ N₃
  · intro ys hl hR D h' tk' F' N' off htk
    exact fin ys D h' tk' htk hl hR F' N' (off1_mem off)

/-- xl.append(e) -/
theorem st_append {E : Value → Shared → Prop} {xl : Str} {p1 p2 p3 p4 : Pos} {e : Expr} {rest : List Stmt} {Q : Flow → Shared → Prop} {D : Addr} {vs : List Value} {n : Nat}
    (F : Fr h₀ L hp m) (N : News h₀ L hp news) (hm : m xl = some (.ref D)) (hD : (D, listO vs n) ∈ news)
    (hk : cs.kind = .function) (hx : (envX cn cs L a ccd cl).kindOf xl = some .local) (hd : (xl == ("__debug__" : Str)) = false) (hp2 : (p2.endLine == p3.line) = true)
    (he : starEach [e] (envX cn cs L a ccd cl) = [(false, eval e (envX cn cs L a ccd cl))])
    (hs : swapsWith (.Call (.Attribute (.Name xl p1) (Str.ofString "append") p2) [e] [] p3) none p4.line (envX cn cs L a ccd cl) = pure false) (hi : interactive (envX cn cs L a ccd cl) = false)
    (h : wpAny (model prog w) A (eval e (envX cn cs L a ccd cl)) (fun v s₁ => ∃ h₁ tk₁, s₁ = { s₀ with heap := h₁, toks := tk₁ } ∧ h₁.get? D = some (listO vs n) ∧ vs.length ≤ 1000 ∧
      ∀ h', Heap.SameBut D h₁ h' → h'.get? D = some (listO (vs ++ [v]) (n + 1)) → wpAny (model prog w) A (execs rest (envX cn cs L a ccd cl)) Q E { s₀ with heap := h', toks := tk₁ }) E { s₀ with heap := hp, toks := tk }) :
    wpAny (model prog w) A (execs (.Expr (.Call (.Attribute (.Name xl p1) (Str.ofString "append") p2) [e] [] p3) p4 :: rest) (envX cn cs L a ccd cl)) Q E { s₀ with heap := hp, toks := tk } := by
  refine wpAny_execs_cons (wpAny_Expr ?_ hi hs)
  refine mcall hp2 (by show methodCallForm _ (backTo p3 (starEach [e] _)) _ = true; rw [he]; rfl) rfl (nameX_L (s := { s₀ with heap := hp, toks := tk }) F hm ?_ hk hx hd)
  refine getMethod_append_N (s := { s₀ with heap := hp, toks := tk }) N hD ?_ rfl rfl
  refine callWith_method1 (spliced_more (wpAny_mono h (fun v s₁ h₁ => spliced_none ?_) fun _ _ x => x) he) he rfl
  obtain ⟨h₁, tk₁, rfl, hg, hl, k⟩ := h₁
  refine append_at (s := { s₀ with heap := h₁, toks := tk₁ }) hg (fun h' hs' hg' => ?_) (by rw [List.size_toArray, sizeLine_eq]; omega)
  refine k h' hs' ?_
  rw [hg']
  simp [listO]
end
end Mine
end

section
open PySem PySem.StrLaws PySem.Builtin.Str
set_option maxRecDepth 100000
namespace Mine.LA
abbrev o (s : String) : Str := Str.ofString s
def S : List (Str × Str) := [(o "&", o "&amp;"), (o ">", o "&gt;"), (o "<", o "&lt;")]
def H : List (Str × Str) := [(o "&", o "&amp;"), (o "<", o "&lt;"), (o ">", o "&gt;")]
def M2 : List (Str × Str) := [(o "\"", o "&quot;"), (o "'", o "&#x27;")]
def W3 : List (Str × Str) := [(o "\n", o "&#10;"), (o "\x0d", o "&#13;"), (o "\t", o "&#9;")]
def V : List (Str × Str) := [(o "&lt;", o "<"), (o "&gt;", o ">")]
def A3 : List (Str × Str) := [(o "'", o "&apos;"), (o "\x0d", o "&#13;")]
def D1 : List (Str × Str) := [(o "\"", o "&quot;")]
def AT : List (Str × Str) := [(o "&", o "&amp;"), (o "<", o "&lt;"), (o ">", o "&gt;"), (o "\"", o "&quot;"), (o "\x0d", o "&#13;"), (o "\n", o "&#10;"), (o "\t", o "&#09;")]
def AH : List (Str × Str) := [(o "&", o "&amp;"), (o ">", o "&gt;"), (o "\"", o "&quot;")]
def CC : List (Str × Str) := [(o "&", o "&amp;"), (o "<", o "&lt;"), (o ">", o "&gt;"), (o "\x0d", o "&#xD;")]
def AC : List (Str × Str) := [(o "&", o "&amp;"), (o "<", o "&lt;"), (o "\"", o "&quot;"), (o "\t", o "&#x9;"), (o "\n", o "&#xA;"), (o "\x0d", o "&#xD;")]
def numR (R : List (Str × Str)) : List NRep := R.map fun r => (r.1.cps.toList.headD 0, r.2.cps.toList)
def sg8 : List Nat := [34, 38, 39, 60, 62, 9, 10, 13]
def amp : List Nat := [97, 109, 112, 59]
def sgn (c : Nat) : Str := ⟨#[c]⟩
def lkp (l : List (Str × Str)) (k : Str) : Option Str := (l.find? fun e => e.1 = k).map (·.2)

/-- the ten writers of law 04 -/
def RW (k : Nat) (f : Bool) : List (Str × Str) := match k with
  | 0 => H | 1 => H ++ M2 | 2 => S | 3 => S ++ A3 | 4 => S ++ (W3 ++ if f = true then D1 else []) | 5 => H | 6 => AT | 7 => AH | 8 => CC | _ => AC
def LG : List (Str × Str) := [(o "<", o "lt;"), (o ">", o "gt;")]
/-- the names' lines as the law writes them -/
def NM0 : List (List (Str × Str)) := [LG, LG ++ [(o "\"", o "quot;"), (o "'", o "#x27;")], LG, LG ++ [(o "'", o "apos;"), (o "\x0d", o "#13;")], LG ++ [(o "\n", o "#10;"), (o "\x0d", o "#13;"), (o "\t", o "#9;")], LG,
  LG ++ [(o "\"", o "quot;"), (o "\n", o "#10;"), (o "\x0d", o "#13;"), (o "\t", o "#09;")], [(o ">", o "gt;"), (o "\"", o "quot;")], LG ++ [(o "\x0d", o "#xD;")], [(o "<", o "lt;"), (o "\"", o "quot;"), (o "\n", o "#xA;"), (o "\x0d", o "#xD;"), (o "\t", o "#x9;")]]
def NM (k : Nat) (f : Bool) : List (Str × Str) := (NM0[k]?).getD [] ++ if f = true then [(o "\"", o "quot;")] else []

abbrev Lay := Nat × Bool
def encW (x : Lay) (c : Nat) : List Nat := enc (numR (RW x.1 x.2)) c
def nameN (x : Lay) (c : Nat) : Option (List Nat) := if encW x c = [c] then none else some (encW x c).tail
def okLay (x : Lay) : Prop := x.1 < 10 ∧ (x.2 = true → x.1 = 4)

abbrev ChkW (x : Lay) : Prop :=
  (lreps (RW x.1 x.2) = single (numR (RW x.1 x.2)) ∧ (∀ k ∈ (numR (RW x.1 x.2)).map (·.1), k ∈ sg8)) ∧
  (∀ c ∈ sg8, encW x c = [c] ∨ encW x c = 38 :: (encW x c).tail) ∧ (∀ c ∈ sg8, ∀ v ∈ (encW x c).tail, v ∉ sg8) ∧ encW x 38 = 38 :: amp ∧
  (∀ c ∈ sg8, c ≠ 38 → (lkp (NM x.1 x.2) (sgn c)).map (·.cps.toList) = nameN x c) ∧
  (∀ i ∈ List.range 12, ∀ c ∈ sg8, (enc ((numR (RW x.1 x.2)).take i) c).length ≤ 6) ∧ (∀ r ∈ RW x.1 x.2, r.2.length ≤ 8) ∧ (numR (RW x.1 x.2)).length < 12 ∧
  (∀ c ∈ sg8, good (encW x c) = true) ∧ (∀ e ∈ NM x.1 x.2, e.1 ∈ sg8.map sgn ∧ e.1 ≠ sgn 38 ∧ e.2.length ≤ 5) ∧ ((NM x.1 x.2).map (·.1)).Nodup ∧ (∀ c ∈ sg8, (encW x c).length ≤ 6)
theorem chkW0 : ∀ k ∈ List.range 10, ChkW (k, false) := by decide +kernel
theorem chkW1 : ChkW (4, true) := by decide +kernel
theorem chkW (x : Lay) (h : okLay x) : ChkW x := by
  obtain ⟨k, f⟩ := x
  cases f with
  | false => exact chkW0 k (List.mem_range.mpr h.1)
  | true =>
    have : k = 4 := h.2 rfl
    subst this; exact chkW1

theorem encW_other {x : Lay} (h : okLay x) {c : Nat} (hc : c ∉ sg8) : encW x c = [c] := enc_other fun q => hc ((chkW x h).1.2 c q)

/-- what stands behind a sign's & after the layers -/
def tls (ls : List Lay) (c : Nat) : Option (List Nat) := ls.foldl (fun st x => match st with | some w => some (amp ++ w) | none => nameN x c) none
def im (ls : List Lay) (c : Nat) : List Nat := match tls ls c with | none => [c] | some w => 38 :: w
theorem tls_snoc (ls : List Lay) (x : Lay) (c : Nat) : tls (ls ++ [x]) c = match tls ls c with | some w => some (amp ++ w) | none => nameN x c := by
  unfold tls; rw [List.foldl_append]; rfl
theorem snoc_rec {α : Type} {P : List α → Prop} (h0 : P []) (h1 : ∀ l x, P l → P (l ++ [x])) (l : List α) : P l := by
  have : ∀ l : List α, P l.reverse := by
    intro l
    induction l with
    | nil => exact h0
    | cons a r ih => rw [List.reverse_cons]; exact h1 _ _ ih
  have h := this l.reverse
  rwa [List.reverse_reverse] at h
theorem tls_plain : ∀ {ls : List Lay}, (∀ x ∈ ls, okLay x) → ∀ {c : Nat} {w : List Nat}, tls ls c = some w → ∀ v ∈ w, v ∉ sg8 := by
  intro ls
  refine snoc_rec (P := fun ls => (∀ x ∈ ls, okLay x) → ∀ {c : Nat} {w : List Nat}, tls ls c = some w → ∀ v ∈ w, v ∉ sg8) ?_ ?_ ls
  · intro _ c w h; cases h
  · intro ls x ih
    intro hok c w h v hv
    have hx := hok x (by simp)
    rw [tls_snoc] at h
    cases hw : tls ls c with
    | some w' =>
      rw [hw] at h
      have e : amp ++ w' = w := Option.some.inj h
      subst e
      rcases List.mem_append.mp hv with hv | hv
      · exact (by decide : ∀ v ∈ amp, v ∉ sg8) v hv
      · exact ih (fun y hy => hok y (by simp [hy])) hw v hv
    | none =>
      rw [hw] at h
      have h : nameN x c = some w := h
      unfold nameN at h
      split at h
      · cases h
      · rename_i hne
        by_cases hc : c ∈ sg8
        · have e : (encW x c).tail = w := Option.some.inj h
          subst e
          exact (chkW x hx).2.2.1 c hc v hv
        · exact absurd (encW_other hx hc) hne
theorem encW_plain {x : Lay} (h : okLay x) : ∀ {w : List Nat}, (∀ v ∈ w, v ∉ sg8) → w.flatMap (encW x) = w
  | [], _ => rfl
  | a :: r, hw => by
    rw [List.flatMap_cons, encW_other h (hw a (List.mem_cons_self ..)), encW_plain h fun v hv => hw v (List.mem_cons_of_mem _ hv)]
    rfl
theorem im_step {ls : List Lay} {x : Lay} (hl : ∀ y ∈ ls, okLay y) (hx : okLay x) (c : Nat) : (im ls c).flatMap (encW x) = im (ls ++ [x]) c := by
  unfold im
  rw [tls_snoc]
  cases hw : tls ls c with
  | some w =>
    show ((38 :: w).flatMap (encW x)) = 38 :: (amp ++ w)
    rw [List.flatMap_cons, (chkW x hx).2.2.2.1, encW_plain hx (tls_plain hl hw)]
    rfl
  | none =>
    show ([c].flatMap (encW x)) = match nameN x c with | none => [c] | some w => 38 :: w
    rw [List.flatMap_cons, List.flatMap_nil, List.append_nil]
    unfold nameN
    by_cases he : encW x c = [c]
    · rw [if_pos he]; exact he
    · rw [if_neg he]
      by_cases hc : c ∈ sg8
      · rcases (chkW x hx).2.1 c hc with h | h
        · exact absurd h he
        · exact h
      · exact absurd (encW_other hx hc) he
/-- a layer over the layers -/
theorem layer {ls : List Lay} {x : Lay} (hl : ∀ y ∈ ls, okLay y) (hx : okLay x) {X T : Str} (h : T.cps.toList = X.cps.toList.flatMap (im ls)) : (repls T (RW x.1 x.2)).cps.toList = X.cps.toList.flatMap (im (ls ++ [x])) := by
  rw [repls_enc (chkW x hx).1.1, h, List.flatMap_assoc]
  exact fm_congr' fun c _ => im_step hl hx c

theorem tls_len : ∀ {ls : List Lay}, (∀ x ∈ ls, okLay x) → ∀ {c : Nat} {w : List Nat}, tls ls c = some w → w.length ≤ 5 + 4 * ls.length := by
  intro ls
  refine snoc_rec (P := fun ls => (∀ x ∈ ls, okLay x) → ∀ {c : Nat} {w : List Nat}, tls ls c = some w → w.length ≤ 5 + 4 * ls.length) ?_ ?_ ls
  · intro _ c w h; cases h
  · intro ls x ih
    intro hok c w h
    have hx := hok x (by simp)
    rw [tls_snoc] at h
    rw [List.length_append, List.length_singleton]
    cases hw : tls ls c with
    | some w' =>
      rw [hw] at h
      have e : amp ++ w' = w := Option.some.inj h
      subst e
      have := ih (fun y hy => hok y (by simp [hy])) hw
      rw [List.length_append, show amp.length = 4 from rfl]
      omega
    | none =>
      rw [hw] at h
      have h : nameN x c = some w := h
      unfold nameN at h
      split at h
      · cases h
      · rename_i hne
        by_cases hc : c ∈ sg8
        · have e : (encW x c).tail = w := Option.some.inj h
          subst e
          have := (chkW x hx).2.2.2.2.2.2.2.2.2.2.2 c hc
          rw [List.length_tail]; omega
        · exact absurd (encW_other hx hc) hne
theorem im_len {ls : List Lay} (h : ∀ x ∈ ls, okLay x) (c : Nat) : (im ls c).length ≤ 6 + 4 * ls.length := by
  unfold im
  cases hw : tls ls c with
  | none => show 1 ≤ _; omega
  | some w => have := tls_len h hw; rw [List.length_cons]; omega
theorem lay_len {ls : List Lay} (h : ∀ x ∈ ls, okLay x) {X T : Str} (hT : T.cps.toList = X.cps.toList.flatMap (im ls)) : T.length ≤ (6 + 4 * ls.length) * X.length := by
  rw [← tl, hT, ← tl X]
  exact flatMap_len (im_len h) _
theorem rw_fits {x : Lay} (h : okLay x) {X : Str} (hX : X.length ≤ 100000) : Fits X (RW x.1 x.2) := by
  have q := chkW x h
  refine fits_enc q.1.1 q.2.2.2.2.2.2.1 (b := 6) (fun i k => ?_) (by omega)
  by_cases hk : k ∈ sg8
  · by_cases hi : i < 12
    · exact q.2.2.2.2.2.1 i (List.mem_range.mpr hi) k hk
    · have hh := q.2.2.2.2.2.1 11 (by decide) k hk
      have hf := q.2.2.2.2.2.2.2.1
      rw [List.take_of_length_le (by omega)] at hh ⊢
      exact hh
  · rw [enc_other fun hq => hk (q.1.2 k (by rw [List.map_take] at hq; exact List.mem_of_mem_take hq))]
    simp
theorem encW_good {x : Lay} (h : okLay x) (c : Nat) : good (encW x c) = true := by
  by_cases hc : c ∈ sg8
  · exact (chkW x h).2.2.2.2.2.2.2.2.1 c hc
  · rw [encW_other h hc]
    have : c ≠ 38 := fun e => hc (by simp [e, sg8])
    simp [good, this]

/-- a bare single mark stands where it stood and none wrote it -/
theorem bare_single {ls : List Lay} (h : ∀ x ∈ ls, okLay x) {c : Nat} (hc : c ∈ sg8) (hc38 : c ≠ 38) {X T : Str} (hT : T.cps.toList = X.cps.toList.flatMap (im ls)) : c ∈ T.cps.toList ↔ c ∈ X.cps.toList ∧ tls ls c = none := by
  rw [hT, List.mem_flatMap]
  constructor
  · rintro ⟨k, hk, hm⟩
    unfold im at hm
    cases hw : tls ls k with
    | none =>
      rw [hw] at hm
      have : c = k := List.mem_singleton.mp hm
      subst this; exact ⟨hk, hw⟩
    | some w =>
      rw [hw] at hm
      rcases List.mem_cons.mp hm with e | hm
      · exact absurd e hc38
      · exact absurd hc (tls_plain h hw c hm)
  · rintro ⟨hk, hw⟩
    refine ⟨c, hk, ?_⟩
    unfold im; rw [hw]; exact List.mem_singleton.mpr rfl
end Mine.LA
end

section
open PySem PySem.StrLaws PySem.Builtin.Str
set_option maxRecDepth 100000
namespace Mine.LA
theorem toList_inj {a b : Str} (h : a.cps.toList = b.cps.toList) : a = b := str_ext h
/-- the inside of what quoteattr writes -/
def mid (Y : Str) : Str := if (hasT Y dq && hasT Y sq) = true then Txt.replace Y dq (Str.ofString "&quot;") else Y
theorem quoted_mid (Y : Str) : ∃ q, quoted Y = q ++ mid Y ++ q ∧ (q = dq ∨ q = sq) := by
  unfold quoted mid
  cases h1 : hasT Y dq <;> cases h2 : hasT Y sq
  · exact ⟨dq, rfl, .inl rfl⟩
  · exact ⟨dq, rfl, .inl rfl⟩
  · exact ⟨sq, rfl, .inr rfl⟩
  · exact ⟨dq, rfl, .inl rfl⟩
theorem has1 (X : Str) (c : Nat) : hasT X (sgn c) = true ↔ c ∈ X.cps.toList := hasOne X c
theorem dq_sgn : dq = sgn 34 := by decide +kernel
theorem sq_sgn : sq = sgn 39 := by decide +kernel
theorem enc_has {x : Lay} (h : okLay x) {c : Nat} (hc : c ∈ sg8) (h38 : c ≠ 38) (k : Nat) : c ∈ encW x k ↔ k = c ∧ encW x c = [c] := by
  constructor
  · intro hm
    by_cases hk : k ∈ sg8
    · rcases (chkW x h).2.1 k hk with e | e
      · rw [e] at hm
        have : c = k := List.mem_singleton.mp hm
        subst this; exact ⟨rfl, e⟩
      · rw [e] at hm
        rcases List.mem_cons.mp hm with e' | hm
        · exact absurd e' h38
        · exact absurd hc ((chkW x h).2.2.1 k hk c hm)
    · rw [encW_other h hk] at hm
      exact absurd (List.mem_singleton.mp hm ▸ hc) hk
  · rintro ⟨rfl, e⟩; rw [e]; exact List.mem_singleton.mpr rfl
theorem mid_eq (L : Str) : mid (repls (repls L S) W3) = repls L (RW 4 (hasT L sq)) := by
  have h0 : okLay (4, false) := ⟨by decide, fun h => nomatch h⟩
  have h1 : okLay (4, true) := ⟨by decide, fun _ => rfl⟩
  have e0 : repls (repls L S) W3 = repls L (RW 4 false) := by
    show _ = repls L (S ++ (W3 ++ []))
    rw [List.append_nil, repls_append L]
  have c0 : (repls L (RW 4 false)).cps.toList = L.cps.toList.flatMap (encW (4, false)) := repls_enc (chkW _ h0).1.1 L
  have c1 : (repls L (RW 4 true)).cps.toList = L.cps.toList.flatMap (encW (4, true)) := repls_enc (chkW _ h1).1.1 L
  have hh : ∀ c, c ∈ sg8 → c ≠ 38 → encW (4, false) c = [c] → hasT (repls L (RW 4 false)) (sgn c) = hasT L (sgn c) := by
    intro c hc h38 he
    rw [Bool.eq_iff_iff, has1, has1, c0, List.mem_flatMap]
    constructor
    · rintro ⟨k, hk, hm⟩
      exact ((enc_has h0 hc h38 k).mp hm).1 ▸ hk
    · intro hk; exact ⟨c, hk, (enc_has h0 hc h38 c).mpr ⟨rfl, he⟩⟩
  rw [e0]
  unfold mid
  rw [dq_sgn, sq_sgn, hh 34 (by decide) (by decide) (by decide +kernel), hh 39 (by decide) (by decide) (by decide +kernel)]
  cases hs : hasT L (sgn 39) with
  | false => rw [Bool.and_false, if_neg Bool.false_ne_true]
  | true =>
    cases hd : hasT L (sgn 34) with
    | true =>
      rw [Bool.and_self, if_pos rfl, ← dq_sgn]
      show repls (repls L (RW 4 false)) D1 = _
      rw [← repls_append L]
      rfl
    | false =>
      rw [Bool.and_true, if_neg Bool.false_ne_true]
      refine str_ext ?_
      rw [c0, c1]
      refine fm_congr' fun k hk => ?_
      have hk34 : k ≠ 34 := fun e => by
        have := (has1 L 34).mpr (e ▸ hk)
        rw [hd] at this; cases this
      by_cases hk8 : k ∈ sg8
      · have : ∀ k ∈ sg8, k ≠ 34 → encW (4, false) k = encW (4, true) k := by decide +kernel
        exact this k hk8 hk34
      · rw [encW_other h0 hk8, encW_other h1 hk8]

/-- what the k-th writer writes -/
def Wr (k : Nat) (T : Str) : Str := repls T (RW k (k == 4 && hasT T sq))
/-- the layers of kinds; b: a single mark is in the text -/
def lay (b : Bool) (ks : List Nat) : List Lay := ks.foldl (fun ls k => ls ++ [(k, k == 4 && b && (tls ls 39).isNone)]) []
theorem lay_snoc (b : Bool) (ks : List Nat) (k : Nat) : lay b (ks ++ [k]) = lay b ks ++ [(k, k == 4 && b && (tls (lay b ks) 39).isNone)] := by
  unfold lay; rw [List.foldl_append]; rfl
theorem lay_length (b : Bool) (ks : List Nat) : (lay b ks).length = ks.length := by
  refine snoc_rec (P := fun ks => (lay b ks).length = ks.length) rfl (fun l x ih => ?_) ks
  rw [lay_snoc, List.length_append, List.length_append, ih]; rfl
theorem lay_ok (b : Bool) (ks : List Nat) : (∀ k ∈ ks, k < 10) → ∀ x ∈ lay b ks, okLay x := by
  refine snoc_rec (P := fun ks => (∀ k ∈ ks, k < 10) → ∀ x ∈ lay b ks, okLay x) (fun _ x hx => nomatch hx) (fun l k ih h x hx => ?_) ks
  rw [lay_snoc] at hx
  rcases List.mem_append.mp hx with hx | hx
  · exact ih (fun k hk => h k (by simp [hk])) x hx
  · rw [List.mem_singleton.mp hx]
    refine ⟨h k (by simp), fun hf => ?_⟩
    simp at hf
    exact hf.1.1
/-- the closed form -/
def due (X : Str) (ks : List Nat) : Str := ⟨(X.cps.toList.flatMap (im (lay (hasT X sq) ks))).toArray⟩
theorem due_list (X : Str) (ks : List Nat) : (due X ks).cps.toList = X.cps.toList.flatMap (im (lay (hasT X sq) ks)) := rfl
theorem due_nil (X : Str) : due X [] = X := by
  refine str_ext ?_
  rw [due_list]
  show X.cps.toList.flatMap (fun c => [c]) = _
  generalize X.cps.toList = l
  induction l with
  | nil => rfl
  | cons a r ih => rw [List.flatMap_cons, ih]; rfl
theorem flag_eq {X : Str} {ks : List Nat} (h : ∀ k ∈ ks, k < 10) (k : Nat) : (k == 4 && hasT (due X ks) sq) = (k == 4 && hasT X sq && (tls (lay (hasT X sq) ks) 39).isNone) := by
  rw [Bool.and_assoc]
  congr 1
  have := bare_single (lay_ok (hasT X sq) ks h) (c := 39) (by decide) (by decide) (due_list X ks)
  rw [Bool.eq_iff_iff, Bool.and_eq_true, Option.isNone_iff_eq_none]
  generalize hb : hasT X sq = b at *
  rw [sq_sgn, has1] 
  rw [sq_sgn] at hb
  rw [this, ← hb, has1]
theorem due_step {X : Str} {ks : List Nat} (h : ∀ k ∈ ks, k < 10) {k : Nat} (hk : k < 10) : Wr k (due X ks) = due X (ks ++ [k]) := by
  refine str_ext ?_
  unfold Wr
  rw [flag_eq h k, due_list, lay_snoc]
  exact layer (x := (k, k == 4 && hasT X sq && (tls (lay (hasT X sq) ks) 39).isNone)) (lay_ok _ _ h) ⟨hk, fun hf => by simp at hf; exact hf.1.1⟩ (due_list X ks)
theorem due_len {X : Str} {ks : List Nat} (h : ∀ k ∈ ks, k < 10) : (due X ks).length ≤ (6 + 4 * ks.length) * X.length := by
  have := lay_len (lay_ok (hasT X sq) ks h) (due_list X ks)
  rwa [lay_length] at this

/-- the table of law 04 -/
def KN : List (Str × Str) := [(o "&quot;", o "\""), (o "&#x27;", o "'"), (o "&apos;", o "'"), (o "&#13;", o "\x0d"), (o "&#xD;", o "\x0d"), (o "&#10;", o "\n"), (o "&#xA;", o "\n"), (o "&#9;", o "\t"), (o "&#09;", o "\t"), (o "&#x9;", o "\t")]
def rot (t : Nat) : List (Str × Str) := KN.drop t ++ KN.take t
abbrev ChkB (x : Lay) (t : Nat) : Prop := ∀ c ∈ sg8, (if dec (lreps (V ++ rot t)) (encW x c) = [38, 97, 109, 112, 59] then [38] else dec (lreps (V ++ rot t)) (encW x c)) = [c]
theorem chkB0 : ∀ t ∈ List.range 10, ∀ k ∈ List.range 10, ChkB (k, false) t := by decide +kernel
theorem chkB1 : ∀ t ∈ List.range 10, ChkB (4, true) t := by decide +kernel
theorem chkB {x : Lay} (h : okLay x) {t : Nat} (ht : t < 10) : ChkB x t := by
  obtain ⟨k, f⟩ := x
  cases f with
  | false => exact chkB0 t (List.mem_range.mpr ht) k (List.mem_range.mpr h.1)
  | true =>
    have : k = 4 := h.2 rfl
    subst this; exact chkB1 t (List.mem_range.mpr ht)
abbrev RotOk (t : Nat) : Prop := (∀ r ∈ lreps (V ++ rot t), isRef r.1 = true ∧ good r.2 = true) ∧ (∀ r ∈ V ++ rot t ++ [(o "&amp;", o "&")], 1 ≤ r.1.length ∧ r.2.length ≤ r.1.length ∧ r.2.length ≤ 8) ∧ ((rot t).map (·.1)).Nodup ∧ (rot t).length = 10 ∧ rot t ≠ []
theorem rotOk : ∀ t ∈ List.range 10, RotOk t := by decide +kernel
theorem dec_one : ∀ {ys : List LRep} {k : Nat}, (∀ r ∈ ys, isRef r.1 = true) → dec ys [k] = [k]
  | [], _, _ => rfl
  | r :: rs, k, h => by
    obtain ⟨b, e, _⟩ := isRef_shape (h r (List.mem_cons_self ..))
    have : ¬ ([k] = r.1) := by rw [e]; simp
    show dec rs (if [k] = r.1 then r.2 else [k]) = [k]
    rw [if_neg this]
    exact dec_one fun q hq => h q (List.mem_cons_of_mem _ hq)
/-- unescape takes a layer off -/
theorem off {x : Lay} (h : okLay x) {t : Nat} (ht : t < 10) (T : Str) : Txt.replace (repls (repls (repls T (RW x.1 x.2)) V) (rot t)) (o "&amp;") (o "&") = T := by
  rw [← repls_append (repls T (RW x.1 x.2))]
  have hr := rotOk t (List.mem_range.mpr ht)
  refine unesc_str (al := [38, 97, 109, 112, 59]) (zl := [38]) (chkW x h).1.1 rfl (by decide +kernel) (by decide +kernel) hr.1 (by decide +kernel) (encW_good h) (fun k => ?_) T
  by_cases hk : k ∈ sg8
  · exact chkB h ht k hk
  · rw [show enc (numR (RW x.1 x.2)) k = [k] from encW_other h hk, dec_one fun r hr' => (hr.1 r hr').1, if_neg (by simp)]
theorem off_fits {t : Nat} (ht : t < 10) {Y : Str} (hY : Y.length ≤ 1000000) : Fits Y V ∧ Fits (repls Y V) (rot t) ∧ Fits (repls (repls Y V) (rot t)) [(o "&amp;", o "&")] := by
  have hr := rotOk t (List.mem_range.mpr ht)
  have h1 := (fits_shrink (R := V ++ rot t ++ [(o "&amp;", o "&")]) (X := Y) hr.2.1 (by omega)).1
  have fa : ∀ {X : Str} {a b : List (Str × Str)}, Fits X (a ++ b) → Fits X a ∧ Fits (repls X a) b := by
    intro X a
    induction a generalizing X with
    | nil => intro b h; exact ⟨trivial, h⟩
    | cons r rs ih => intro b h; exact ⟨⟨h.1, (ih h.2).1⟩, (ih h.2).2⟩
  have h2 := fa h1
  have h3 := fa h2.1
  refine ⟨h3.1, h3.2, ?_⟩
  rw [← repls_append Y]; exact h2.2
end Mine.LA
end

section
open PySem PySem.StrLaws PySem.Builtin.Str
set_option maxRecDepth 100000
namespace Mine.LA
def ampS : Str := o "amp;"
theorem ampS_list : ampS.cps.toList = amp := by decide +kernel
def toS (w : List Nat) : Str := ⟨w.toArray⟩
theorem toS_list (w : List Nat) : (toS w).cps.toList = w := by simp [toS]
theorem lkp_append (a b : List (Str × Str)) (k : Str) : lkp (a ++ b) k = match lkp a k with | some v => some v | none => lkp b k := by
  unfold lkp
  rw [List.find?_append]
  cases h : a.find? fun e => e.1 = k <;> simp
theorem lkp_none {l : List (Str × Str)} {k : Str} : lkp l k = none ↔ k ∉ l.map (·.1) := by
  unfold lkp
  rw [Option.map_eq_none_iff, List.find?_eq_none]
  constructor
  · intro h hm
    obtain ⟨e, he, hk⟩ := List.mem_map.mp hm
    exact absurd hk (by simpa using h e he)
  · intro h e he hk
    exact h (List.mem_map.mpr ⟨e, he, by simpa using hk⟩)
/-- a line laid, if its key is new -/
def put (m : Nat) (l : List (Str × Str)) (e : Str × Str) : List (Str × Str) := if (lkp l e.1).isSome = true then l else l ++ [(e.1, rep ampS m ++ e.2)]
def puts (m : Nat) (l es : List (Str × Str)) : List (Str × Str) := es.foldl (put m) l
theorem puts_snoc (m : Nat) (l es : List (Str × Str)) (e : Str × Str) : puts m l (es ++ [e]) = put m (puts m l es) e := by unfold puts; rw [List.foldl_append]; rfl
theorem puts_lkp (m : Nat) (l : List (Str × Str)) (c : Str) : ∀ es, lkp (puts m l es) c = match lkp l c with | some v => some v | none => (lkp es c).map fun v => rep ampS m ++ v := by
  intro es
  refine snoc_rec (P := fun es => lkp (puts m l es) c = match lkp l c with | some v => some v | none => (lkp es c).map fun v => rep ampS m ++ v) ?_ ?_ es
  · show lkp l c = _
    cases lkp l c <;> rfl
  · intro es e ih
    rw [puts_snoc, lkp_append]
    unfold put
    by_cases hs : (lkp (puts m l es) e.1).isSome = true
    · rw [if_pos hs, ih]
      cases h1 : lkp l c with
      | some v => rfl
      | none =>
        rw [h1] at ih
        cases h2 : lkp es c with
        | some v => rfl
        | none =>
          rw [h2] at ih
          have hc : e.1 ≠ c := by
            rintro rfl
            have ih : lkp (puts m l es) e.1 = none := ih
            rw [ih] at hs; cases hs
          show (none : Option Str).map _ = (lkp [e] c).map _
          have : lkp [e] c = none := lkp_none.mpr (by simpa using hc.symm)
          rw [this]
    · rw [if_neg hs, lkp_append, ih]
      cases h1 : lkp l c with
      | some v => rfl
      | none =>
        cases h2 : lkp es c with
        | some v => rfl
        | none =>
          show lkp [(e.1, rep ampS m ++ e.2)] c = (lkp [e] c).map _
          unfold lkp
          by_cases hc : e.1 = c
          · simp [hc]
          · simp [hc]
theorem put_nodup {m : Nat} {l : List (Str × Str)} {e : Str × Str} (h : (l.map (·.1)).Nodup) : ((put m l e).map (·.1)).Nodup := by
  unfold put
  split
  · exact h
  · rename_i hn
    rw [List.map_append, List.nodup_append]
    refine ⟨h, by simp, ?_⟩
    intro a ha b hb
    have hb : b = e.1 := by simpa using hb
    subst hb
    intro hab
    subst hab
    have : lkp l e.1 = none := by
      cases hq : lkp l e.1 with
      | none => rfl
      | some v => rw [hq] at hn; simp at hn
    exact lkp_none.mp this ha
theorem puts_nodup {m : Nat} {l : List (Str × Str)} (h : (l.map (·.1)).Nodup) : ∀ es, ((puts m l es).map (·.1)).Nodup := by
  refine snoc_rec h ?_
  intro es e ih
  rw [puts_snoc]; exact put_nodup ih
theorem puts_length (m : Nat) (l : List (Str × Str)) : ∀ es, (puts m l es).length ≤ l.length + es.length := by
  refine snoc_rec (Nat.le_refl _) ?_
  intro es e ih
  rw [puts_snoc, List.length_append, List.length_singleton]
  unfold put
  split
  · omega
  · rw [List.length_append, List.length_singleton]; omega
theorem puts_keys (m : Nat) (l : List (Str × Str)) : ∀ es, ∀ k ∈ (puts m l es).map (·.1), k ∈ l.map (·.1) ∨ k ∈ es.map (·.1) := by
  refine snoc_rec (fun k h => .inl h) ?_
  intro es e ih k hk
  rw [puts_snoc] at hk
  unfold put at hk
  split at hk
  · exact (ih k hk).imp id fun h => by simp at h ⊢; exact .inl h
  · rw [List.map_append] at hk
    rcases List.mem_append.mp hk with hk | hk
    · exact (ih k hk).imp id fun h => by simp at h ⊢; exact .inl h
    · exact .inr (by simp at hk ⊢; exact .inr hk)
theorem puts_vals (m : Nat) (l : List (Str × Str)) (B : Nat) (hl : ∀ e ∈ l, e.2.length ≤ B) : ∀ es, (∀ e ∈ es, (rep ampS m ++ e.2).length ≤ B) → ∀ e ∈ puts m l es, e.2.length ≤ B := by
  intro es
  refine snoc_rec (P := fun es => (∀ e ∈ es, (rep ampS m ++ e.2).length ≤ B) → ∀ e ∈ puts m l es, e.2.length ≤ B) (fun _ => hl) ?_ es
  intro es e ih h q hq
  rw [puts_snoc] at hq
  unfold put at hq
  split at hq
  · exact ih (fun e he => h e (by simp [he])) q hq
  · rcases List.mem_append.mp hq with hq | hq
    · exact ih (fun e he => h e (by simp [he])) q hq
    · rw [List.mem_singleton.mp hq]; exact h e (by simp)

/-- the tails after the layers, n of them in the end -/
def tp (n : Nat) (ls : List Lay) : List (Str × Str) := (ls.foldl (fun st x => (st.1 + 1, puts (n - 1 - st.1) st.2 (NM x.1 x.2))) (0, [])).2
theorem tp_idx (n : Nat) : ∀ ls : List Lay, (ls.foldl (fun (st : Nat × List (Str × Str)) x => (st.1 + 1, puts (n - 1 - st.1) st.2 (NM x.1 x.2))) (0, [])).1 = ls.length := by
  refine snoc_rec rfl ?_
  intro ls x ih
  rw [List.foldl_append, List.length_append]
  show _ + 1 = _ + 1
  rw [ih]
theorem tp_snoc (n : Nat) (ls : List Lay) (x : Lay) : tp n (ls ++ [x]) = puts (n - 1 - ls.length) (tp n ls) (NM x.1 x.2) := by
  unfold tp
  rw [List.foldl_append]
  show puts (n - 1 - _) _ _ = _
  rw [tp_idx]
theorem tp_nodup (n : Nat) : ∀ ls, ((tp n ls).map (·.1)).Nodup := by
  refine snoc_rec List.nodup_nil ?_
  intro ls x ih
  rw [tp_snoc]; exact puts_nodup ih _
theorem nm_few : ∀ k ∈ List.range 10, (NM k false).length ≤ 6 ∧ (k = 4 → (NM k true).length ≤ 6) := by decide +kernel
theorem nm_len {x : Lay} (h : okLay x) : (NM x.1 x.2).length ≤ 6 := by
  obtain ⟨k, f⟩ := x
  have := nm_few k (List.mem_range.mpr h.1)
  cases f with
  | false => exact this.1
  | true => exact this.2 (h.2 rfl)
theorem tp_length (n : Nat) : ∀ ls, (∀ x ∈ ls, okLay x) → (tp n ls).length ≤ 6 * ls.length := by
  refine snoc_rec (fun _ => Nat.zero_le _) ?_
  intro ls x ih h
  rw [tp_snoc, List.length_append, List.length_singleton]
  have h1 := puts_length (n - 1 - ls.length) (tp n ls) (NM x.1 x.2)
  have h2 := nm_len (h x (by simp))
  have h3 := ih fun y hy => h y (by simp [hy])
  omega
theorem tp_keys (n : Nat) : ∀ ls, (∀ x ∈ ls, okLay x) → ∀ k ∈ (tp n ls).map (·.1), k ∈ sg8.map sgn ∧ k ≠ sgn 38 := by
  refine snoc_rec (fun _ _ h => nomatch h) ?_
  intro ls x ih h k hk
  rw [tp_snoc] at hk
  rcases puts_keys _ _ _ k hk with hk | hk
  · exact ih (fun y hy => h y (by simp [hy])) k hk
  · obtain ⟨e, he, rfl⟩ := List.mem_map.mp hk
    have := (chkW x (h x (by simp))).2.2.2.2.2.2.2.2.2.1 e he
    exact ⟨this.1, this.2.1⟩
theorem rep_amp_len (m : Nat) : (rep ampS m).length = 4 * m := by
  rw [← tl, rep_list, ampS_list]
  induction m with
  | zero => rfl
  | succ m ih => rw [List.replicate_succ, List.flatten_cons, List.length_append, ih, show amp.length = 4 from rfl]; omega
theorem tp_vals (n : Nat) : ∀ ls, (∀ x ∈ ls, okLay x) → ∀ e ∈ tp n ls, e.2.length ≤ 4 * n + 5 := by
  refine snoc_rec (fun _ _ h => nomatch h) ?_
  intro ls x ih h e he
  rw [tp_snoc] at he
  refine puts_vals _ _ _ (ih fun y hy => h y (by simp [hy])) _ (fun e he => ?_) e he
  have := (chkW x (h x (by simp))).2.2.2.2.2.2.2.2.2.1 e he
  rw [Str.length_append, rep_amp_len]; omega
theorem sgn_inj {a b : Nat} (h : sgn a = sgn b) : a = b := by
  have := congrArg (fun s : Str => s.cps.toList) h
  simpa [sgn] using this
theorem rep_toS (m : Nat) (w : List Nat) {v : Str} (hv : v.cps.toList = w) : (rep ampS m ++ v).cps.toList = (List.replicate m amp).flatten ++ w := by
  rw [Str.cps_append, Array.toList_append, rep_list, ampS_list, hv]
theorem repl_succ (m : Nat) (w : List Nat) : (List.replicate (m + 1) amp).flatten ++ w = (List.replicate m amp).flatten ++ (amp ++ w) := by
  rw [← List.append_assoc, List.replicate_succ', List.flatten_append]
  simp

theorem nameN_other {x : Lay} (h : okLay x) {c : Nat} (hc : c ∉ sg8) : nameN x c = none := if_pos (encW_other h hc)
theorem nm_lkp {x : Lay} (h : okLay x) {c : Nat} (h38 : c ≠ 38) : (lkp (NM x.1 x.2) (sgn c)).map (·.cps.toList) = nameN x c := by
  by_cases hc : c ∈ sg8
  · exact (chkW x h).2.2.2.2.1 c hc h38
  · rw [nameN_other h hc]
    have : lkp (NM x.1 x.2) (sgn c) = none := by
      refine lkp_none.mpr fun hm => ?_
      obtain ⟨e, he, hk⟩ := List.mem_map.mp hm
      have := ((chkW x h).2.2.2.2.2.2.2.2.2.1 e he).1
      rw [hk] at this
      obtain ⟨c', hc', e'⟩ := List.mem_map.mp this
      exact hc (sgn_inj e' ▸ hc')
    rw [this]; rfl

/-- what the tails say of a sign -/
theorem tp_lkp (n : Nat) {c : Nat} (h38 : c ≠ 38) : ∀ ls : List Lay, (∀ x ∈ ls, okLay x) → ls.length ≤ n → (lkp (tp n ls) (sgn c)).map (·.cps.toList) = (tls ls c).map fun w => (List.replicate (n - ls.length) amp).flatten ++ w := by
  refine snoc_rec (fun _ _ => rfl) ?_
  intro ls x ih h hn
  rw [List.length_append, List.length_singleton] at hn
  have ih := ih (fun y hy => h y (by simp [hy])) (by omega)
  have hx := h x (by simp)
  rw [tp_snoc, puts_lkp, tls_snoc, List.length_append, List.length_singleton]
  cases hw : tls ls c with
  | some w =>
    rw [hw] at ih
    cases hq : lkp (tp n ls) (sgn c) with
    | none => rw [hq] at ih; cases ih
    | some v =>
      rw [hq] at ih
      have ih : v.cps.toList = (List.replicate (n - ls.length) amp).flatten ++ w := Option.some.inj ih
      show some v.cps.toList = some _
      rw [ih, show n - ls.length = (n - (ls.length + 1)) + 1 by omega, repl_succ]
  | none =>
    rw [hw] at ih
    cases hq : lkp (tp n ls) (sgn c) with
    | some v => rw [hq] at ih; cases ih
    | none =>
      show ((lkp (NM x.1 x.2) (sgn c)).map _).map _ = (nameN x c).map _
      rw [← nm_lkp hx h38, Option.map_map, Option.map_map]
      congr 1
      funext v
      show (rep ampS (n - 1 - ls.length) ++ v).cps.toList = _
      rw [rep_toS _ _ rfl, show n - 1 - ls.length = n - (ls.length + 1) by omega]
      rfl
/-- an ampersand after n layers -/
theorem tls_amp : ∀ ls : List Lay, (∀ x ∈ ls, okLay x) → ls ≠ [] → tls ls 38 = some (List.replicate ls.length amp).flatten := by
  refine snoc_rec (fun _ h => absurd rfl h) ?_
  intro ls x ih h _
  have hx := h x (by simp)
  rw [tls_snoc, List.length_append, List.length_singleton]
  by_cases hl : ls = []
  · subst hl
    show nameN x 38 = _
    unfold nameN
    rw [(chkW x hx).2.2.2.1, if_neg (by simp [amp])]
    simp
  · rw [ih (fun y hy => h y (by simp [hy])) hl]
    show some _ = some _
    rw [List.replicate_succ, List.flatten_cons]

/-- a sign as the law writes it: by the tails' lines -/
def sgnT (T : List (Str × Str)) (c : Nat) : Str := match lkp T (sgn c) with | some v => o "&" ++ v | none => sgn c
theorem sgnT_im {n : Nat} {ls : List Lay} (h : ∀ x ∈ ls, okLay x) (hn : ls.length = n) (h0 : ls ≠ []) (c : Nat) : (sgnT (tp n ls ++ [(sgn 38, rep ampS n)]) c).cps.toList = im ls c := by
  unfold sgnT im
  rw [lkp_append]
  by_cases h38 : c = 38
  · subst h38
    have h1 : lkp (tp n ls) (sgn 38) = none := lkp_none.mpr fun hm => (tp_keys n ls h _ hm).2 rfl
    have h2 : lkp [(sgn 38, rep ampS n)] (sgn 38) = some (rep ampS n) := by unfold lkp; simp
    rw [h1, h2, tls_amp ls h h0, ← hn]
    show (o "&" ++ rep ampS ls.length).cps.toList = 38 :: _
    rw [Str.cps_append, Array.toList_append, rep_list, ampS_list]
    have : (o "&").cps.toList = [38] := by decide +kernel
    rw [this]; rfl
  · have h2 : lkp [(sgn 38, rep ampS n)] (sgn c) = none := lkp_none.mpr fun hm => h38 (sgn_inj (by simpa using hm))
    have ht := tp_lkp n h38 ls h (by omega)
    rw [h2]
    cases hq : lkp (tp n ls) (sgn c) with
    | none =>
      rw [hq] at ht
      cases hw : tls ls c with
      | some w => rw [hw] at ht; cases ht
      | none => simp [sgn]
    | some v =>
      rw [hq] at ht
      cases hw : tls ls c with
      | none => rw [hw] at ht; cases ht
      | some w =>
        rw [hw] at ht
        have ht : v.cps.toList = (List.replicate (n - ls.length) amp).flatten ++ w := Option.some.inj ht
        rw [hn, Nat.sub_self] at ht
        show (o "&" ++ v).cps.toList = 38 :: w
        rw [Str.cps_append, Array.toList_append, ht]
        have : (o "&").cps.toList = [38] := by decide +kernel
        rw [this]; rfl
/-- texts joined with nothing between -/
theorem join0 (ys : List Str) : (Txt.join (o "") ys).cps.toList = (ys.map (·.cps.toList)).flatten := by
  unfold Txt.join
  rw [StrLaws.glued_eq_join]
  have he : (o "").cps.toList = [] := by decide +kernel
  induction ys with
  | nil => rfl
  | cons y r ih =>
    cases r with
    | nil => simp [Str.join]
    | cons z r =>
      rw [toList_join_cons _ _ _ (by simp), ih, he]
      simp
theorem join_due {n : Nat} {X : Str} {ks : List Nat} (h : ∀ k ∈ ks, k < 10) (hn : ks.length = n) (h0 : ks ≠ []) : Txt.join (o "") (X.cps.toList.map (sgnT (tp n (lay (hasT X sq) ks) ++ [(sgn 38, rep ampS n)]))) = due X ks := by
  refine str_ext ?_
  rw [join0, List.map_map, due_list, List.flatMap_def]
  congr 1
  refine List.map_congr_left fun c _ => ?_
  have hl : (lay (hasT X sq) ks).length = n := by rw [lay_length]; exact hn
  exact sgnT_im (lay_ok _ _ h) hl (fun e => h0 (List.length_eq_zero_iff.mp (by rw [hn, ← hl, e]; rfl))) c
end Mine.LA
end

section
open PySem PySem.StrLaws PySem.Builtin.Str
set_option maxRecDepth 100000
namespace Mine.L03
open Mine.LA
/-- law 03's writers as law 04's -/
def kap (k : Nat) : Nat := match k with | 0 => 4 | 1 => 6 | 2 => 1 | _ => 9
theorem kap_lt (k : Nat) : kap k < 10 := by
  unfold kap; split <;> decide
/-- the quote that the k-th writer takes round T -/
def qOf (k : Nat) (T : Str) : Nat := if k = 0 then (if (hasT T dq && !hasT T sq) = true then 39 else 34) else if k = 2 then 39 else 34
def layQ (k : Nat) (T : Str) : LA.Lay := (kap k, k == 0 && qOf k T == 34)
theorem layQ_ok (k : Nat) (T : Str) : okLay (layQ k T) := ⟨kap_lt k, fun h => by
  unfold layQ at h
  simp at h
  rw [show (layQ k T).1 = kap k from rfl, h.1]; rfl⟩
def nxt (k : Nat) (T : Str) : Str := toS (qOf k T :: (T.cps.toList.flatMap (encW (layQ k T)) ++ [qOf k T]))
theorem nxt_list (k : Nat) (T : Str) : (nxt k T).cps.toList = qOf k T :: (T.cps.toList.flatMap (encW (layQ k T)) ++ [qOf k T]) := toS_list _
def toldQ (X : Str) (ks : List Nat) : Str := ks.foldl (fun T k => nxt k T) X
theorem toldQ_snoc (X : Str) (ks : List Nat) (k : Nat) : toldQ X (ks ++ [k]) = nxt k (toldQ X ks) := by unfold toldQ; rw [List.foldl_append]; rfl
abbrev Row := Nat × LA.Lay
def rowsQ (X : Str) (ks : List Nat) : List Row := (ks.foldl (fun (st : Str × List Row) k => (nxt k st.1, st.2 ++ [(qOf k st.1, layQ k st.1)])) (X, [])).2
theorem rowsQ_fst (X : Str) (ks : List Nat) : (ks.foldl (fun (st : Str × List Row) k => (nxt k st.1, st.2 ++ [(qOf k st.1, layQ k st.1)])) (X, [])).1 = toldQ X ks := by
  refine snoc_rec (P := fun ks => (ks.foldl (fun (st : Str × List Row) k => (nxt k st.1, st.2 ++ [(qOf k st.1, layQ k st.1)])) (X, [])).1 = toldQ X ks) rfl (fun l k ih => ?_) ks
  rw [List.foldl_append, toldQ_snoc, ← ih]; rfl
theorem rowsQ_snoc (X : Str) (ks : List Nat) (k : Nat) : rowsQ X (ks ++ [k]) = rowsQ X ks ++ [(qOf k (toldQ X ks), layQ k (toldQ X ks))] := by
  unfold rowsQ
  rw [List.foldl_append, ← rowsQ_fst]; rfl
theorem rowsQ_length (X : Str) (ks : List Nat) : (rowsQ X ks).length = ks.length := by
  refine snoc_rec (P := fun ks => (rowsQ X ks).length = ks.length) rfl (fun l k ih => ?_) ks
  rw [rowsQ_snoc, List.length_append, List.length_append, ih]; rfl
theorem rowsQ_ok (X : Str) (ks : List Nat) : ∀ r ∈ rowsQ X ks, okLay r.2 ∧ (r.1 = 34 ∨ r.1 = 39) := by
  refine snoc_rec (P := fun ks => ∀ r ∈ rowsQ X ks, okLay r.2 ∧ (r.1 = 34 ∨ r.1 = 39)) (fun _ h => nomatch h) (fun l k ih => ?_) ks
  rw [rowsQ_snoc]
  intro r hr
  rcases List.mem_append.mp hr with hr | hr
  · exact ih r hr
  · rw [List.mem_singleton.mp hr]
    refine ⟨layQ_ok _ _, ?_⟩
    show qOf k (toldQ X l) = 34 ∨ qOf k (toldQ X l) = 39
    unfold qOf
    split
    · split
      · exact .inr rfl
      · exact .inl rfl
    · split
      · exact .inr rfl
      · exact .inl rfl
theorem rowsQ_take (X : Str) (ks : List Nat) (i : Nat) : (rowsQ X ks).take i = rowsQ X (ks.take i) := by
  refine snoc_rec (P := fun ks => (rowsQ X ks).take i = rowsQ X (ks.take i)) (by simp [rowsQ]) (fun l k ih => ?_) ks
  rw [rowsQ_snoc]
  by_cases h : i ≤ l.length
  · rw [List.take_append_of_le_length (by rw [rowsQ_length]; exact h), List.take_append_of_le_length h, ih]
  · rw [List.take_of_length_le (by rw [List.length_append, rowsQ_length, List.length_singleton]; omega), List.take_of_length_le (by rw [List.length_append, List.length_singleton]; omega), rowsQ_snoc]

/-- what the law's closed form lays round the text -/
def ends (rs : List Row) : List (List Nat) := (List.range rs.length).map fun k => im ((rs.drop (k + 1)).map (·.2)) ((rs[k]?).map (·.1) |>.getD 0)
def wrap (body : List Nat) (es : List (List Nat)) : List Nat := es.foldl (fun d e => e ++ d ++ e) body
theorem wrap_snoc (b : List Nat) (es : List (List Nat)) (e : List Nat) : wrap b (es ++ [e]) = e ++ wrap b es ++ e := by unfold wrap; rw [List.foldl_append]; rfl
theorem wrap_flat (f : Nat → List Nat) (b : List Nat) (es : List (List Nat)) : (wrap b es).flatMap f = wrap (b.flatMap f) (es.map fun e => e.flatMap f) := by
  refine snoc_rec (P := fun es => (wrap b es).flatMap f = wrap (b.flatMap f) (es.map fun e => e.flatMap f)) rfl (fun es e ih => ?_) es
  rw [wrap_snoc, List.map_append, List.map_cons, List.map_nil, wrap_snoc, ← ih, List.flatMap_append, List.flatMap_append]
def dueQ (X : Str) (rs : List Row) : Str := toS (wrap (X.cps.toList.flatMap (im (rs.map (·.2)))) (ends rs))
theorem ends_snoc (rs : List Row) (r : Row) (h : ∀ q ∈ rs, okLay q.2) (hr : okLay r.2) : ends (rs ++ [r]) = (ends rs).map (fun e => e.flatMap (encW r.2)) ++ [[r.1]] := by
  unfold ends
  rw [List.length_append, List.length_singleton, List.range_succ, List.map_append, List.map_map]
  congr 1
  · refine List.map_congr_left fun k hk => ?_
    have hk : k < rs.length := List.mem_range.mp hk
    show im (((rs ++ [r]).drop (k + 1)).map (·.2)) ((((rs ++ [r])[k]?).map (·.1)).getD 0) = (im ((rs.drop (k + 1)).map (·.2)) (((rs[k]?).map (·.1)).getD 0)).flatMap (encW r.2)
    rw [List.drop_append_of_le_length (by omega), List.map_append, List.getElem?_append_left hk]
    refine (im_step ?_ hr _).symm
    intro y hy
    obtain ⟨q, hq, rfl⟩ := List.mem_map.mp hy
    exact h q (List.mem_of_mem_drop hq)
  · show [im (((rs ++ [r]).drop (rs.length + 1)).map (·.2)) ((((rs ++ [r])[rs.length]?).map (·.1)).getD 0)] = _
    rw [List.drop_of_length_le (by simp)]
    simp [im, tls]
theorem due_told (X : Str) (ks : List Nat) : dueQ X (rowsQ X ks) = toldQ X ks := by
  refine snoc_rec (P := fun ks => dueQ X (rowsQ X ks) = toldQ X ks) ?_ (fun l k ih => ?_) ks
  · refine str_ext ?_
    show (toS (wrap (X.cps.toList.flatMap (fun c => [c])) [])).cps.toList = X.cps.toList
    rw [toS_list]
    show X.cps.toList.flatMap (fun c => [c]) = _
    generalize X.cps.toList = l
    induction l with
    | nil => rfl
    | cons a r ih => rw [List.flatMap_cons, ih]; rfl
  · refine str_ext ?_
    have hok : ∀ q ∈ rowsQ X l, okLay q.2 := fun q hq => (rowsQ_ok X l q hq).1
    have hokm : ∀ y ∈ (rowsQ X l).map (·.2), okLay y := fun y hy => by
      obtain ⟨q, hq, rfl⟩ := List.mem_map.mp hy
      exact hok q hq
    rw [rowsQ_snoc, toldQ_snoc, nxt_list, ← ih]
    unfold dueQ
    rw [toS_list, ends_snoc _ _ hok (layQ_ok _ _), wrap_snoc, toS_list, wrap_flat, List.map_append, List.map_cons, List.map_nil]
    have hb : (X.cps.toList.flatMap (im ((rowsQ X l).map (·.2)))).flatMap (encW (layQ k (toldQ X l))) = X.cps.toList.flatMap (im ((rowsQ X l).map (·.2) ++ [layQ k (toldQ X l)])) := by
      rw [List.flatMap_assoc]
      exact fm_congr' fun c _ => im_step hokm (layQ_ok _ _) c
    have ih' : toS (wrap (X.cps.toList.flatMap (im ((rowsQ X l).map (·.2)))) (ends (rowsQ X l))) = toldQ X l := ih
    rw [ih', hb]
    rfl

/-- a sign by the rows, read from the first on -/
theorem tls_cons (x : LA.Lay) (c : Nat) : ∀ ls : List LA.Lay, tls (x :: ls) c = match nameN x c with | some w => some ((List.replicate ls.length amp).flatten ++ w) | none => tls ls c := by
  refine snoc_rec ?_ ?_
  · show nameN x c = _
    cases nameN x c <;> rfl
  · intro ls y ih
    rw [← List.cons_append, tls_snoc, ih, tls_snoc]
    cases nameN x c with
    | none => rfl
    | some w =>
      show some (amp ++ ((List.replicate ls.length amp).flatten ++ w)) = some _
      rw [List.length_append, List.length_singleton, List.replicate_succ, List.flatten_cons, List.append_assoc]
theorem tls_first {ls : List LA.Lay} {c i : Nat} {x : LA.Lay} {w : List Nat} (hx : ls[i]? = some x) (hw : nameN x c = some w) : (∀ (j : Nat) (y : LA.Lay), j < i → ls[j]? = some y → nameN y c = none) → tls ls c = some ((List.replicate (ls.length - 1 - i) amp).flatten ++ w) := by
  induction ls generalizing i with
  | nil => simp at hx
  | cons y ls ih =>
    intro hn
    rw [tls_cons]
    cases i with
    | zero =>
      simp at hx
      subst hx
      rw [hw]
      show some _ = some _
      rw [List.length_cons, show ls.length + 1 - 1 - 0 = ls.length by omega]
    | succ i =>
      rw [hn 0 y (by omega) rfl]
      show tls ls c = _
      rw [ih (by simpa using hx) fun j z hj hz => hn (j + 1) z (by omega) (by simpa using hz), List.length_cons, show ls.length + 1 - 1 - (i + 1) = ls.length - 1 - i by omega]
theorem tls_none {ls : List LA.Lay} {c : Nat} : (∀ (j : Nat) (y : LA.Lay), ls[j]? = some y → nameN y c = none) → tls ls c = none := by
  induction ls with
  | nil => intro _; rfl
  | cons y ls ih =>
    intro hn
    rw [tls_cons, hn 0 y rfl]
    exact ih fun j z hz => hn (j + 1) z (by simpa using hz)

/-- what the k-th writer writes -/
def Wq (k : Nat) (T : Str) : Str := if k = 0 then quoted (repls (repls T S) W3) else if k = 1 then dq ++ repls T AT ++ dq else if k = 2 then sq ++ repls T (H ++ M2) ++ sq else dq ++ repls T AC ++ dq
theorem enc_no34 {L : Str} (hd : hasT L (sgn 34) = false) : (repls L (RW 4 false)) = repls L (RW 4 true) := by
  have h0 : okLay (4, false) := ⟨by decide, fun h => nomatch h⟩
  have h1 : okLay (4, true) := ⟨by decide, fun _ => rfl⟩
  refine str_ext ?_
  rw [repls_enc (chkW _ h0).1.1 L, repls_enc (chkW _ h1).1.1 L]
  refine fm_congr' fun k hk => ?_
  have hk34 : k ≠ 34 := fun e => by
    have := (has1 L 34).mpr (e ▸ hk)
    rw [hd] at this; cases this
  by_cases hk8 : k ∈ sg8
  · have : ∀ k ∈ sg8, k ≠ 34 → encW (4, false) k = encW (4, true) k := by decide +kernel
    exact this k hk8 hk34
  · exact (encW_other h0 hk8).trans (encW_other h1 hk8).symm
theorem has_RW4 (L : Str) {c : Nat} (hc : c ∈ sg8) (h38 : c ≠ 38) (he : encW (4, false) c = [c]) : hasT (repls L (RW 4 false)) (sgn c) = hasT L (sgn c) := by
  have h0 : okLay (4, false) := ⟨by decide, fun h => nomatch h⟩
  have c0 : (repls L (RW 4 false)).cps.toList = L.cps.toList.flatMap (encW (4, false)) := repls_enc (chkW _ h0).1.1 L
  rw [Bool.eq_iff_iff, has1, has1, c0, List.mem_flatMap]
  constructor
  · rintro ⟨k, hk, hm⟩
    exact ((enc_has h0 hc h38 k).mp hm).1 ▸ hk
  · intro hk; exact ⟨c, hk, (enc_has h0 hc h38 c).mpr ⟨rfl, he⟩⟩
theorem quote_list (q : Nat) {a : Str} (ha : a.cps.toList = [q]) (Y : Str) : (a ++ Y ++ a).cps.toList = q :: (Y.cps.toList ++ [q]) := by
  rw [Str.cps_append, Str.cps_append, Array.toList_append, Array.toList_append, ha]; rfl
theorem dq_l : dq.cps.toList = [34] := by decide +kernel
theorem sq_l : sq.cps.toList = [39] := by decide +kernel
theorem rw_list {x : LA.Lay} (h : okLay x) (T : Str) : (repls T (RW x.1 x.2)).cps.toList = T.cps.toList.flatMap (encW x) := repls_enc (chkW x h).1.1 T
theorem wq1 (T : Str) : Wq 1 T = nxt 1 T := by
  refine str_ext ?_
  have h := rw_list (x := (6, false)) ⟨by decide, fun h => nomatch h⟩ T
  have h : (repls T AT).cps.toList = T.cps.toList.flatMap (encW (6, false)) := h
  rw [nxt_list, show qOf 1 T = 34 from rfl, show layQ 1 T = (6, false) from rfl, show Wq 1 T = dq ++ repls T AT ++ dq from rfl, quote_list 34 dq_l, h]
theorem wq2 (T : Str) : Wq 2 T = nxt 2 T := by
  refine str_ext ?_
  have h := rw_list (x := (1, false)) ⟨by decide, fun h => nomatch h⟩ T
  have h : (repls T (H ++ M2)).cps.toList = T.cps.toList.flatMap (encW (1, false)) := h
  rw [nxt_list, show qOf 2 T = 39 from rfl, show layQ 2 T = (1, false) from rfl, show Wq 2 T = sq ++ repls T (H ++ M2) ++ sq from rfl, quote_list 39 sq_l, h]
theorem wq3 (T : Str) : Wq 3 T = nxt 3 T := by
  refine str_ext ?_
  have h := rw_list (x := (9, false)) ⟨by decide, fun h => nomatch h⟩ T
  have h : (repls T AC).cps.toList = T.cps.toList.flatMap (encW (9, false)) := h
  rw [nxt_list, show qOf 3 T = 34 from rfl, show layQ 3 T = (9, false) from rfl, show Wq 3 T = dq ++ repls T AC ++ dq from rfl, quote_list 34 dq_l, h]
theorem wq0_aux {Y Z R : Str} {e0 e1 : List Nat} {b1 b2 : Bool} (h1 : hasT Y dq = b1) (h2 : hasT Y sq = b2) (hR : Txt.replace Y dq (Str.ofString "&quot;") = R) (ht : Z.cps.toList = e1) (hf : Y.cps.toList = e0) (hno : b1 = false → Y = Z) (hm : b1 = true → b2 = true → R = Z) :
    (quoted Y).cps.toList = (if (b1 && !b2) = true then 39 else 34) :: ((if (b1 && !b2) = true then e0 else e1) ++ [if (b1 && !b2) = true then 39 else 34]) := by
  unfold quoted
  rw [h1, h2, hR]
  cases b1 with
  | false =>
    rw [hno rfl, ← ht]
    simp only [Bool.false_eq_true, if_false, Bool.false_and]
    exact quote_list 34 dq_l Z
  | true =>
    cases b2 with
    | true =>
      rw [hm rfl rfl, ← ht]
      simp only [if_true, Bool.not_true, Bool.and_false, Bool.false_eq_true, if_false]
      exact quote_list 34 dq_l Z
    | false =>
      rw [← hf]
      simp only [if_true, Bool.not_false, Bool.and_true, Bool.false_eq_true, if_false]
      exact quote_list 39 sq_l Y
theorem split4 (T : Str) : repls (repls T S) W3 = repls T (RW 4 false) := by
  show _ = repls T (S ++ (W3 ++ []))
  rw [List.append_nil, repls_append T]
theorem mid4 (T : Str) (h1 : hasT T dq = true) (h2 : hasT T sq = true) : Txt.replace (repls T (RW 4 false)) dq (Str.ofString "&quot;") = repls T (RW 4 true) := by
  have h34 := has_RW4 T (c := 34) (by decide) (by decide) (by decide +kernel)
  have h39 := has_RW4 T (c := 39) (by decide) (by decide) (by decide +kernel)
  rw [← dq_sgn, h1] at h34
  rw [← sq_sgn, h2] at h39
  have hm := mid_eq T
  rw [split4, h2] at hm
  unfold mid at hm
  rw [h34, h39, Bool.and_self, if_pos rfl] at hm
  exact hm
theorem lay_if (b : Bool) (T : Str) : (if b = true then T.cps.toList.flatMap (encW (4, false)) else T.cps.toList.flatMap (encW (4, true))) = T.cps.toList.flatMap (encW (4, (if b = true then 39 else 34) == 34)) := by
  cases b
  · rw [if_neg Bool.false_ne_true, if_neg Bool.false_ne_true, show ((34 : Nat) == 34) = true from by decide]
  · rw [if_pos rfl, if_pos rfl, show ((39 : Nat) == 34) = false from by decide]
theorem hq0 (T : Str) : Wq 0 T = quoted (repls T (RW 4 false)) := by
  unfold Wq
  rw [if_pos rfl, split4]
theorem hqo0 (T : Str) : qOf 0 T = if (hasT T dq && !hasT T sq) = true then 39 else 34 := by unfold qOf; rw [if_pos rfl]
theorem hlay0 (T : Str) : layQ 0 T = (4, qOf 0 T == 34) := by
  unfold layQ
  generalize (qOf 0 T == 34) = b
  cases b <;> rfl
theorem has4d (T : Str) : hasT (repls T (RW 4 false)) dq = hasT T dq := by rw [dq_sgn]; exact has_RW4 T (c := 34) (by decide) (by decide) (by decide +kernel)
theorem has4s (T : Str) : hasT (repls T (RW 4 false)) sq = hasT T sq := by rw [sq_sgn]; exact has_RW4 T (c := 39) (by decide) (by decide) (by decide +kernel)
theorem no4 (T : Str) (h : hasT T dq = false) : repls T (RW 4 false) = repls T (RW 4 true) := enc_no34 (by rw [← dq_sgn]; exact h)
theorem l4t (T : Str) : (repls T (RW 4 true)).cps.toList = T.cps.toList.flatMap (encW (4, true)) := rw_list (x := (4, true)) ⟨by decide, fun _ => rfl⟩ T
theorem l4f (T : Str) : (repls T (RW 4 false)).cps.toList = T.cps.toList.flatMap (encW (4, false)) := rw_list (x := (4, false)) ⟨by decide, fun h => nomatch h⟩ T
theorem wq0 (T : Str) : Wq 0 T = nxt 0 T := by
  refine str_ext ?_
  rw [hq0, nxt_list, hlay0, hqo0, ← lay_if]
  exact wq0_aux (has4d T) (has4s T) rfl (l4t T) (l4f T) (no4 T) (mid4 T)
theorem wq_nxt {k : Nat} (hk : k < 4) (T : Str) : Wq k T = nxt k T := by
  have hcase : k = 0 ∨ k = 1 ∨ k = 2 ∨ k = 3 := by omega
  rcases hcase with rfl | rfl | rfl | rfl
  · exact wq0 T
  · exact wq1 T
  · exact wq2 T
  · exact wq3 T
theorem nxt_mid (k : Nat) (T : Str) : nxt k T = sgn (qOf k T) ++ repls T (RW (layQ k T).1 (layQ k T).2) ++ sgn (qOf k T) := by
  refine str_ext ?_
  rw [nxt_list, quote_list (qOf k T) rfl, repls_enc (chkW _ (layQ_ok k T)).1.1]
  rfl
/-- which marks stand bare behind the k-th writer -/
theorem nxt_has {k : Nat} (T : Str) {c : Nat} (hc : c ∈ sg8) (h38 : c ≠ 38) : hasT (nxt k T) (sgn c) = (qOf k T == c || (hasT T (sgn c) && decide (encW (layQ k T) c = [c]))) := by
  rw [Bool.eq_iff_iff, has1, nxt_list, List.mem_cons, List.mem_append, List.mem_singleton, List.mem_flatMap, Bool.or_eq_true, Bool.and_eq_true, has1, beq_iff_eq, decide_eq_true_eq]
  constructor
  · rintro (h | ⟨a, ha, hm⟩ | h)
    · exact .inl h.symm
    · have := (enc_has (layQ_ok k T) hc h38 a).mp hm
      exact .inr ⟨this.1 ▸ ha, this.2⟩
    · exact .inl h.symm
  · rintro (h | ⟨ha, he⟩)
    · exact .inl h.symm
    · exact .inr (.inl ⟨c, ha, (enc_has (layQ_ok k T) hc h38 c).mpr ⟨rfl, he⟩⟩)

/-- sizes -/
theorem wrap_len (b : List Nat) (B : Nat) (es : List (List Nat)) : (∀ e ∈ es, e.length ≤ B) → (wrap b es).length ≤ b.length + 2 * B * es.length := by
  refine snoc_rec (P := fun es => (∀ e ∈ es, e.length ≤ B) → (wrap b es).length ≤ b.length + 2 * B * es.length) (fun _ => Nat.le_refl _) (fun es e ih h => ?_) es
  rw [wrap_snoc, List.length_append, List.length_append, List.length_append, List.length_singleton]
  have h1 := ih fun e' he' => h e' (by simp [he'])
  have h2 := h e (by simp)
  rw [Nat.mul_add, Nat.mul_one]
  omega
theorem told_len {X : Str} {ks : List Nat} (hk : ks.length ≤ 7) (hX : X.length ≤ 400) : (toldQ X ks).length ≤ 15000 := by
  rw [← due_told, ← tl]
  unfold dueQ
  rw [toS_list]
  have hok : ∀ y ∈ (rowsQ X ks).map (·.2), okLay y := fun y hy => by
    obtain ⟨q, hq, rfl⟩ := List.mem_map.mp hy
    exact (rowsQ_ok X ks q hq).1
  have h1 := flatMap_len (im_len hok) X.cps.toList
  rw [List.length_map, rowsQ_length, tl] at h1
  have h2 := wrap_len (X.cps.toList.flatMap (im ((rowsQ X ks).map (·.2)))) 34 (ends (rowsQ X ks)) fun e he => by
    unfold ends at he
    obtain ⟨k, _, rfl⟩ := List.mem_map.mp he
    have := im_len (ls := ((rowsQ X ks).drop (k + 1)).map (·.2)) (fun y hy => by
      obtain ⟨q, hq, rfl⟩ := List.mem_map.mp hy
      exact (rowsQ_ok X ks q (List.mem_of_mem_drop hq)).1) ((((rowsQ X ks)[k]?).map (·.1)).getD 0)
    rw [List.length_map, List.length_drop, rowsQ_length] at this
    omega
  have h3 : (ends (rowsQ X ks)).length = ks.length := by unfold ends; rw [List.length_map, List.length_range, rowsQ_length]
  rw [h3] at h2
  have h4 : (6 + 4 * ks.length) * X.length ≤ 34 * 400 := Nat.mul_le_mul (by omega) hX
  omega

/-- law 03's table -/
def TB : List (Str × Str) := [(o "&quot;", o "\""), (o "&#x27;", o "'"), (o "&#10;", o "\n"), (o "&#13;", o "\x0d"), (o "&#9;", o "\t"), (o "&#09;", o "\t"), (o "&#xA;", o "\n"), (o "&#xD;", o "\x0d"), (o "&#x9;", o "\t")]
abbrev ChkT (x : LA.Lay) : Prop := ∀ c ∈ sg8, (if dec (lreps (V ++ TB)) (encW x c) = [38, 97, 109, 112, 59] then [38] else dec (lreps (V ++ TB)) (encW x c)) = [c]
theorem chkT : ∀ x ∈ [((4 : Nat), false), (4, true), (6, false), (1, false), (9, false)], ChkT x := by decide +kernel
theorem layQ_in (k : Nat) (T : Str) : layQ k T ∈ [((4 : Nat), false), (4, true), (6, false), (1, false), (9, false)] := by
  unfold layQ kap
  match k with
  | 0 => cases (qOf 0 T == 34) <;> simp
  | 1 => simp
  | 2 => simp
  | n + 3 => simp
abbrev TBOk : Prop := (∀ r ∈ lreps (V ++ TB), isRef r.1 = true ∧ good r.2 = true) ∧ (∀ r ∈ V ++ TB ++ [(o "&amp;", o "&")], 1 ≤ r.1.length ∧ r.2.length ≤ r.1.length ∧ r.2.length ≤ 8) ∧ (TB.map (·.1)).Nodup ∧ ∀ r ∈ TB, (r.1 == r.2) = false
theorem tbOk : TBOk := by decide +kernel
theorem offT (k : Nat) (T : Str) : Txt.replace (repls (repls (repls T (RW (layQ k T).1 (layQ k T).2)) V) TB) (o "&amp;") (o "&") = T := by
  rw [← repls_append (repls T (RW (layQ k T).1 (layQ k T).2))]
  refine unesc_str (al := [38, 97, 109, 112, 59]) (zl := [38]) (chkW _ (layQ_ok k T)).1.1 rfl (by decide +kernel) (by decide +kernel) tbOk.1 (by decide +kernel) (encW_good (layQ_ok k T)) (fun c => ?_) T
  by_cases hc : c ∈ sg8
  · exact chkT _ (layQ_in k T) c hc
  · rw [show enc (LA.numR (RW (layQ k T).1 (layQ k T).2)) c = [c] from encW_other (layQ_ok k T) hc, LA.dec_one fun r hr' => (tbOk.1 r hr').1, if_neg (by simp)]
theorem offT_fits {Y : Str} (hY : Y.length ≤ 1000000) : Fits Y V ∧ Fits (repls Y V) TB ∧ Fits (repls (repls Y V) TB) [(o "&amp;", o "&")] := by
  have h1 := (fits_shrink (R := V ++ TB ++ [(o "&amp;", o "&")]) (X := Y) tbOk.2.1 (by omega)).1
  have fa : ∀ {X : Str} {a b : List (Str × Str)}, Fits X (a ++ b) → Fits X a ∧ Fits (repls X a) b := by
    intro X a
    induction a generalizing X with
    | nil => intro b h; exact ⟨trivial, h⟩
    | cons r rs ih => intro b h; exact ⟨⟨h.1, (ih h.2).1⟩, (ih h.2).2⟩
  have h2 := fa h1
  have h3 := fa h2.1
  refine ⟨h3.1, h3.2, ?_⟩
  rw [← repls_append Y]; exact h2.2
end Mine.L03
end

section
open PySem PySem.W PyProof.Rows
set_option maxRecDepth 100000
set_option maxHeartbeats 8000000
open_top hd03 for PySem.Challenge.rw_dn0034_03
end

section
open PySem PySem.W PyProof.Rows PyProof.V PySem.Calls Mine Mine.LA
set_option maxRecDepth 100000
set_option maxHeartbeats 400000
namespace Mine.L03
section
variable (w : World) (p : Program) (loose : List Str) (mean : ExcName → Option Value) (mg mb : Str → Option Value)

theorem c70 {X : Str} {t : Tok} (hf : Fits X AT) : Mine.Gives PySem.Challenge.rw_dn0034_03.row.prog w (hd03.heap_39 w.params) p loose mean mg mb 3 70 [.str X t] (fun _ _ => True) (fun v ex => ex = [] ∧ ∃ t', v = .str (repls X AT) t') := by
  k_fill
  refine gives_def (binds := [(Str.ofString "text", .str X t)]) (by k_is) (by k_is) (fun s _ => BindsTo.of_eq (by kernel_rfl)) (locs (by kernel_rfl)) rfl rfl rfl (by decide) ?_
  exact body_try (x := Str.ofString "text") (X := X) (t := t) rfl (by repeat (first | exact Chain.nil | (refine Chain.cons (.iff rfl) (by decide) ?_) | (refine Chain.cons (.plain rfl) (by decide) ?_))) hf rfl (fun _ => rfl) (by decide)

theorem c77 {X : Str} {t : Tok} (hf : Fits X AC) : Mine.Gives PySem.Challenge.rw_dn0034_03.row.prog w (hd03.heap_39 w.params) p loose mean mg mb 3 77 [.str X t] (fun _ _ => True) (fun v ex => ex = [] ∧ ∃ t', v = .str (repls X AC) t') := by
  k_fill
  refine gives_def (binds := [(Str.ofString "text", .str X t)]) (by k_is) (by k_is) (fun s _ => BindsTo.of_eq (by kernel_rfl)) (locs (by kernel_rfl)) rfl rfl rfl (by decide) ?_
  exact body_try (x := Str.ofString "text") (X := X) (t := t) rfl (by repeat (first | exact Chain.nil | (refine Chain.cons (.iff rfl) (by decide) ?_) | (refine Chain.cons (.plain rfl) (by decide) ?_))) hf rfl (fun _ => rfl) (by decide)

theorem cDR {X : Str} {t : Tok} {d : Addr} {l : List Ln} {ep : Nat} (hf : Fits X (lnReps l)) (hn : (l.map (·.1)).Nodup) (hok : ∀ e ∈ l, LnOk e) (hc : ∀ e ∈ l, (e.1 == e.2.2.1) = false) (lo : (d == sysModules) = false) :
    Mine.Gives PySem.Challenge.rw_dn0034_03.row.prog w (hd03.heap_39 w.params) p loose mean mg mb 3 21 [.str X t, .ref d] (fun _ news => (d, dObj w l ep) ∈ news) (fun v ex => ex = [] ∧ ∃ t', v = .str (repls X (lnReps l)) t') := by
  k_fill
  refine gives_def (binds := [(Str.ofString "s", .str X t), (Str.ofString "d", .ref d)]) (by k_is) (by k_is) (fun s _ => BindsTo.of_eq (by kernel_rfl)) (locs (by kernel_rfl)) rfl rfl rfl (by decide) ?_
  exact body_dictrep (xs := Str.ofString "s") (xd := Str.ofString "d") (xk := Str.ofString "key") (xv := Str.ofString "value") (X := X) (t := t) (d := d) (l := l) (ep := ep) (by kernel_rfl) (by kernel_rfl) hf hn hok (.inl hc) lo rfl rfl rfl
    (fun _ => by kernel_rfl) (fun _ => by kernel_rfl) (fun _ => by kernel_rfl) (fun _ => by kernel_rfl) (by decide +kernel) (by decide +kernel) (by decide +kernel) (by decide +kernel) (by decide +kernel) (by decide +kernel) (by decide +kernel)

theorem cES {X : Str} {t : Tok} {d : Addr} {l : List Ln} {ep : Nat} (hf0 : Fits X S) (hf : Fits (repls X S) (lnReps l)) (hn : (l.map (·.1)).Nodup) (hok : ∀ e ∈ l, LnOk e) (hc : ∀ e ∈ l, (e.1 == e.2.2.1) = false) (lo : (d == sysModules) = false) (hlen : l.length < 100) :
    Mine.Gives PySem.Challenge.rw_dn0034_03.row.prog w (hd03.heap_39 w.params) p loose mean mg mb 4 30 [.str X t, .ref d] (fun _ news => Stands (hd03.heap_39 w.params) news d (dObj w l ep) ∧ (l ≠ [] → (d, dObj w l ep) ∈ news)) (fun v ex => ex = [] ∧ ∃ t', v = .str (repls (repls X S) (lnReps l)) t') := by
  have c := fun (t : Tok) => cDR (X := repls X S) (t := t) w p loose mean mg mb (ep := ep) hf hn hok hc lo
  revert c
  k_fill
  intro c
  refine gives_def (binds := [(Str.ofString "data", .str X t), (Str.ofString "entities", .ref d)]) (by k_is) (by k_is) (fun s hK => binds_K hK rfl (by k_is) rfl rfl rfl) (locs (by kernel_rfl)) rfl rfl rfl (by decide) ?_
  exact body_esc (x := Str.ofString "data") (xe := Str.ofString "entities") (xg := Str.ofString "dict_replace_saxutils") (g := 21) (X := X) (t := t) (d := d) (l := l) (ep := ep) (reps := S) (by repeat (first | exact Chain.nil | (refine Chain.cons (.iff rfl) (by decide) ?_) | (refine Chain.cons (.plain rfl) (by decide) ?_))) (by kernel_rfl) (by kernel_rfl) (by decide +kernel) hf0 hn lo hlen (fun _ => c) (by k_is) (by k_is) rfl
    (fun _ => by kernel_rfl) (fun _ => by kernel_rfl) (fun _ => by kernel_rfl) (by decide +kernel) (by decide +kernel) (by decide +kernel)

theorem cUN {X : Str} {t : Tok} {d : Addr} {l : List Ln} {ep : Nat} (hf0 : Fits X V) (hf : Fits (repls X V) (lnReps l)) (hf2 : Fits (repls (repls X V) (lnReps l)) [(LA.o "&amp;", LA.o "&")]) (hn : (l.map (·.1)).Nodup) (hok : ∀ e ∈ l, LnOk e) (hc : ∀ e ∈ l, (e.1 == e.2.2.1) = false) (lo : (d == sysModules) = false) (hlen : l.length < 100) :
    Mine.Gives PySem.Challenge.rw_dn0034_03.row.prog w (hd03.heap_39 w.params) p loose mean mg mb 4 39 [.str X t, .ref d] (fun _ news => Stands (hd03.heap_39 w.params) news d (dObj w l ep) ∧ (l ≠ [] → (d, dObj w l ep) ∈ news)) (fun v ex => ex = [] ∧ ∃ t', v = .str (Txt.replace (repls (repls X V) (lnReps l)) (LA.o "&amp;") (LA.o "&")) t') := by
  have c := fun (t : Tok) => cDR (X := repls X V) (t := t) w p loose mean mg mb (ep := ep) hf hn hok hc lo
  revert c
  k_fill
  intro c
  refine gives_def (binds := [(Str.ofString "data", .str X t), (Str.ofString "entities", .ref d)]) (by k_is) (by k_is) (fun s hK => binds_K hK rfl (by k_is) rfl rfl rfl) (locs (by kernel_rfl)) rfl rfl rfl (by decide) ?_
  exact body_unesc (x := Str.ofString "data") (xe := Str.ofString "entities") (xg := Str.ofString "dict_replace_saxutils") (g := 21) (X := X) (t := t) (d := d) (l := l) (ep := ep) (reps := V) (by repeat (first | exact Chain.nil | (refine Chain.cons (.iff rfl) (by decide) ?_) | (refine Chain.cons (.plain rfl) (by decide) ?_))) rfl (by decide +kernel) (by kernel_rfl) (by kernel_rfl) (by decide +kernel) hf0 hf2 hn lo hlen (fun _ => c) (by k_is) (by k_is) rfl
    (fun _ => by kernel_rfl) (fun _ => by kernel_rfl) (fun _ => by kernel_rfl) (by decide +kernel) (by decide +kernel) (by decide +kernel)

/-- escape_html(s) -/
theorem cH {X : Str} {t : Tok} (hf : Fits X H) (hf2 : Fits (repls X H) M2) :
    Mine.Gives PySem.Challenge.rw_dn0034_03.row.prog w (hd03.heap_39 w.params) p loose mean mg mb 3 56 [.str X t] (fun _ _ => True) (fun u ex => ex = [] ∧ ∃ t', u = .str (repls (repls X H) M2) t') := by
  k_fill
  refine gives_def (binds := [(Str.ofString "s", .str X t), (Str.ofString "quote", .bool true)]) (by k_is) (by k_is) (fun s hK => binds_K hK rfl (by k_is) rfl rfl rfl) (locs (by kernel_rfl)) rfl rfl rfl (by decide) ?_
  intro A A₀ base outer g L news s Q SS F N h1 hr hpre hQ
  exact body_html (b := true) (x := Str.ofString "s") (xq := Str.ofString "quote") (X := X) (t := t) (by repeat (first | exact Chain.nil | (refine Chain.cons (.iff rfl) (by decide) ?_) | (refine Chain.cons (.plain rfl) (by decide) ?_))) (by repeat (first | exact Chain.nil | (refine Chain.cons (.iff rfl) (by decide) ?_) | (refine Chain.cons (.plain rfl) (by decide) ?_))) (by kernel_rfl) (by kernel_rfl) (by decide +kernel) hf hf2 rfl (fun _ => by kernel_rfl) (fun _ => by kernel_rfl) (by decide +kernel) (by decide +kernel)
    A A₀ base outer g L news s Q SS F N h1 hr (fun _ _ _ _ _ _ _ _ _ _ h => wpAny_truthy_bool (h _ (Nat.le_refl _))) hQ

/-- quoteattr(data) -/
theorem cQA {X : Str} {t : Tok} (hf0 : Fits X S) (hf : Fits (repls X S) W3) (hY : (repls (repls X S) W3).length ≤ 1000000) (hYr : (Txt.replace (repls (repls X S) W3) dq (Str.ofString "&quot;")).length ≤ 1000000) :
    Mine.Gives PySem.Challenge.rw_dn0034_03.row.prog w (hd03.heap_39 w.params) p loose mean mg mb 5 48 [.str X t] (fun _ _ => True) (fun v ex => ex = [] ∧ ∃ t', v = .str (quoted (repls (repls X S) W3)) t') := by
  have hW : ∀ e ∈ W3, (e.1 == e.2) = false := by decide +kernel
  have c : ∀ (t : Tok) (D : Addr) (tk : Nat), 1 ≤ tk → (D == sysModules) = false → Mine.Gives PySem.Challenge.rw_dn0034_03.row.prog w (hd03.heap_39 w.params) p loose mean mg mb 4 30 [.str X t, .ref D] (fun _ news => (D, dObj w ([] ++ lnFrom tk W3) (([] : List Ln).length + W3.length)) ∈ news) (fun v ex => ex = [] ∧ ∃ t', v = .str (repls (repls X S) W3) t') := by
    intro t D tk htk loD A env A₀ base outer h₀ L m news s Q E SS F N hr hpre hQ
    have hl : lnFrom tk W3 ≠ [] := by intro h; have := congrArg List.length h; simp [lnFrom_length, W3] at this
    refine cES (X := X) (t := t) (d := D) (l := lnFrom tk W3) (ep := ([] : List Ln).length + W3.length) w p loose mean mg mb hf0 (by rw [lnFrom_reps]; exact hf) (by rw [lnFrom_keys]; decide +kernel) (lnFrom_ok tk W3 htk) (fun e he => ?_) loD (by rw [lnFrom_length]; decide) A env A₀ base outer h₀ L m news s Q E SS F N hr ⟨.inl hpre, fun _ => hpre⟩ ?_
    · have : (e.1, e.2.2.1) ∈ lnReps (lnFrom tk W3) := List.mem_map.mpr ⟨e, he, rfl⟩
      rw [lnFrom_reps] at this
      exact hW _ this
    · rw [lnFrom_reps]; exact hQ
  revert c
  k_fill
  intro c
  refine gives_def (binds := [(Str.ofString "data", .str X t), (Str.ofString "entities", .ref 40)]) (by k_is) (by k_is) (fun s hK => binds_K hK rfl (by k_is) rfl rfl rfl) (locs (by kernel_rfl)) rfl rfl rfl (by decide) ?_
  intro A A₀ base outer g L news s Q SS F N h1 hr hpre hQ
  exact body_quoteattr (w := w) (x := Str.ofString "data") (xe := Str.ofString "entities") (xg := Str.ofString "escape_saxutils") (g := 30) (X := X) (t := t) (d := 40) (l := []) (ep := 0) (r := W3) (by repeat (first | exact DPairs.nil | refine DPairs.cons ?_)) (by decide) (by decide) (by decide) (by decide +kernel) (by decide +kernel) (by kernel_rfl) (by kernel_rfl) (by decide +kernel) c hY hYr rfl (by k_is) (by k_is) rfl
    (fun _ => by kernel_rfl) (fun _ => by kernel_rfl) (fun _ => by kernel_rfl) (fun _ => rfl) (by decide +kernel) (by decide +kernel) (by decide +kernel) A A₀ base outer g L news s Q SS F N h1 hr (.inr fun h X => X _ _ (by k_is)) hQ
end
end Mine.L03
end

section
open PySem PySem.W PyProof.Rows PyProof.V PySem.Calls Mine Mine.LA
set_option maxRecDepth 100000
set_option maxHeartbeats 400000
namespace Mine.L03
def pcs : List Str := [Str.ofString "&", Str.ofString "<", Str.ofString ">", Str.ofString "\"", Str.ofString "'", Str.ofString "\n", Str.ofString "\x0d", Str.ofString "\t", Str.ofString "amp;", Str.ofString "&amp;", Str.ofString "&quot;", Str.ofString "&#x27;"]
section
variable (w : World) (p : Program) (loose : List Str) (mean : ExcName → Option Value) (mg mb : Str → Option Value)
theorem cPC (n : Int) (t : Tok) : Mine.Gives PySem.Challenge.rw_dn0034_03.row.prog w (hd03.heap_39 w.params) p loose mean mg mb 4 84 [.int n t] (fun _ _ => True) (fun v ex => ex = [] ∧ ∃ X t', v = .str X t' ∧ X.length ≤ 6) := by
  k_fill
  refine gives_def (binds := [(Str.ofString "x", .int n t)]) (by k_is) (by k_is) (fun s _ => BindsTo.of_eq (by kernel_rfl)) (locs (by kernel_rfl)) rfl rfl rfl (by decide) ?_
  intro A A₀ base outer g L news s Q S F N h1 hr hpre hQ
  refine letf (s₀ := s) (hp := s.heap) (tk := s.toks) (h₀ := g) (cl := []) ?_
  refine (ev_strs (s := s) (xs := pcs) F N ?hc ?hl ?k :)
  case hc => repeat (first | exact SConsts.nil | refine SConsts.cons ?_)
  case hl => exact Nat.le_of_ble_eq_true rfl
  intro h₁ tk₁ F₁ N₁ _
  refine ⟨_, _, _, _, rfl, F₁, N₁, fun h₂ tk₂ htk₂ F₂ N₂ => ?_⟩
  have K : Kn [(Str.ofString "pieces", .ref s.heap.objs.size), (Str.ofString "x", .int n t)] (upd (fun y => List.lookup y [(Str.ofString "x", Value.int n t)].reverse) (Str.ofString "pieces") (.ref s.heap.objs.size)) := (Kn.cons rfl Kn.nil).add (by kernel_rfl)
  generalize upd (fun y => List.lookup y [(Str.ofString "x", Value.int n t)].reverse) (Str.ofString "pieces") (.ref s.heap.objs.size) = m at F₂ K
  have hIs : h₂.IsList s.heap.objs.size (strVals s.toks pcs).toArray := ⟨_, (N₂ _ (.head _)).1, rfl, _, rfl⟩
  have N₃ : News g L h₂ news := news_sub N₂ fun q hq => .tail _ hq
  refine seq_if (wpAny_isTrue_Compare1 (ev_fmod (nm (cl := []) F₂ (K.get 1) ⟨_, _, rfl, fun t₁ => ?_⟩)))
  refine wpAny_Constant_int (eq_int (wpAny_truthy_bool ?_))
  split
  · refine seq_ret ?_
    refine Subscript_ (nm (cl := []) F₂ (K.get 0) ?_)
    refine wpAny_BinOp (ev_fdiv (nm (cl := []) F₂ (K.get 1) ⟨_, _, rfl, fun t₂ => ?_⟩))
    refine call_b1 (cl := []) S F₂ (by k_is) boot_len ?_
    refine nm (cl := []) F₂ (K.get 0) ?_
    refine len_list hIs ?_ ?_
    · rw [List.size_toArray, strVals_length]; decide
    have hsz : ((strVals s.toks pcs).toArray.size : Int) = 12 := by rw [List.size_toArray, strVals_length]; rfl
    rw [hsz]
    refine mod_int (by decide) ?_
    have hb := Int.fmod_nonneg_of_pos (n.fdiv 2) (b := 12) (by decide)
    have hb2 := Int.fmod_lt_of_pos (n.fdiv 2) (b := 12) (by decide)
    obtain ⟨x, hx, hxl⟩ : ∃ x, pcs[((n.fdiv 2).fmod 12).toNat]? = some x ∧ x.length ≤ 6 := by
      have hall : ∀ k, k < 12 → ∃ x, pcs[k]? = some x ∧ x.length ≤ 6 := by decide +kernel
      exact hall _ (by omega)
    refine tail_list (vs := strVals s.toks pcs) (v := .str x (s.toks + ((n.fdiv 2).fmod 12).toNat)) hIs hb (by omega) (strVals_at _ _ _ _ hx) rfl ?_
    exact hQ _ [] h₂ _ _ F₂ N₃ (fun _ _ _ hx => nomatch hx) (Nat.le_add_left _ _) ⟨rfl, x, _, rfl, hxl⟩
  · refine wpAny_execs_nil ?_
    dsimp only
    refine seq_ret ?_
    refine call_b1 (cl := []) S F₂ (by k_is) boot_chr ?_
    refine ev_fmod (ev_fdiv (nm (cl := []) F₂ (K.get 1) ⟨_, _, rfl, fun t₆ => ⟨_, _, rfl, fun t₇ => ?_⟩⟩))
    have hc0 := Int.fmod_nonneg_of_pos (n.fdiv 2) (b := 1114112) (by decide)
    have hc1 := Int.fmod_lt_of_pos (n.fdiv 2) (b := 1114112) (by decide)
    refine chr_of_range hc0 (by omega) ?_
    exact hQ _ [] h₂ _ _ F₂ N₃ (fun _ _ _ hx => nomatch hx) (Nat.le_add_left _ _) ⟨rfl, _, _, rfl, by show 1 ≤ 6; omega⟩
end
end Mine.L03
end

section
open PySem PySem.W PyProof.Rows PyProof.V PySem.Calls Mine Mine.LA
set_option maxRecDepth 100000
set_option maxHeartbeats 1000000
namespace Mine.L03
theorem fits_appL {X : Str} : ∀ {a b : List (Str × Str)}, Fits X (a ++ b) → Fits X a ∧ Fits (repls X a) b := by
  intro a
  induction a generalizing X with
  | nil => intro b h; exact ⟨trivial, h⟩
  | cons r rs ih => intro b h; exact ⟨⟨h.1, (ih h.2).1⟩, (ih h.2).2⟩
theorem rw_size {x : LA.Lay} (h : okLay x) (X : Str) : (repls X (RW x.1 x.2)).length ≤ 6 * X.length := by
  rw [← tl, repls_enc (chkW x h).1.1, ← tl X]
  refine flatMap_len (fun k => ?_) _
  by_cases hk : k ∈ sg8
  · exact (chkW x h).2.2.2.2.2.2.2.2.2.2.2 k hk
  · rw [show enc (LA.numR (RW x.1 x.2)) k = [k] from encW_other h hk]; exact Nat.le_of_ble_eq_true rfl
theorem rep_dq_len (Y : Str) : (Txt.replace Y dq (Str.ofString "&quot;")).length ≤ 6 * Y.length := by
  have h : lreps [(dq, Str.ofString "&quot;")] = single [(34, (Str.ofString "&quot;").cps.toList)] := by decide +kernel
  have := repls_enc h Y
  have e : repls Y [(dq, Str.ofString "&quot;")] = Txt.replace Y dq (Str.ofString "&quot;") := rfl
  rw [← tl, ← e, this, ← tl Y]
  refine flatMap_len (fun k => ?_) _
  unfold enc rplL
  simp only [List.map_cons, List.map_nil, List.foldl_cons, List.foldl_nil, rpl_one, List.flatMap_cons, List.flatMap_nil, List.append_nil]
  have hz : (Str.ofString "&quot;").cps.toList.length ≤ 6 := by decide +kernel
  split
  · exact hz
  · exact Nat.le_of_ble_eq_true rfl
section
variable (w : World) (p : Program) (loose : List Str) (mean : ExcName → Option Value) (mg mb : Str → Option Value)
theorem cWr (k : Nat) (hk : k < 4) (t : Tok) {X : Str} {u : Tok} (hX : X.length ≤ 20000) : Mine.Gives PySem.Challenge.rw_dn0034_03.row.prog w (hd03.heap_39 w.params) p loose mean mg mb 8 91 [.int (k : Int) t, .str X u] (fun _ _ => True) (fun v ex => ex = [] ∧ ∃ t', v = .str (Wq k X) t') := by
  have h70 := fun (X : Str) (u : Tok) => c70 (X := X) (t := u) w p loose mean mg mb
  have h77 := fun (X : Str) (u : Tok) => c77 (X := X) (t := u) w p loose mean mg mb
  have hH := fun (X : Str) (u : Tok) => cH (X := X) (t := u) w p loose mean mg mb
  have hQA := fun (X : Str) (u : Tok) => cQA (X := X) (t := u) w p loose mean mg mb
  revert h70 h77 hH hQA
  k_fill
  intro h70 h77 hH hQA
  refine gives_def (binds := [(Str.ofString "kind", .int (k : Int) t), (Str.ofString "text", .str X u)]) (by k_is) (by k_is) (fun s _ => BindsTo.of_eq (by kernel_rfl)) (locs (by kernel_rfl)) rfl rfl rfl (by decide) ?_
  intro A A₀ base outer g L news s Q S F N h1 hr hpre hQ
  have hkd : (fun y => List.lookup y [(Str.ofString "kind", Value.int (k : Int) t), (Str.ofString "text", Value.str X u)].reverse) (Str.ofString "kind") = some (.int (k : Int) t) := by kernel_rfl
  have htx : (fun y => List.lookup y [(Str.ofString "kind", Value.int (k : Int) t), (Str.ofString "text", Value.str X u)].reverse) (Str.ofString "text") = some (.str X u) := by kernel_rfl
  generalize (fun y => List.lookup y [(Str.ofString "kind", Value.int (k : Int) t), (Str.ofString "text", Value.str X u)].reverse) = m at F hkd htx
  have fin : ∀ {Y : Str} {t' : Tok} {h' : Heap} {tk : Tok}, Y = Wq k X → Fr g L h' m → News g L h' news → 1 ≤ tk → Q (.ret (.str Y t')) { s with heap := h', toks := tk } := by
    rintro Y t' h' tk rfl F' N' htk
    exact hQ _ [] h' tk m F' N' (fun _ _ _ hx => nomatch hx) htk ⟨rfl, t', rfl⟩
  have hX2 : X.length ≤ 100000 := Nat.le_trans hX (by decide)
  have hdl : dq.length = 1 := by decide +kernel
  have hsl : sq.length = 1 := by decide +kernel
  have hfit : ∀ x : LA.Lay, okLay x → Fits X (RW x.1 x.2) ∧ (repls X (RW x.1 x.2)).length ≤ 6 * X.length := fun x h => ⟨rw_fits h hX2, rw_size h X⟩
  refine seq_if (wpAny_isTrue_Compare1 (nm (cl := []) F hkd (wpAny_Constant_int (eq_int (wpAny_truthy_bool ?_)))))
  split
  · rename_i hk2
    have hk2 : k = 0 := by have := beq_iff_eq.mp hk2; omega
    subst hk2
    have hs0 := (hfit (4, false) ⟨by decide, fun h => nomatch h⟩).2
    have hf := fits_appL (a := LA.S) (b := W3 ++ []) (hfit (4, false) ⟨by decide, fun h => nomatch h⟩).1
    rw [List.append_nil] at hf
    rw [← split4] at hs0
    have hs1 := rep_dq_len (repls (repls X LA.S) W3)
    refine seq_ret ?_
    refine call_name S F (f := 48) ?f1 ?f2 ?f3 ?f4 ?_ rfl rfl
    case f1 => k_is
    case f2 => k_is
    case f3 => kernel_rfl
    case f4 => decide +kernel
    refine spliced_more (nm (cl := []) F htx ?_) rfl
    refine spliced_none ⟨S.X.keeps F.keep, ?_⟩
    refine hQA X u hf.1 hf.2 (by omega) (by omega) _ _ _ _ _ _ _ _ _ _ _ _ S F N (hr.le (by decide)) trivial ?_
    rintro v ex h' tk F' N' _ htk ⟨rfl, t', rfl⟩
    exact fin (by unfold Wq; rw [if_pos rfl]) F' N' htk
  rename_i hc0
  refine wpAny_execs_nil ?_
  dsimp only
  refine seq_if (wpAny_isTrue_Compare1 (nm (cl := []) F hkd (wpAny_Constant_int (eq_int (wpAny_truthy_bool ?_)))))
  split
  · rename_i hk2
    have hk2 : k = 1 := by have := beq_iff_eq.mp hk2; omega
    subst hk2
    have hf := hfit (6, false) ⟨by decide, fun h => nomatch h⟩
    have hf2 : (repls X AT).length ≤ 6 * X.length := hf.2
    refine seq_ret (toksQ ?_)
    refine wpAny_BinOp (wpAny_BinOp (Constant_str ?_))
    refine call_name S F (f := 70) ?g1 ?g2 ?g3 ?g4 ?_ rfl rfl
    case g1 => k_is
    case g2 => k_is
    case g3 => kernel_rfl
    case g4 => decide +kernel
    refine spliced_more (nm (cl := []) F htx ?_) rfl
    refine spliced_none ⟨S.X.keeps F.keep, ?_⟩
    refine h70 X u hf.1 _ _ _ _ _ _ _ _ _ _ _ _ S F N (hr.le (by decide)) trivial ?_
    rintro v ex h' tk F' N' _ htk ⟨rfl, t', rfl⟩
    refine add_str (fun t7 k7 => ?_) (by rw [sizeLine_eq]; show dq.length + _ ≤ _; omega)
    refine Constant_str ?_
    refine add_str (fun t8 k8 htk8 => ?_) (by rw [sizeLine_eq, Str.length_append]; show dq.length + _ + dq.length ≤ _; omega)
    exact fin rfl F' N' (Nat.le_trans (Nat.le_add_left 1 _) htk8)
  rename_i hc1
  refine wpAny_execs_nil ?_
  dsimp only
  refine seq_if (wpAny_isTrue_Compare1 (nm (cl := []) F hkd (wpAny_Constant_int (eq_int (wpAny_truthy_bool ?_)))))
  split
  · rename_i hk2
    have hk2 : k = 2 := by have := beq_iff_eq.mp hk2; omega
    subst hk2
    have hf := hfit (1, false) ⟨by decide, fun h => nomatch h⟩
    have hfa := fits_appL (a := H) (b := M2) hf.1
    have hf2 : (repls X (H ++ M2)).length ≤ 6 * X.length := hf.2
    refine seq_ret (toksQ ?_)
    refine wpAny_BinOp (wpAny_BinOp (Constant_str ?_))
    refine call_name S F (f := 56) ?i1 ?i2 ?i3 ?i4 ?_ rfl rfl
    case i1 => k_is
    case i2 => k_is
    case i3 => kernel_rfl
    case i4 => decide +kernel
    refine spliced_more (nm (cl := []) F htx ?_) rfl
    refine spliced_none ⟨S.X.keeps F.keep, ?_⟩
    refine hH X u hfa.1 hfa.2 _ _ _ _ _ _ _ _ _ _ _ _ S F N (hr.le (by decide)) trivial ?_
    rintro v ex h' tk F' N' _ htk ⟨rfl, t', rfl⟩
    rw [← repls_append]
    refine add_str (fun t7 k7 => ?_) (by rw [sizeLine_eq]; show sq.length + _ ≤ _; omega)
    refine Constant_str ?_
    refine add_str (fun t8 k8 htk8 => ?_) (by rw [sizeLine_eq, Str.length_append]; show sq.length + _ + sq.length ≤ _; omega)
    exact fin rfl F' N' (Nat.le_trans (Nat.le_add_left 1 _) htk8)
  rename_i hc2
  refine wpAny_execs_nil ?_
  dsimp only
  have hk9 : k = 3 := by
    have e0 : k ≠ 0 := fun h => hc0 (beq_iff_eq.mpr (by omega))
    have e1 : k ≠ 1 := fun h => hc1 (beq_iff_eq.mpr (by omega))
    have e2 : k ≠ 2 := fun h => hc2 (beq_iff_eq.mpr (by omega))
    omega
  subst hk9
  have hf := hfit (9, false) ⟨by decide, fun h => nomatch h⟩
  have hf2 : (repls X AC).length ≤ 6 * X.length := hf.2
  refine seq_ret (toksQ ?_)
  refine wpAny_BinOp (wpAny_BinOp (Constant_str ?_))
  refine call_name S F (f := 77) ?j1 ?j2 ?j3 ?j4 ?_ rfl rfl
  case j1 => k_is
  case j2 => k_is
  case j3 => kernel_rfl
  case j4 => decide +kernel
  refine spliced_more (nm (cl := []) F htx ?_) rfl
  refine spliced_none ⟨S.X.keeps F.keep, ?_⟩
  refine h77 X u hf.1 _ _ _ _ _ _ _ _ _ _ _ _ S F N (hr.le (by decide)) trivial ?_
  rintro v ex h' tk F' N' _ htk ⟨rfl, t', rfl⟩
  refine add_str (fun t7 k7 => ?_) (by rw [sizeLine_eq]; show dq.length + _ ≤ _; omega)
  refine Constant_str ?_
  refine add_str (fun t8 k8 htk8 => ?_) (by rw [sizeLine_eq, Str.length_append]; show dq.length + _ + dq.length ≤ _; omega)
  exact fin rfl F' N' (Nat.le_trans (Nat.le_add_left 1 _) htk8)
end
end Mine.L03
end

section
open PySem PySem.W PyProof.Rows PyProof.V PySem.Calls Mine Mine.LA
set_option maxRecDepth 100000
set_option maxHeartbeats 1000000
namespace Mine.L03
theorem lkp_lnL (l : List Ln) (k : Str) : LA.lkp (lnReps l) k = (lnGet l k).map (·.2.2.1) := lkp_ln l k
theorem keys_reps (l : List Ln) : (lnReps l).map (·.1) = l.map (·.1) := by simp [lnReps, Function.comp_def]
/-- a row that stands: its quote, its names -/
def RowAt (w : World) (nx : List (Addr × Obj)) (v : Value) (r : Row) : Prop := ∃ T t d l ep, v = .ref T ∧ (T, tupO [.str (sgn r.1) t, .ref d]) ∈ nx ∧ (d, dObj w l ep) ∈ nx ∧ lnReps l = NM r.2.1 r.2.2 ∧ (d == sysModules) = false
theorem RowAt.mono {w : World} {nx ny : List (Addr × Obj)} {v : Value} {r : Row} (h : RowAt w nx v r) (hs : ∀ q ∈ nx, q ∈ ny) : RowAt w ny v r :=
  let ⟨T, t, d, l, ep, e, h1, h2, h3, h4⟩ := h
  ⟨T, t, d, l, ep, e, hs _ h1, hs _ h2, h3, h4⟩
def RowsAt (w : World) (nx : List (Addr × Obj)) (vs : List Value) (rs : List Row) : Prop := vs.length = rs.length ∧ ∀ (i : Nat) (v : Value) (r : Row), vs[i]? = some v → rs[i]? = some r → RowAt w nx v r
theorem RowsAt.mono {w : World} {nx ny : List (Addr × Obj)} {vs : List Value} {rs : List Row} (h : RowsAt w nx vs rs) (hs : ∀ q ∈ nx, q ∈ ny) : RowsAt w ny vs rs := ⟨h.1, fun i v r hv hr => (h.2 i v r hv hr).mono hs⟩
theorem RowsAt.drop {w : World} {nx : List (Addr × Obj)} {vs : List Value} {rs : List Row} (h : RowsAt w nx vs rs) (n : Nat) : RowsAt w nx (vs.drop n) (rs.drop n) :=
  ⟨by rw [List.length_drop, List.length_drop, h.1], fun i v r hv hr => h.2 (n + i) v r (by rwa [List.getElem?_drop] at hv) (by rwa [List.getElem?_drop] at hr)⟩
theorem RowsAt.take {w : World} {nx : List (Addr × Obj)} {vs : List Value} {rs : List Row} (h : RowsAt w nx vs rs) (n : Nat) : RowsAt w nx (vs.take n) (rs.take n) := by
  refine ⟨by rw [List.length_take, List.length_take, h.1], fun i v r hv hr => ?_⟩
  rw [List.getElem?_take] at hv hr
  split at hv
  · rename_i hi
    rw [if_pos hi] at hr
    exact h.2 i v r hv hr
  · cases hv
theorem RowsAt.get {w : World} {nx : List (Addr × Obj)} {vs : List Value} {rs : List Row} (h : RowsAt w nx vs rs) {i : Nat} {r : Row} (hr : rs[i]? = some r) : ∃ T t d l ep, vs[i]? = some (.ref T) ∧ (T, tupO [.str (sgn r.1) t, .ref d]) ∈ nx ∧ (d, dObj w l ep) ∈ nx ∧ lnReps l = NM r.2.1 r.2.2 ∧ (d == sysModules) = false := by
  have hi : i < vs.length := by rw [h.1]; exact (List.getElem?_eq_some_iff.mp hr).1
  obtain ⟨T, t, d, l, ep, e, h1, h2, h3, h4⟩ := h.2 i vs[i] r (List.getElem?_eq_getElem hi) hr
  exact ⟨T, t, d, l, ep, by rw [List.getElem?_eq_getElem hi, e], h1, h2, h3, h4⟩
theorem ns_amp (n : Nat) : (o "&" ++ rep ampS n).cps.toList = 38 :: (List.replicate n amp).flatten := by
  rw [Str.cps_append, Array.toList_append, rep_list, ampS_list]
  have : (o "&").cps.toList = [38] := by decide +kernel
  rw [this]; rfl
theorem im_amp {ls : List LA.Lay} (h : ∀ x ∈ ls, okLay x) : toS (im ls 38) = o "&" ++ rep ampS ls.length := by
  refine LA.toList_inj ?_
  rw [toS_list, ns_amp]
  unfold im
  by_cases h0 : ls = []
  · subst h0; rfl
  · rw [tls_amp ls h h0]
theorem im_first {ls : List LA.Lay} {c i : Nat} {x : LA.Lay} {v : Str} (hx : ls[i]? = some x) (hok : okLay x) (h38 : c ≠ 38) (hv : LA.lkp (NM x.1 x.2) (sgn c) = some v) (hn : ∀ (j : Nat) (y : LA.Lay), j < i → ls[j]? = some y → nameN y c = none) :
    toS (im ls c) = o "&" ++ rep ampS (ls.length - 1 - i) ++ v := by
  refine LA.toList_inj ?_
  have hw := nm_lkp hok h38
  rw [hv] at hw
  have ht := tls_first hx hw.symm hn
  rw [toS_list, Str.cps_append, Array.toList_append, ns_amp]
  unfold im
  rw [ht]; rfl
theorem im_bare {ls : List LA.Lay} {c : Nat} (hn : ∀ (j : Nat) (y : LA.Lay), ls[j]? = some y → nameN y c = none) : toS (im ls c) = sgn c := by
  refine LA.toList_inj ?_
  rw [toS_list]
  unfold im
  rw [tls_none hn]; rfl

section
variable {prog : Program} {w : World} {A : Around} {E : Value → Shared → Prop} {s : Shared} {h₀ : Heap} {L a : Addr} {m : Str → Option Value} {env : Env}
theorem sub_tup {value slice : Expr} {T : Addr} {vs : List Value} {k : Int} {j : Nat} {t : Tok} {v : Value} {Q : Value → Shared → Prop} (hT : IsTup s.heap T vs.toArray) (hk : k = (j : Int)) (hj : j < 1000) (hv : vs[j]? = some v)
    (hs : subscripted slice false (.ref T) (.int k t) = operate [.ref T, .int k t] (getItem (.ref T) (.int k t))) (h : Q v s) : wpAny (model prog w) A (subscriptTail value slice (.ref T) (.int k t)) Q E s := by
  subst hk
  exact tail_any (T := "tuple") hT.typeIs slot_tuple_getitem.lookup (getItem_tuple (s := s) hT (by omega) (by omega) (j := j) (by rw [List.size_toArray, PySem.StrLaws.seqIndex_nonneg (by omega) (by have := (List.getElem?_eq_some_iff.mp hv).1; omega)]; simp) (by simpa using hv) h) hs
end
section
variable (w : World) (p : Program) (loose : List Str) (mean : ExcName → Option Value) (mg mb : Str → Option Value)
theorem cSG (c : Nat) (u : Tok) (rl : Addr) (rs : List Row) (hok : ∀ r ∈ rs, okLay r.2) (h7 : rs.length ≤ 7) :
    Mine.Gives PySem.Challenge.rw_dn0034_03.row.prog w (hd03.heap_39 w.params) p loose mean mg mb 3 105 [.str (sgn c) u, .ref rl] (fun _ news => ∃ (vs : List Value) (k : Nat), (rl, listO vs k) ∈ news ∧ RowsAt w news vs rs)
    (fun v ex => ex = [] ∧ ∃ t', v = .str (toS (im (rs.map (·.2)) c)) t') := by
  k_fill
  refine gives_def (binds := [(Str.ofString "sign", .str (sgn c) u), (Str.ofString "rows", .ref rl)]) (by k_is) (by k_is) (fun s _ => BindsTo.of_eq (by kernel_rfl)) (locs (by kernel_rfl)) rfl rfl rfl (by decide) ?_
  intro A A₀ base outer g L news s Q S F N h1 hr hpre hQ
  obtain ⟨vs, cap, hrl, hrs⟩ := hpre
  have hvl : vs.length = rs.length := hrs.1
  have hlok : ∀ x ∈ rs.map (·.2), okLay x := fun x hx => by
    obtain ⟨r, hr, rfl⟩ := List.mem_map.mp hx
    exact hok r hr
  have hal : ampS.length ≤ 1000 := by decide +kernel
  have hamp1 : (Str.ofString "&").length = 1 := by decide +kernel
  have hamp : Str.ofString "&" = sgn 38 := by decide +kernel
  obtain ⟨m, F, K⟩ : ∃ m, Fr g L s.heap m ∧ Kn [(Str.ofString "sign", .str (sgn c) u), (Str.ofString "rows", .ref rl)] m := ⟨_, F, Kn.cons (by kernel_rfl) (Kn.cons (by kernel_rfl) Kn.nil)⟩
  have hlat : ∀ {h : Heap} {nw : List (Addr × Obj)}, News g L h nw → (∀ q ∈ news, q ∈ nw) → h.IsList rl vs.toArray := fun N hs => ⟨_, (N _ (hs _ hrl)).1, rfl, _, rfl⟩
  have fin : ∀ {Y : Str} {t' : Tok} {h' : Heap} {tk : Tok} {m' : Str → Option Value}, Y = toS (im (rs.map (·.2)) c) → Fr g L h' m' → News g L h' news → 1 ≤ tk → Q (.ret (.str Y t')) { s with heap := h', toks := tk } := by
    rintro Y t' h' tk m' rfl F' N' htk
    exact hQ _ [] h' tk m' F' N' (fun _ _ _ hx => nomatch hx) htk ⟨rfl, t', rfl⟩
  refine seq_if (wpAny_isTrue_Compare1 (nm (cl := []) F (K.get 0) (Constant_str (eq_str (wpAny_truthy_bool ?_)))))
  split
  · rename_i hc
    have hc : c = 38 := sgn_inj (by rw [← hamp]; exact beq_iff_eq.mp hc)
    refine seq_ret (toksQ ?_)
    refine wpAny_BinOp (Constant_str (wpAny_BinOp (Constant_str ?_)))
    refine ev_len (cl := []) (vs := vs) S F (by k_is) (K.get 1) (hlat N fun _ h => h) (by omega) fun tn => ?_
    refine ev_mul (x := ampS) (n := vs.length) hal (by omega) fun t5 k5 => ?_
    refine add_str (fun t6 k6 htk6 => ?_) (by rw [hamp1, rep_amp_len, sizeLine_eq]; omega)
    refine fin ?_ F N (Nat.le_trans (Nat.le_add_left 1 _) htk6)
    rw [hc, im_amp hlok, List.length_map, hvl]
  · rename_i hc
    have h38 : c ≠ 38 := fun h => hc (beq_iff_eq.mpr (by rw [h, hamp]))
    refine wpAny_execs_nil ?_
    dsimp only
    refine (for_range (s₀ := s) (hp := s.heap) (tk := s.toks + 1) (cl := []) S.hh F ?fs ?fz ?fk ?loop :)
    case fs => exact fun _ => rfl
    case fz => rfl
    case fk => kernel_rfl
    refine call_range_e (cl := []) (s := { s with heap := s.heap, toks := s.toks + 1 }) S F (by k_is) ?_
    refine ev_len (cl := []) (vs := vs) (s := { s with heap := s.heap, toks := s.toks + 1 }) S F (by k_is) (K.get 1) (hlat N fun _ h => h) (by omega) fun tn => ?_
    refine ⟨vs.length, tn, m, _, rfl, F, N, fun r h₃ tk₃ t₀ u₀ v₀ hrg F₃ N₃ => ?_⟩
    refine ⟨fun i m₁ n₁ => news = n₁ ∧ Kn [(Str.ofString "sign", .str (sgn c) u), (Str.ofString "rows", .ref rl)] m₁ ∧ ∀ (j : Nat) (y : LA.Lay), j < i → (rs.map (·.2))[j]? = some y → nameN y c = none,
      r, vs.length, t₀, u₀, v₀, m, _, h₃, tk₃, rfl, rfl, F₃, N₃, hrg, by omega, ⟨rfl, K, fun j y h => absurd h (by omega)⟩, ?step, ?done⟩
    case done =>
      rintro h₄ tk₄ m₄ _ F₄ N₄ ⟨rfl, K₄, hno⟩ htk₄
      refine seq_ret (nm (cl := []) F₄ (K₄.get 0) ?_)
      refine fin (im_bare fun j y hy => hno j y ?_ hy).symm F₄ N₄ (Nat.le_trans (Nat.le_add_left 1 _) htk₄)
      have := (List.getElem?_eq_some_iff.mp hy).1
      rw [List.length_map] at this
      omega
    case step =>
      rintro i ti m₁ _ h₄ tk₄ own I hi ⟨rfl, K₁, hno⟩ hoff hown F₄ N₄ htk₄
      have hi' : i < rs.length := by omega
      obtain ⟨ri, hri⟩ : ∃ ri, rs[i]? = some ri := ⟨_, List.getElem?_eq_getElem hi'⟩
      obtain ⟨T, tq, d, l, ep, hvi, hTm, hdm, hl, lo⟩ := hrs.get hri
      have hxi : (rs.map (·.2))[i]? = some ri.2 := by rw [List.getElem?_map, hri]; rfl
      have hokx := hok ri (List.mem_of_getElem? hri)
      have hnodup : (l.map (·.1)).Nodup := by rw [← keys_reps, hl]; exact (chkW _ hokx).2.2.2.2.2.2.2.2.2.2.1
      obtain ⟨m₅, F₅, K₅⟩ : ∃ m₅, Fr g L h₄ m₅ ∧ Kn [(Str.ofString "k", .int (i : Int) ti), (Str.ofString "sign", .str (sgn c) u), (Str.ofString "rows", .ref rl)] m₅ := ⟨_, F₄, K₁.add (by kernel_rfl)⟩
      clear F₄ K₁
      have hsub : ∀ q ∈ news, q ∈ own ++ news := fun q hq => List.mem_append_right _ hq
      have hIs := hlat N₄ hsub
      have hTup : IsTup h₄ T [Value.str (sgn ri.1) tq, .ref d].toArray := ⟨_, (N₄ _ (hsub _ hTm)).1, rfl, _, rfl⟩
      have hdat := (N₄ _ (hsub _ hdm)).1
      have hLk := lkp_lnL l (sgn c)
      rw [hl] at hLk
      refine seq_if (wpAny_isTrue_Compare1 (nm (cl := []) F₅ (K₅.get 1) ?_))
      refine Subscript_ (Subscript_ (nm (cl := []) F₅ (K₅.get 2) (nm (cl := []) F₅ (K₅.get 0) ?_)))
      refine tail_list (vs := vs) (v := .ref T) hIs (by omega) (by omega) (by rw [Int.toNat_natCast]; exact hvi) rfl ?_
      refine wpAny_Constant_int ?_
      refine sub_tup (vs := [Value.str (sgn ri.1) tq, .ref d]) (j := 1) hTup rfl (by decide) rfl rfl ?_
      refine in_ln (l := l) (ep := ep) hdat hnodup lo (wpAny_truthy_bool ?_)
      cases hg : lnGet l (sgn c) with
      | none =>
        rw [hg] at hLk
        simp only [Option.isSome_none, Bool.false_eq_true, if_false]
        refine wpAny_execs_nil (wpAny_execs_nil (.inr ⟨rfl, h₄, _, m₅, _, rfl, F₅, N₄, hoff, rfl, K₅.tail, ?_⟩))
        intro j y hj hy
        by_cases hji : j < i
        · exact hno j y hji hy
        · have : j = i := by omega
          subst this
          rw [hxi] at hy
          cases hy
          rw [← nm_lkp hokx h38, hLk]; rfl
      | some e =>
        rw [hg] at hLk
        have hLk : LA.lkp (NM ri.2.1 ri.2.2) (sgn c) = some e.2.2.1 := hLk
        have hel : e.2.2.1.length ≤ 5 := by
          have hm : (e.1, e.2.2.1) ∈ lnReps l := List.mem_map.mpr ⟨e, (lnGet_key hg).2, rfl⟩
          rw [hl] at hm
          exact ((chkW _ hokx).2.2.2.2.2.2.2.2.2.1 _ hm).2.2
        simp only [Option.isSome_some, if_true]
        refine seq_ret (toksQ ?_)
        refine wpAny_BinOp (wpAny_BinOp (Constant_str (wpAny_BinOp (Constant_str (wpAny_BinOp (wpAny_BinOp ?_))))))
        refine ev_len (cl := []) (vs := vs) (s := { s with heap := h₄, toks := _ }) S F₅ (by k_is) (K₅.get 2) hIs (by omega) fun tn2 => ?_
        refine wpAny_Constant_int (sub_int ?_)
        refine nm (cl := []) F₅ (K₅.get 0) (sub_int ?_)
        have e9 : ((vs.length : Int) - 1 - (i : Int)) = ((rs.length - 1 - i : Nat) : Int) := by omega
        rw [e9]
        refine ev_mul (x := ampS) (n := rs.length - 1 - i) hal (by omega) fun t5 k5 => ?_
        refine add_str (fun t6 k6 => ?_) (by rw [hamp1, rep_amp_len, sizeLine_eq]; omega)
        refine Subscript_ (Subscript_ (Subscript_ (nm (cl := []) F₅ (K₅.get 2) (nm (cl := []) F₅ (K₅.get 0) ?_))))
        refine tail_list (vs := vs) (v := .ref T) hIs (by omega) (by omega) (by rw [Int.toNat_natCast]; exact hvi) rfl ?_
        refine wpAny_Constant_int ?_
        refine sub_tup (vs := [Value.str (sgn ri.1) tq, .ref d]) (j := 1) hTup rfl (by decide) rfl rfl ?_
        refine nm (cl := []) F₅ (K₅.get 1) ?_
        refine tail_get (l := l) (ep := ep) hdat hnodup hg ?_ rfl
        refine add_str (fun t7 k7 htk7 => ?_) (by rw [Str.length_append, hamp1, rep_amp_len, sizeLine_eq]; omega)
        refine .inl ⟨_, rfl, fun _ => fin ?_ F₅ (news_sub N₄ hsub) (Nat.le_trans (Nat.le_add_left 1 _) htk7)⟩
        rw [im_first hxi hokx h38 hLk hno, List.length_map]
end
end Mine.L03
end

section
open PySem PySem.W PyProof.Rows PyProof.V PySem.Calls Mine Mine.LA
set_option maxRecDepth 100000
set_option maxHeartbeats 1000000
namespace Mine.L03
theorem strs_toldA {α : Type} {f : α → Str} : ∀ {ys : List Value} {ps : List α}, ys.length = ps.length → (∀ (i : Nat) (y : Value) (p : α), ys[i]? = some y → ps[i]? = some p → ∃ t, y = Value.str (f p) t) →
    ∃ l : List (Str × Tok), ys = strValues l ∧ l.map (·.1) = ps.map f
  | [], [], _, _ => ⟨[], rfl, rfl⟩
  | y :: ys, p :: ps, hl, h => by
    obtain ⟨t, rfl⟩ := h 0 y p rfl rfl
    obtain ⟨l, rfl, e⟩ := strs_toldA (f := f) (ys := ys) (ps := ps) (by simpa using hl) fun i y p hy hp => h (i + 1) y p (by simpa using hy) (by simpa using hp)
    exact ⟨(f p, t) :: l, rfl, by simp [e]⟩
theorem sum_le {ys : List Str} {B : Nat} (h : ∀ y ∈ ys, y.length ≤ B) : (ys.map (·.length)).sum ≤ B * ys.length := by
  induction ys with
  | nil => simp
  | cons y r ih =>
    have h1 := h y (by simp)
    have h2 := ih fun z hz => h z (by simp [hz])
    rw [List.map_cons, List.sum_cons, List.length_cons, Nat.mul_succ]; omega
theorem toS_len (w : List Nat) : (toS w).length = w.length := by rw [← tl, toS_list]
theorem join_body {X : Str} {ls : List LA.Lay} {l : List (Str × Tok)} (h : l.map (·.1) = X.cps.toList.map fun c => toS (im ls c)) : Txt.join (Str.ofString "") (l.map (·.1)) = toS (X.cps.toList.flatMap (im ls)) := by
  refine LA.toList_inj ?_
  have hj : (Txt.join (Str.ofString "") (l.map (·.1))).cps.toList = ((l.map (·.1)).map (·.cps.toList)).flatten := join0 _
  rw [hj, h, List.map_map, toS_list, List.flatMap_def]
  congr 1
theorem ends_get {rs : List Row} {i : Nat} {r : Row} (h : rs[i]? = some r) : (ends rs)[i]? = some (im ((rs.drop (i + 1)).map (·.2)) r.1) := by
  unfold ends
  have hi := (List.getElem?_eq_some_iff.mp h).1
  rw [List.getElem?_map, List.getElem?_range hi]
  show some (im ((rs.drop (i + 1)).map (·.2)) (((rs[i]?).map (·.1)).getD 0)) = _
  rw [h]; rfl
theorem ends_len (rs : List Row) : (ends rs).length = rs.length := by unfold ends; rw [List.length_map, List.length_range]
theorem end_le {rs : List Row} (hok : ∀ r ∈ rs, okLay r.2) (h7 : rs.length ≤ 7) : ∀ e ∈ ends rs, e.length ≤ 34 := by
  intro e he
  unfold ends at he
  obtain ⟨k, _, rfl⟩ := List.mem_map.mp he
  have := im_len (ls := (rs.drop (k + 1)).map (·.2)) (fun y hy => by
    obtain ⟨q, hq, rfl⟩ := List.mem_map.mp hy
    exact hok q (List.mem_of_mem_drop hq)) (((rs[k]?).map (·.1)).getD 0)
  rw [List.length_map, List.length_drop] at this
  omega
section
variable (w : World) (p : Program) (loose : List Str) (mean : ExcName → Option Value) (mg mb : Str → Option Value)
theorem cDue (X : Str) (t : Tok) (rl : Addr) (rs : List Row) (hok : ∀ r ∈ rs, okLay r.2) (h7 : rs.length ≤ 7) (hX : X.length ≤ 400) :
    Mine.Gives PySem.Challenge.rw_dn0034_03.row.prog w (hd03.heap_39 w.params) p loose mean mg mb 6 110 [.str X t, .ref rl] (fun _ news => ∃ (vs : List Value) (k : Nat), (rl, listO vs k) ∈ news ∧ RowsAt w news vs rs)
    (fun v ex => ex = [] ∧ ∃ t', v = .str (dueQ X rs) t') := by
  have hSG := fun (c : Nat) (u : Tok) (rl : Addr) (rs : List Row) => cSG w p loose mean mg mb c u rl rs
  revert hSG
  k_fill
  intro hSG
  refine gives_defC (binds := [(Str.ofString "text", .str X t), (Str.ofString "rows", .ref rl)]) (by k_is) (by k_is) (fun s _ => BindsTo.of_eq (by kernel_rfl)) (by kernel_rfl) (by decide +kernel) rfl rfl rfl ?_
  intro A A₀ base outer g L news cells s Q S F N hY hlt hr hpre hQ
  obtain ⟨vs, cap, hrl, hrs⟩ := hpre
  obtain ⟨oc, rfl, hoc⟩ := CellsAre.one (n := Str.ofString "rows") (c := L + 1) hY
  have hvl : vs.length = rs.length := hrs.1
  have hoc : oc.data = .cell (some (.ref rl)) := hoc
  change Site _ _ _ _ _ _ A (envX (Str.ofString "_law_due") _ L 110 _ [(Str.ofString "rows", L + 1)]) A₀ base outer g L at S
  change wpAny _ _ (execs _ (envX (Str.ofString "_law_due") _ L 110 _ [(Str.ofString "rows", L + 1)])) _ _ _
  obtain ⟨m, F, K⟩ : ∃ m, Fr g L s.heap m ∧ Kn [(Str.ofString "text", .str X t)] m := ⟨_, F, Kn.cons (by kernel_rfl) Kn.nil⟩
  have hlok : ∀ x ∈ rs.map (·.2), okLay x := fun x hx => by
    obtain ⟨r, hr, rfl⟩ := List.mem_map.mp hx
    exact hok r hr
  have hlat : ∀ {h : Heap} {nw : List (Addr × Obj)}, News g L h nw → (∀ q ∈ (L + 1, oc) :: news, q ∈ nw) → h.IsList rl vs.toArray := fun N hs => ⟨_, (N _ (hs _ (.tail _ hrl))).1, rfl, _, rfl⟩
  have N : News g L s.heap ((L + 1, oc) :: news) := N
  refine letf (s₀ := s) (h₀ := g) (cl := [(Str.ofString "rows", L + 1)]) (hp := s.heap) (tk := s.toks) ?_
  refine mcall rfl rfl rfl ?_
  refine Constant_str ?_
  refine GM.join ?_
  refine callWith_method1 (spliced_more ?_ rfl) rfl rfl
  refine (comp_text (cl := [(Str.ofString "rows", L + 1)]) (s := { s with toks := s.toks + 1 }) (env := envX (Str.ofString "_law_due") _ L 110 _ [(Str.ofString "rows", L + 1)]) (h₀ := g) (L := L) (m := m) (fun i y => ∃ c u, X.cps.toList[i]? = some c ∧ y = .str (toS (im (rs.map (·.2)) c)) u) S.hh ?c1 ?c2 ?c3 ?c4 ?c5 ?c6 ?c7 :)
  case c1 => rfl
  case c2 => decide +kernel
  case c3 => rfl
  case c4 => decide +kernel
  case c5 => kernel_rfl
  case c6 => exact fun _ => rfl
  refine nm (cl := [(Str.ofString "rows", L + 1)]) F (K.get 0) ?_
  refine ⟨X, t, _, rfl, F, N, by rw [sizeLine_eq]; omega, ?el, ?fi⟩
  case el =>
    intro i c u C m₂ own s₂ hc hns hxv F N
    refine Call_ ?_
    refine cname_K F S.X (topRead_of S.T) (v := .ref 105) ?k11 ?k12 rfl rfl ?k13 ?k14
    case k11 => k_is
    case k13 => kernel_rfl
    case k14 => decide +kernel
    refine callWith_K (first := []) S.X ?k15 ?_ rfl rfl
    case k15 => k_is
    refine spliced_more ?_ rfl
    refine cname_L hns hxv ?_ rfl (by kernel_rfl) (by decide +kernel)
    refine spliced_more ?_ rfl
    refine cname_C (c := L + 1) (o := oc) N rfl (List.mem_append_right _ (.head _)) hoc ?_ rfl (by kernel_rfl) (by decide +kernel)
    refine spliced_none ⟨S.X.keeps F.keep, ?_⟩
    refine hSG c u rl rs hok h7 _ _ _ _ _ _ _ _ _ _ _ _ S F N (hr.le (by decide)) ⟨vs, cap, List.mem_append_right _ (.tail _ hrl), hrs.mono fun q hq => List.mem_append_right _ (.tail _ hq)⟩ ?_
    rintro v ex h' tk' F' N' _ _ ⟨rfl, t₂, rfl⟩
    exact ⟨_, _, rfl, F', N', c, t₂, hc, rfl⟩
  case fi =>
  intro ys D h₇ tk₇ hyl hR F₇ N₇ hnD
  obtain ⟨l9, rfl, hl9⟩ := strs_toldA (f := fun c => toS (im (rs.map (·.2)) c)) (ys := ys) (ps := X.cps.toList) (by rw [hyl]; simp [Str.length]) (fun i y c hy hc => by
    obtain ⟨c', u, hc', rfl⟩ := hR i y hy
    rw [hc] at hc'; cases hc'
    exact ⟨u, rfl⟩)
  refine spliced_none ?_
  refine SC.join (l := l9) ⟨_, (N₇ _ (.head _)).1, rfl, _, rfl⟩ rfl (joinOk_of ?_) ?_
  · have hB : ∀ y ∈ l9.map (·.1), y.length ≤ 34 := by
      rw [hl9]
      intro y hy
      obtain ⟨c, _, rfl⟩ := List.mem_map.mp hy
      have := im_len hlok c
      rw [List.length_map] at this
      show (toS (im (rs.map (·.2)) c)).length ≤ 34
      rw [toS_len]; omega
    have hs := sum_le hB
    have hxl : (l9.map (·.1)).length = X.length := by rw [hl9]; simp [Str.length]
    rw [hxl] at hs
    have h0l : (Str.ofString "").length = 0 := by decide +kernel
    rw [h0l, Nat.mul_zero]
    omega
  intro tb k9
  rw [join_body hl9]
  generalize hbd : X.cps.toList.flatMap (im (rs.map (·.2))) = body
  have hbl : body.length ≤ 13600 := by
    have h1 := flatMap_len (im_len hlok) X.cps.toList
    rw [List.length_map, tl, hbd] at h1
    have h4 : (6 + 4 * rs.length) * X.length ≤ 34 * 400 := Nat.mul_le_mul (by omega) hX
    omega
  refine ⟨_, _, _, _, rfl, F₇, (news_sub N₇ fun q hq => .tail _ hq : News g L h₇ ((L + 1, oc) :: news)), fun h₈ tk₈ htk₈ F₈ N₈ => ?_⟩
  obtain ⟨m₈, F₈, K₈⟩ : ∃ m₈, Fr g L h₈ m₈ ∧ Kn [(Str.ofString "due", .str (toS body) tb)] m₈ := ⟨_, F₈, Kn.nil.add rfl⟩
  clear F₇ N₇
  refine (for_range (s₀ := s) (hp := h₈) (tk := tk₈) (cl := [(Str.ofString "rows", L + 1)]) S.hh F₈ ?fs ?fz ?fk ?loop :)
  case fs => exact fun _ => rfl
  case fz => rfl
  case fk => kernel_rfl
  refine call_range_e (cl := [(Str.ofString "rows", L + 1)]) (s := { s with heap := h₈, toks := tk₈ }) S F₈ (by k_is) ?_
  refine call_b1 (cl := [(Str.ofString "rows", L + 1)]) S F₈ (by k_is) boot_len ?_
  refine nameX_C (cl := [(Str.ofString "rows", L + 1)]) (s := { s with heap := h₈, toks := tk₈ }) (c := L + 1) (o := oc) N₈ rfl (.head _) hoc ?_ rfl (by kernel_rfl) (by decide +kernel)
  refine len_list (hlat N₈ fun _ h => h) (by rw [List.size_toArray]; omega) ?_
  rw [List.size_toArray]
  refine ⟨vs.length, _, m₈, _, rfl, F₈, N₈, fun r h₃ tk₃ t₀ u₀ v₀ hrg F₃ N₃ => ?_⟩
  refine ⟨fun i m₁ n₁ => n₁ = (L + 1, oc) :: news ∧ ∃ tb, Kn [(Str.ofString "due", .str (toS (wrap body ((ends rs).take i))) tb)] m₁,
    r, vs.length, t₀, u₀, v₀, m₈, _, h₃, tk₃, rfl, rfl, F₃, N₃, hrg, by omega, ⟨rfl, tb, K₈⟩, ?step, ?done⟩
  case done =>
    rintro h₄ tk₄ m₄ _ F₄ N₄ ⟨rfl, tb', K₄⟩ htk₄
    refine seq_ret (nm (cl := [(Str.ofString "rows", L + 1)]) F₄ (K₄.get 0) ?_)
    rw [hvl, ← ends_len rs, List.take_length]
    have hd : toS (wrap body (ends rs)) = dueQ X rs := by unfold dueQ; rw [hbd]
    rw [hd]
    exact hQ _ [] h₄ tk₄ m₄ F₄ (news_sub N₄ fun q hq => .tail _ hq) (fun _ _ _ hx => nomatch hx) (Nat.le_trans htk₈ htk₄) ⟨rfl, _, rfl⟩
  case step =>
    rintro i ti m₁ _ h₄ tk₄ own I hi ⟨rfl, tb', K₁⟩ hoff hown F₄ N₄ htk₄
    have hi' : i < rs.length := by omega
    obtain ⟨ri, hri⟩ : ∃ ri, rs[i]? = some ri := ⟨_, List.getElem?_eq_getElem hi'⟩
    obtain ⟨T, tq, d, l, ep, hvi, hTm, hdm, hl, lo⟩ := hrs.get hri
    have hei := ends_get hri
    have htake : (ends rs).take (i + 1) = (ends rs).take i ++ [im ((rs.drop (i + 1)).map (·.2)) ri.1] := by rw [List.take_add_one, hei]; rfl
    have hel : (im ((rs.drop (i + 1)).map (·.2)) ri.1).length ≤ 34 := end_le hok h7 _ (List.mem_of_getElem? hei)
    have hwl : (wrap body ((ends rs).take i)).length ≤ 14076 := by
      have := wrap_len body 34 ((ends rs).take i) fun e he => end_le hok h7 e (List.mem_of_mem_take he)
      rw [List.length_take] at this
      omega
    obtain ⟨m₅, F₅, K₅⟩ : ∃ m₅, Fr g L h₄ m₅ ∧ Kn [(Str.ofString "k", .int (i : Int) ti), (Str.ofString "due", .str (toS (wrap body ((ends rs).take i))) tb')] m₅ := ⟨_, F₄, K₁.add (by kernel_rfl)⟩
    clear F₄ K₁
    have hsub : ∀ q ∈ (L + 1, oc) :: news, q ∈ own ++ (L + 1, oc) :: news := fun q hq => List.mem_append_right _ hq
    have hIs := hlat N₄ hsub
    have hTup : IsTup h₄ T [Value.str (sgn ri.1) tq, .ref d].toArray := ⟨_, (N₄ _ (hsub _ (.tail _ hTm))).1, rfl, _, rfl⟩
    have ei : ((i : Int) + 1) = ((i + 1 : Nat) : Int) := by omega
    refine letf (s₀ := s) (h₀ := g) (cl := [(Str.ofString "rows", L + 1)]) ?_
    refine call_name S F₅ (f := 105) ?a1 ?a2 ?a3 ?a4 ?_ rfl rfl
    case a1 => k_is
    case a2 => k_is
    case a3 => kernel_rfl
    case a4 => decide +kernel
    refine spliced_more ?_ rfl
    refine Subscript_ (Subscript_ ?_)
    refine nameX_C (cl := [(Str.ofString "rows", L + 1)]) (c := L + 1) (o := oc) N₄ rfl (hsub _ (.head _)) hoc ?_ rfl (by kernel_rfl) (by decide +kernel)
    refine nm (cl := [(Str.ofString "rows", L + 1)]) F₅ (K₅.get 0) ?_
    refine tail_list (vs := vs) (v := .ref T) hIs (by omega) (by omega) (by rw [Int.toNat_natCast]; exact hvi) rfl ?_
    refine wpAny_Constant_int ?_
    refine sub_tup (vs := [Value.str (sgn ri.1) tq, .ref d]) (j := 0) hTup rfl (by decide) rfl rfl ?_
    refine spliced_more ?_ rfl
    refine ev_slice (h₀ := g) (L := L) ?_
    refine nameX_C (cl := [(Str.ofString "rows", L + 1)]) (c := L + 1) (o := oc) N₄ rfl (hsub _ (.head _)) hoc ?_ rfl (by kernel_rfl) (by decide +kernel)
    rw [evalPart_some]
    refine wpAny_BinOp (nm (cl := [(Str.ofString "rows", L + 1)]) F₅ (K₅.get 0) (wpAny_Constant_int (add_int ?_)))
    rw [ei, evalPart_none]
    refine wpAny_pure ?_
    refine ⟨rl, vs, some ((i + 1 : Nat) : Int), none, m₅, _, rfl, F₅, N₄, .inl ⟨_, hsub _ (.tail _ hrl)⟩, by omega, .int _ _, .none, fun D5 h₁₄ F₁₄ N₁₄ hlt14 => ?_⟩
    rw [slicePick_from vs.toArray (i + 1) (by rw [List.size_toArray]; omega), List.toList_toArray] at N₁₄
    refine spliced_none ⟨S.X.keeps F₁₄.keep, ?_⟩
    refine hSG ri.1 tq D5 (rs.drop (i + 1)) (fun r hr => hok r (List.mem_of_mem_drop hr)) (by rw [List.length_drop]; omega) _ _ _ _ _ _ _ _ _ _ _ _ S F₁₄ N₁₄ (hr.le (by decide)) ⟨vs.drop (i + 1), 0, .head _, (hrs.drop (i + 1)).mono fun q hq => .tail _ (hsub _ (.tail _ hq))⟩ ?_
    rintro v ex h₁₅ tk₁₅ F₁₅ N₁₅ _ htk₁₅ ⟨rfl, te, rfl⟩
    have N₁₅ : News g L h₁₅ (own ++ (L + 1, oc) :: news) := news_sub N₁₅ fun q hq => .tail _ hq
    refine ⟨_, _, _, _, rfl, F₁₅, N₁₅, fun h₁₆ tk₁₆ htk₁₆ F₁₆ N₁₆ => ?_⟩
    generalize hee : im ((rs.drop (i + 1)).map (·.2)) ri.1 = ee at *
    obtain ⟨m₆, F₆, K₆⟩ : ∃ m₆, Fr g L h₁₆ m₆ ∧ Kn [(Str.ofString "end", .str (toS ee) te), (Str.ofString "k", .int (i : Int) ti), (Str.ofString "due", .str (toS (wrap body ((ends rs).take i))) tb')] m₆ := ⟨_, F₁₆, K₅.add (by kernel_rfl)⟩
    refine letf (s₀ := s) (h₀ := g) (cl := [(Str.ofString "rows", L + 1)]) ?_
    refine wpAny_BinOp (wpAny_BinOp (nm (cl := [(Str.ofString "rows", L + 1)]) F₆ (K₆.get 0) (nm (cl := [(Str.ofString "rows", L + 1)]) F₆ (K₆.get 2) ?_)))
    refine add_str (fun t7 k7 => ?_) (by rw [toS_len, toS_len, sizeLine_eq]; omega)
    refine nm (cl := [(Str.ofString "rows", L + 1)]) F₆ (K₆.get 0) ?_
    refine add_str (fun t8 k8 => ?_) (by rw [Str.length_append, toS_len, toS_len, sizeLine_eq]; omega)
    refine ⟨_, _, _, _, rfl, F₆, N₁₆, fun h₁₇ tk₁₇ htk₁₇ F₁₇ N₁₇ => ?_⟩
    have hnew : toS ee ++ toS (wrap body ((ends rs).take i)) ++ toS ee = toS (wrap body ((ends rs).take (i + 1))) := by
      refine LA.toList_inj ?_
      rw [Str.cps_append, Str.cps_append, Array.toList_append, Array.toList_append, toS_list, toS_list, toS_list, htake, wrap_snoc]
    refine wpAny_execs_nil (.inr ⟨rfl, h₁₇, tk₁₇, _, _, rfl, F₁₇, N₁₇, hoff, rfl, t8, ?_⟩)
    rw [← hnew]
    exact Kn.cons (upd_at ..) Kn.nil
end
end Mine.L03
end

section
open PySem PySem.W PyProof.Rows PyProof.V PySem.Calls Mine Mine.LA
set_option maxRecDepth 100000
set_option maxHeartbeats 1000000
namespace Mine.L03
theorem e39 : ∀ x ∈ [((4 : Nat), false), (4, true), (6, false), (9, false)], encW x 39 = [39] := by decide +kernel
theorem e34a : encW (4, false) 34 = [34] := by decide +kernel
theorem e34b : encW (1, false) 34 ≠ [34] := by decide +kernel
theorem has_single {k : Nat} (hk : k < 4) (T : Str) : hasT (nxt k T) sq = (qOf k T == 39 || hasT T sq) := by
  rw [sq_sgn, nxt_has T (by decide) (by decide)]
  have hc : k = 2 ∨ encW (layQ k T) 39 = [39] := by
    have : k = 0 ∨ k = 1 ∨ k = 2 ∨ k = 3 := by omega
    rcases this with rfl | rfl | rfl | rfl
    · right
      rw [hlay0]
      cases (qOf 0 T == 34)
      · exact e39 _ (by simp)
      · exact e39 _ (by simp)
    · right; rw [show layQ 1 T = (6, false) from rfl]; exact e39 _ (by simp)
    · left; rfl
    · right; rw [show layQ 3 T = (9, false) from rfl]; exact e39 _ (by simp)
  rcases hc with rfl | hc
  · rw [show qOf 2 T = 39 from rfl]; rfl
  · rw [decide_eq_true hc, Bool.and_true]
theorem has_double {k : Nat} (hk : k < 4) (T : Str) : hasT (nxt k T) dq = if qOf k T = 39 then (if k = 2 then false else hasT T dq) else true := by
  rw [dq_sgn, nxt_has T (by decide) (by decide)]
  have : k = 0 ∨ k = 1 ∨ k = 2 ∨ k = 3 := by omega
  rcases this with rfl | rfl | rfl | rfl
  · rw [hlay0]
    by_cases h : qOf 0 T = 39
    · rw [h, if_pos rfl, if_neg (by decide), show ((39 : Nat) == 34) = false from by decide, decide_eq_true e34a, Bool.and_true, Bool.false_or]
    · have h' : qOf 0 T = 34 := by
        rw [hqo0] at h ⊢
        split
        · rename_i hh; rw [if_pos hh] at h; exact absurd rfl h
        · rfl
      rw [h', if_neg (by decide)]; rfl
  · rw [show qOf 1 T = 34 from rfl, if_neg (by decide)]; rfl
  · rw [show qOf 2 T = 39 from rfl, if_pos rfl, if_pos rfl, show layQ 2 T = (1, false) from rfl, decide_eq_false e34b, Bool.and_false]; rfl
  · rw [show qOf 3 T = 34 from rfl, if_neg (by decide)]; rfl
def nm0 : List (Str × Str) := LG ++ [(LA.o "\n", LA.o "#10;"), (LA.o "\x0d", LA.o "#13;"), (LA.o "\t", LA.o "#9;")]
def nm1 : List (Str × Str) := LG ++ [(LA.o "\"", LA.o "quot;"), (LA.o "\n", LA.o "#10;"), (LA.o "\x0d", LA.o "#13;"), (LA.o "\t", LA.o "#09;")]
def nm2 : List (Str × Str) := LG ++ [(LA.o "\"", LA.o "quot;"), (LA.o "'", LA.o "#x27;")]
def nm3 : List (Str × Str) := [(LA.o "<", LA.o "lt;"), (LA.o "\"", LA.o "quot;"), (LA.o "\n", LA.o "#xA;"), (LA.o "\x0d", LA.o "#xD;"), (LA.o "\t", LA.o "#x9;")]
theorem nm_eqs : NM 4 false = nm0 ∧ NM 4 true = nm0 ++ [(LA.o "\"", LA.o "quot;")] ∧ NM 6 false = nm1 ∧ NM 1 false = nm2 ∧ NM 9 false = nm3 := by decide +kernel
theorem nm_nd : (nm0.map (·.1)).Nodup ∧ (nm1.map (·.1)).Nodup ∧ (nm2.map (·.1)).Nodup ∧ (nm3.map (·.1)).Nodup ∧ Str.ofString "\"" ∉ nm0.map (·.1) := by decide +kernel
theorem lnReps_app (a b : List Ln) : lnReps (a ++ b) = lnReps a ++ lnReps b := by simp [lnReps]
section
variable {prog : Program} {w : World} {A : Around} {E : Value → Shared → Prop} {s : Shared} {h₀ : Heap} {L a : Addr} {m : Str → Option Value}
  {cn : Str} {cs : Scope} {ccd : Value} {cl : List (Str × Addr)} {news : List (Addr × Obj)} {target : Expr} {body : List Stmt} {Q : Flow → Shared → Prop}
theorem iter_list2 {l : Addr} {vs : List Value} (J : Nat → (Str → Option Value) → List (Addr × Obj) → Prop)
    (hh : A.handled = none) (F : Fr h₀ L s.heap m) (N : News h₀ L s.heap news) (hl : ListAt h₀ news l vs) (h0 : J 0 m news)
    (step : ∀ i v m₁ news₁ h₁ tk₁ own I, vs[i]? = some v → J i m₁ news₁ → (∀ p ∈ news₁, p.1 ≠ I) → (∀ p ∈ own, p.1 = I ∨ p.1 = l) → (∃ o, (I, o) ∈ own) → Fr h₀ L h₁ m₁ → News h₀ L h₁ (own ++ news₁) →
      wpAny (model prog w) A (assign target (envX cn cs L a ccd cl) v) (fun _ s₂ => wpAny (model prog w) A (execs body (envX cn cs L a ccd cl))
        (LoopStepV h₀ L [I] own (J (i + 1)) { s with heap := h₁, toks := tk₁ } (fun v s' => Q (.ret v) s') fun s' => Q .next s') E s₂) E { s with heap := h₁, toks := tk₁ })
    (done : ∀ h' tk m' news', Fr h₀ L h' m' → News h₀ L h' news' → J vs.length m' news' → Q .next { s with heap := h', toks := tk }) :
    wpAny (model prog w) A (pyIter (.ref l)) (fun it s₂ => TurnsAt prog w A h₀ (envX cn cs L a ccd cl) target body Q E it s₂) E s := by
  have hls := hl.at F N
  have hne : l ≠ s.heap.objs.size := by obtain ⟨o, ho, _⟩ := hls; exact Nat.ne_of_lt (Heap.lt_size ho)
  refine wpAny_pyIter_list hls ?_
  refine ⟨s.heap.objs.size, [s.heap.objs.size, l], [s.heap.objs.size], vs.length, _, _, _, m, news, J, rfl,
    (by have W := KTurns.ofWalks (target := target) (Walks.list (prog := prog) (w := w) hh s.heap.objs.size l hne vs.toArray) fun i v s Q E st q => letGo_listiter st.1 q
        rw [List.size_toArray] at W; exact W), ?_, ?_, ?_, ?_, F.push _, ?_, h0, ?_, ?_⟩
  · intro hm'
    rcases List.mem_cons.mp hm' with e | e
    · exact absurd F.ns.lt (by rw [show L = s.heap.objs.size from e]; exact Nat.lt_irrefl _)
    · exact hl.ne F N (List.mem_singleton.mp e).symm
  · intro b hb
    rw [List.mem_singleton.mp hb]
    exact next_is_new F
  · intro q hq hI
    exact absurd (Heap.lt_size (N _ hq).1) ((List.mem_singleton.mp hI) ▸ Nat.lt_irrefl _)
  · exact ⟨⟨_, Heap.get?_push_size _ rfl, rfl, rfl⟩, hls.push _⟩
  · exact fun q hq => ⟨Heap.get?_push_of_some _ (N _ hq).1, (N _ hq).2⟩
  · intro i v m₁ news₁ h₁ tk₁ own _ hP hJ hoff hof _ hall hSt F₁ N₁
    refine step i v m₁ news₁ h₁ tk₁ own s.heap.objs.size (by have hP' : vs.toArray[i]? = some v := hP; simpa using hP') hJ (fun p hp e => hoff p hp (by simp [e])) (fun p hp => by simpa using hof p hp) (hSt.1.elim fun o ho => ⟨o, hall _ (.head _) (next_is_new F) o ho.1⟩) F₁ N₁
  · exact fun h' tk m' news' F' N' _ hJ => done h' tk m' news' F' N' hJ

end
section
variable {prog : Program} {w : World} {M : Model} {A : Around} {s : Shared} {h₀ : Heap} {L a : Addr} {m : Str → Option Value} {env : Env}
  {cn : Str} {cs : Scope} {ccd : Value} {cl : List (Str × Addr)} {news : List (Addr × Obj)}
/-- for TARGET in ITER: a list; no turn leaves the loop early -/
theorem for_list_e2 {s₀ : Shared} {hp : Heap} {tk : Tok} {target iter : Expr} {pos : Pos} {body rest : List Stmt} {Q : Flow → Shared → Prop}
    (hh : A.handled = none) (F : Fr h₀ L hp m) (hs : ∀ v, foldedSetIterable iter (envX cn cs L a ccd cl) v = pure v)
    (h : wpAny (model prog w) A (eval iter (envX cn cs L a ccd cl)) (fun v s₁ => ∃ (J : Nat → (Str → Option Value) → List (Addr × Obj) → Prop) (l : Addr) (vs : List Value) (m₁ : Str → Option Value) (news₁ : List (Addr × Obj)) (h₁ : Heap) (tk₁ : Tok), v = .ref l ∧ s₁ = { s₀ with heap := h₁, toks := tk₁ } ∧ Fr h₀ L h₁ m₁ ∧ News h₀ L h₁ news₁ ∧ ListAt h₀ news₁ l vs ∧ J 0 m₁ news₁ ∧
      (∀ i v m₁ news₁ h₁ tk₁ own I, vs[i]? = some v → J i m₁ news₁ → (∀ p ∈ news₁, p.1 ≠ I) → (∀ p ∈ own, p.1 = I ∨ p.1 = l) → (∃ o, (I, o) ∈ own) → Fr h₀ L h₁ m₁ → News h₀ L h₁ (own ++ news₁) →
        wpAny (model prog w) A (assign target (envX cn cs L a ccd cl) v) (fun _ s₂ => wpAny (model prog w) A (execs body (envX cn cs L a ccd cl))
          (fun fl s₃ => fl = .next ∧ ∃ h' tk m' news', s₃ = { s₀ with heap := h', toks := tk } ∧ Fr h₀ L h' m' ∧ News h₀ L h' (own ++ news') ∧ (∀ p ∈ news', p.1 ≠ I) ∧ J (i + 1) m' news') (fun _ _ => False) s₂) (fun _ _ => False) { s₀ with heap := h₁, toks := tk₁ }) ∧
      (∀ h' tk' m' news', Fr h₀ L h' m' → News h₀ L h' news' → J vs.length m' news' → tk ≤ tk' → wpAny (model prog w) A (execs rest (envX cn cs L a ccd cl)) Q (fun _ _ => False) { s₀ with heap := h', toks := tk' })) (fun _ _ => False) { s₀ with heap := hp, toks := tk }) :
    wpAny (model prog w) A (execs (.For target iter body [] pos :: rest) (envX cn cs L a ccd cl)) Q (fun _ _ => False) { s₀ with heap := hp, toks := tk } := by
  refine wpAny_execs_cons (toksQ ?_)
  refine For_turns (s := { s₀ with heap := hp, toks := tk }) (h₀ := h₀) (m := m) F ?_ hs PassesOwn.never
  refine wpAny_mono h ?_ (fun _ _ x => x)
  rintro v s₁ ⟨J, l, vs, m₁, news₁, h₁, tk₁, rfl, rfl, F₁, N₁, hl, h0, step, done⟩
  refine iter_list2 (s := { s₀ with heap := h₁, toks := tk₁ }) J hh F₁ N₁ hl h0 ?_ (fun h' tk m' news' F' N' hJ => ?_)
  · intro i v m₁ news₁ h₁ tk₁ own I hv hJ hoff hown hI F₁ N₁
    refine wpAny_mono (step i v m₁ news₁ h₁ tk₁ own I hv hJ hoff hown hI F₁ N₁) ?_ (fun _ _ x => x)
    intro _ s₂ h₂
    refine wpAny_mono h₂ ?_ (fun _ _ x => x)
    rintro fl s₃ ⟨rfl, h₃, tk₃, m₃, news₃, rfl, F₃, N₃, hoff₃, hJ₃⟩
    exact .next ⟨rfl, h₃, tk₃, m₃, news₃, rfl, F₃, N₃, fun p hp hq => hoff₃ p hp (List.mem_singleton.mp hq), hJ₃⟩
  · exact fun htk => done h' tk m' news' F' N' hJ htk

end
theorem unpackN {prog : Program} {w : World} {A : Around} {E : Value → Shared → Prop} {s : Shared} {h₀ : Heap} {L t : Addr} {m : Str → Option Value} {news : List (Addr × Obj)} {items : Array Value} {n : Nat} {Q : List Value → Shared → Prop}
    (hh : A.handled = none) (F : Fr h₀ L s.heap m) (N : News h₀ L s.heap news) (ht : IsTup s.heap t items) (hn : n = items.size)
    (h : ∀ h', Fr h₀ L h' m → News h₀ L h' news → Q items.toList { s with heap := h' }) : wpAny (model prog w) A (unpackItems (.ref t) n none) Q E s := by
  subst hn
  exact unpackItems_tuple hh ht fun h' he => h h' (F.extBut he (Nat.le_refl _)) (news_ext N he)
theorem sgq {a : Str} {q : Nat} {tk : Tok} (h : a = sgn q) : ∃ tq, Value.str a tk = .str (sgn q) tq := ⟨tk, by rw [h]⟩
theorem st_two {prog : Program} {w : World} {A : Around} {E : Value → Shared → Prop} {h₀ : Heap} {L a : Addr} {m : Str → Option Value} {cn : Str} {cs : Scope} {ccd : Value} {cl : List (Str × Addr)} {news : List (Addr × Obj)} {s₀ : Shared} {hp : Heap} {tk : Tok}
    {x1 x2 xt u v X : Str} {t : Tok} {n1 n2 k1 k2 : Nat} {p1 p2 p3 q1 q2 q3 q4 q5 q6 q7 pos : Pos} {rest : List Stmt} {Q : Flow → Shared → Prop}
    (hh : A.handled = none) (F : Fr h₀ L hp m) (N : News h₀ L hp news) (hm : m xt = some (.str X t))
    (hk : cs.kind = .function) (hx1 : (envX cn cs L a ccd cl).kindOf x1 = some .local) (hx2 : (envX cn cs L a ccd cl).kindOf x2 = some .local) (hxt : (envX cn cs L a ccd cl).kindOf xt = some .local) (hd : (xt == ("__debug__" : Str)) = false)
    (hs : swapsWithSole [.Tuple [.Name x1 p1, .Name x2 p2] k1 p3] (.Tuple [.Compare (.Constant (.str u) n1 q1) [.In] [.Name xt q2] q3, .Compare (.Constant (.str v) n2 q4) [.In] [.Name xt q5] q6] k2 q7) pos.line (envX cn cs L a ccd cl) = pure false)
    (hw : swappedStores [.Tuple [.Name x1 p1, .Name x2 p2] k1 p3] (.Tuple [.Compare (.Constant (.str u) n1 q1) [.In] [.Name xt q2] q3, .Compare (.Constant (.str v) n2 q4) [.In] [.Name xt q5] q6] k2 q7) (envX cn cs L a ccd cl) = pure (some [x1, x2]))
    (h : ∀ h' tk', 1 ≤ tk' → Fr h₀ L h' (upd (upd m x2 (.bool (hasT X v))) x1 (.bool (hasT X u))) → News h₀ L h' news → wpAny (model prog w) A (execs rest (envX cn cs L a ccd cl)) Q E { s₀ with heap := h', toks := tk' }) :
    wpAny (model prog w) A (execs (.Assign [.Tuple [.Name x1 p1, .Name x2 p2] k1 p3] (.Tuple [.Compare (.Constant (.str u) n1 q1) [.In] [.Name xt q2] q3, .Compare (.Constant (.str v) n2 q4) [.In] [.Name xt q5] q6] k2 q7) pos :: rest) (envX cn cs L a ccd cl)) Q E { s₀ with heap := hp, toks := tk } := by
  refine wpAny_execs_cons ?_
  refine Assign_Tuple_swapped (names := [x1, x2]) ?w0 ?w1 ?w2
  case w1 => exact hs
  case w2 => exact hw
  refine Tuple_ ?_
  refine spliced_more ?_
  refine wpAny_Compare1 ?_
  refine Constant_str ?_
  refine nm_L (h₀ := h₀) (m := m) (v := .str X t) ?a1 ?a2 ?a3 ?a4 ?a5 ?a6
  case a1 => exact F
  case a2 => exact hm
  case a3 => exact hk
  case a4 => exact hxt
  case a5 => exact hd
  refine in_str ?_
  refine spliced_more ?_
  refine wpAny_Compare1 ?_
  refine Constant_str ?_
  refine nm_L (h₀ := h₀) (m := m) (v := .str X t) ?b1 ?b2 ?b3 ?b4 ?b5 ?b6
  case b1 => exact F
  case b2 => exact hm
  case b3 => exact hk
  case b4 => exact hxt
  case b5 => exact hd
  refine in_str ?_
  refine spliced_none ?_
  refine newTuple_N (h₀ := h₀) (L := L) (m := m) (news := news) ?c1 ?c2 ?c3 ?c4
  case c1 => exact F
  case c2 => exact N
  case c4 => exact Nat.le_of_ble_eq_true rfl
  intro h₁ F₁ N₁
  have hT2 : IsTup h₁ hp.objs.size #[.bool !(Builtin.Str.occurrences X u 0 X.length 1).isEmpty, .bool !(Builtin.Str.occurrences X v 0 X.length 1).isEmpty] := ⟨_, (N₁ _ (.head _)).1, rfl, _, rfl⟩
  refine unpackN (h₀ := h₀) (L := L) (m := m) (news := news) (t := hp.objs.size) (items := #[.bool !(Builtin.Str.occurrences X u 0 X.length 1).isEmpty, .bool !(Builtin.Str.occurrences X v 0 X.length 1).isEmpty]) ?d1 ?d2 ?d3 ?d4 ?d5 ?d6
  case d1 => exact hh
  case d2 => exact F₁
  case d3 => exact news_sub N₁ fun q hq => .tail _ hq
  case d4 => exact hT2
  case d5 => rfl
  intro h₂ F₂ N₂
  refine assignInOrder_cons ?_
  refine bindName_ ?_
  refine storeX_L (h₀ := h₀) (m := m) (news := news) ?e1 ?e2 ?e3 ?e4 ?e5
  case e1 => exact F₂
  case e2 => exact N₂
  case e4 => exact hk
  case e5 => exact hx2
  intro h₃ F₃ N₃
  refine assignInOrder_cons ?_
  refine bindName_ ?_
  refine storeX_L (h₀ := h₀) (m := upd m x2 (.bool !(Builtin.Str.occurrences X v 0 X.length 1).isEmpty)) (news := news) ?f1 ?f2 ?f3 ?f4 ?f5
  case f1 => exact F₃
  case f2 => exact N₃
  case f4 => exact hk
  case f5 => exact hx1
  intro h₄ F₄ N₄
  refine assignInOrder_nil ?_
  have F₅ : Fr h₀ L h₄ (upd (upd m x2 (.bool (hasT X v))) x1 (.bool (hasT X u))) := by unfold hasT; exact F₄
  exact h h₄ _ (Nat.le_add_left _ _) F₅ N₄
section
variable (w : World) (p : Program) (loose : List Str) (mean : ExcName → Option Value) (mg mb : Str → Option Value)
theorem cRows (X : Str) (t : Tok) (ks : List Nat) (kl : Addr) (hks : ∀ k ∈ ks, k < 4) (h7 : ks.length ≤ 7) :
    Mine.Gives PySem.Challenge.rw_dn0034_03.row.prog w (hd03.heap_39 w.params) p loose mean mg mb 6 98 [.str X t, .ref kl] (fun _ news => ∃ (vs : List Value) (c : Nat), (kl, listO vs c) ∈ news ∧ KsAt vs ks)
    (fun v ex => ∃ rl vs' c, v = .ref rl ∧ (rl, listO vs' c) ∈ ex ∧ RowsAt w ex vs' (rowsQ X ks)) := by
  k_fill
  refine gives_def (binds := [(Str.ofString "text", .str X t), (Str.ofString "kinds", .ref kl)]) (by k_is) (by k_is) (fun s _ => BindsTo.of_eq (by kernel_rfl)) (locs (by kernel_rfl)) rfl rfl rfl (by decide) ?_
  intro A A₀ base outer g L news s Q S F N h1 hr hpre hQ
  obtain ⟨vs, cap, hkl, hvs⟩ := hpre
  have hvl : vs.length = ks.length := hvs.1
  obtain ⟨m, F, K⟩ : ∃ m, Fr g L s.heap m ∧ Kn [(Str.ofString "text", .str X t), (Str.ofString "kinds", .ref kl)] m := ⟨_, F, Kn.cons (by kernel_rfl) (Kn.cons (by kernel_rfl) Kn.nil)⟩
  refine st_two (cl := []) (X := X) (t := t) (news := news) (m := m) (h₀ := g) (s₀ := s) (hp := s.heap) (tk := s.toks) ?a1 ?a2 ?a3 ?a4 ?a5 ?a6 ?a7 ?a8 ?a9 ?a10 ?a11 ?a12
  case a1 => exact S.hh
  case a2 => exact F
  case a3 => exact N
  case a4 => exact K.get 0
  case a5 => rfl
  case a6 => kernel_rfl
  case a7 => kernel_rfl
  case a8 => kernel_rfl
  case a9 => decide +kernel
  case a10 => rfl
  case a11 => kernel_rfl
  intro h₄ tk₄ htk₄ F₄ N₄
  obtain ⟨m₄, F₄, K₄⟩ : ∃ m₄, Fr g L h₄ m₄ ∧ Kn [(Str.ofString "single", .bool (hasT X sq)), (Str.ofString "double", .bool (hasT X dq)), (Str.ofString "text", .str X t), (Str.ofString "kinds", .ref kl)] m₄ := ⟨_, F₄, (K.add (by kernel_rfl)).add (by kernel_rfl)⟩
  clear F N K
  refine letf (s₀ := s) (h₀ := g) (cl := []) (hp := h₄) (tk := tk₄) ?_
  refine List_ ?_
  refine spliced_none ?_
  refine newList_N (h₀ := g) (L := L) (m := m₄) (news := news) ?g1 ?g2 ?g3 ?g4
  case g1 => exact F₄
  case g2 => exact N₄
  case g4 => exact Nat.zero_le _
  intro h₅ F₅ N₅
  refine ⟨_, _, _, _, rfl, F₅, N₅, fun h₆ tk₆ htk₆ F₆ N₆ => ?_⟩
  have hnr : ∀ q ∈ news, q.1 ≠ h₄.objs.size := fun q hq => Nat.ne_of_lt (Heap.lt_size (N₄ q hq).1)
  generalize h₄.objs.size = rl at *
  obtain ⟨m₆, F₆, K₆⟩ : ∃ m₆, Fr g L h₆ m₆ ∧ Kn [(Str.ofString "rows", .ref rl), (Str.ofString "single", .bool (hasT X sq)), (Str.ofString "double", .bool (hasT X dq)), (Str.ofString "text", .str X t), (Str.ofString "kinds", .ref kl)] m₆ := ⟨_, F₆, K₄.add (by kernel_rfl)⟩
  have N₆ : News g L h₆ ((rl, listO [] 0) :: ([] ++ news)) := N₆
  clear F₅ N₅ F₄ N₄ K₄
  refine (for_list_e2 (s₀ := s) (hp := h₆) (tk := tk₆) (cl := []) S.hh F₆ ?fs ?loop :)
  case fs => exact fun _ => rfl
  refine nm (cl := []) F₆ (K₆.get 4) ?_
  refine ⟨fun i m₁ n₁ => ∃ exN vs' c, n₁ = (rl, listO vs' c) :: (exN ++ news) ∧ RowsAt w exN vs' (rowsQ X (ks.take i)) ∧ (∀ x ∈ exN, ∀ q ∈ news, q.1 ≠ x.1) ∧ (∀ x ∈ exN, x.1 ≠ rl) ∧
      Kn [(Str.ofString "rows", .ref rl), (Str.ofString "single", .bool (hasT (toldQ X (ks.take i)) sq)), (Str.ofString "double", .bool (hasT (toldQ X (ks.take i)) dq)), (Str.ofString "text", .str X t), (Str.ofString "kinds", .ref kl)] m₁,
    kl, vs, m₆, _, h₆, tk₆, rfl, rfl, F₆, N₆, .inl ⟨cap, .tail _ (List.mem_append_right _ hkl)⟩, ⟨[], [], 0, rfl, ⟨rfl, fun i v r h => by simp at h⟩, (fun _ h => nomatch h), (fun _ h => nomatch h), K₆⟩, ?step, ?done⟩
  case done =>
    rintro h₇ tk₇ m₇ _ F₇ N₇ ⟨exN, vs', c, rfl, hrows, hap, hne, K₇⟩ htk₇
    rw [hvl, List.take_length] at hrows
    refine seq_ret (nm (cl := []) F₇ (K₇.get 0) ?_)
    refine hQ _ ((rl, listO vs' c) :: exN) h₇ tk₇ m₇ F₇ N₇ ?_ (Nat.le_trans htk₆ htk₇) ⟨rl, vs', c, rfl, .head _, hrows.mono fun q hq => .tail _ hq⟩
    intro q hq x hx
    rcases List.mem_cons.mp hx with rfl | hx
    · exact hnr q hq
    · exact hap x hx q hq
  case step =>
    rintro i v m₁ _ h₇ tk₇ own I hv ⟨exN, vs', c, rfl, hrows, hap, hne, K₁⟩ hoff hown hI F₇ N₇
    have hi' : i < ks.length := by rw [← hvl]; exact (List.getElem?_eq_some_iff.mp hv).1
    obtain ⟨ki, hki⟩ : ∃ ki, ks[i]? = some ki := ⟨_, List.getElem?_eq_getElem hi'⟩
    obtain ⟨tki, htki⟩ := hvs.2 i ki hki
    rw [hv] at htki
    have hve : v = .int (ki : Int) tki := Option.some.inj htki
    subst hve
    have hk4 := hks ki (List.mem_of_getElem? hki)
    have htake : ks.take (i + 1) = ks.take i ++ [ki] := by rw [List.take_add_one, hki]; rfl
    generalize hT : toldQ X (ks.take i) = T at *
    refine PyProof.Rows.assign_Name (storeX_L (s := { s with heap := h₇, toks := tk₇ }) F₇ N₇ (fun h₈ F₈ N₈ => ?_) rfl (by kernel_rfl))
    obtain ⟨m₈, F₈', K₈⟩ : ∃ m₈, Fr g L h₈ m₈ ∧ Kn [(Str.ofString "kind", .int (ki : Int) tki), (Str.ofString "rows", .ref rl), (Str.ofString "single", .bool (hasT T sq)), (Str.ofString "double", .bool (hasT T dq)), (Str.ofString "text", .str X t), (Str.ofString "kinds", .ref kl)] m₈ := ⟨_, F₈, K₁.add (by kernel_rfl)⟩
    clear F₇ N₇ K₁ F₈
    have F₈ := F₈'
    clear F₈'
    have hIn : ∀ {a : Addr}, (∀ q ∈ own, q.1 ≠ a) → I ≠ a := fun h => hI.elim fun o ho => h _ ho
    generalize hWd : own ++ (rl, listO vs' c) :: (exN ++ news) = W at *
    have hsz : ∀ {h : Heap}, News g L h W → ∀ q ∈ W, q.1 < h.objs.size := fun N q hq => Heap.lt_size (N q hq).1
    refine wpAny_execs_cons (wpAny_mono (Q := fun fl s' => fl = .next ∧ ∃ h tk m' d l ep tq, s' = { s with heap := h, toks := tk } ∧ Fr g L h m' ∧ News g L h ((d, dObj w l ep) :: W) ∧ (∀ q ∈ W, q.1 ≠ d) ∧ (d == sysModules) = false ∧ lnReps l = NM (layQ ki T).1 (layQ ki T).2 ∧
      Kn [(Str.ofString "quote", .str (sgn (qOf ki T)) tq), (Str.ofString "names", .ref d), (Str.ofString "rows", .ref rl), (Str.ofString "single", .bool (hasT T sq)), (Str.ofString "double", .bool (if ki = 2 then false else hasT T dq)), (Str.ofString "text", .str X t), (Str.ofString "kinds", .ref kl)] m') (E := fun _ _ => False) ?q1 ?q2 (fun _ _ x => x))
    case q1 =>
      have e34 : (sgn 34 == Str.ofString "\"") = true := by decide +kernel
      have e39 : (sgn 39 == Str.ofString "\"") = false := by decide +kernel
      refine wpAny_If (wpAny_isTrue_Compare1 (nm (cl := []) F₈ (K₈.get 0) (wpAny_Constant_int (eq_int (wpAny_truthy_bool ?_)))))
      split
      · rename_i hk2
        have hk2 : ki = 0 := by have := beq_iff_eq.mp hk2; omega
        subst hk2
        refine letf (s₀ := s) (h₀ := g) (cl := []) ?_
        refine wpAny_mono (Q := fun v s₁ => (∃ tq, v = .str (sgn (qOf 0 T)) tq) ∧ ∃ tk', s₁ = { s with heap := h₈, toks := tk' }) (E := fun _ _ => False) ?ife ?rest (fun _ _ x => x)
        case ife =>
          refine IfExp_ ?_
          refine isTrue_and (isTrue_plain (nm (cl := []) F₈ (K₈.get 3) (wpAny_truthy_bool ?_)) rfl)
          split
          · rename_i hd
            refine isTrue_and (isTrue_not (isTrue_plain (nm (cl := []) F₈ (K₈.get 2) (wpAny_truthy_bool ?_)) rfl))
            split
            · rename_i hs
              have hs : hasT T sq = false := by simpa using hs
              refine isTrue_and_nil ?_
              rw [if_pos rfl]
              refine Constant_str ⟨sgq ?_, _, rfl⟩
              rw [hqo0, hd, hs]; exact sq_sgn
            · rename_i hs
              have hs : hasT T sq = true := by simpa using hs
              rw [if_neg Bool.false_ne_true]
              refine Constant_str ⟨sgq ?_, _, rfl⟩
              rw [hqo0, hs, Bool.not_true, Bool.and_false, if_neg Bool.false_ne_true]; exact dq_sgn
          · rename_i hd
            have hd : hasT T dq = false := by simpa using hd
            rw [if_neg Bool.false_ne_true]
            refine Constant_str ⟨sgq ?_, _, rfl⟩
            rw [hqo0, hd, Bool.false_and, if_neg Bool.false_ne_true]; exact dq_sgn
        case rest =>
        rintro v s₁ ⟨⟨tq, rfl⟩, tk', rfl⟩
        refine ⟨_, _, _, _, rfl, F₈, N₈, fun h₉ tk₉ htk₉ F₉ N₉ => ?_⟩
        obtain ⟨m₉, F₉, K₉⟩ : ∃ m₉, Fr g L h₉ m₉ ∧ Kn [(Str.ofString "quote", .str (sgn (qOf 0 T)) tq), (Str.ofString "kind", .int ((0 : Nat) : Int) tki), (Str.ofString "rows", .ref rl), (Str.ofString "single", .bool (hasT T sq)), (Str.ofString "double", .bool (hasT T dq)), (Str.ofString "text", .str X t), (Str.ofString "kinds", .ref kl)] m₉ := ⟨_, F₉, K₈.add (by kernel_rfl)⟩
        refine letf (s₀ := s) (h₀ := g) (cl := []) ?_
        refine (ev_dict0 (s := { s with heap := h₉, toks := tk₉ }) (r := nm0) F₉ N₉ S.T.nolimit ?ddnm0 ?lnnm0 ?ndnm0 ?knm0 :)
        case ddnm0 => repeat (first | exact DPairs.nil | refine DPairs.cons ?_)
        case lnnm0 => exact Nat.le_of_ble_eq_true rfl
        case ndnm0 => exact nm_nd.1
        intro h' tkd F' N' hlt lo htk
        refine ⟨_, _, _, _, rfl, F', N', fun h₁₀ tk₁₀ htk₁₀ F₁₀ N₁₀ => ?_⟩
        have hdW : ∀ q ∈ W, q.1 ≠ h₉.objs.size := fun q hq => Nat.ne_of_lt (hlt q hq)
        generalize h₉.objs.size = d at *
        obtain ⟨m₁₀, F₁₀, K₁₀⟩ : ∃ m₁₀, Fr g L h₁₀ m₁₀ ∧ Kn [(Str.ofString "names", .ref d), (Str.ofString "quote", .str (sgn (qOf 0 T)) tq), (Str.ofString "kind", .int ((0 : Nat) : Int) tki), (Str.ofString "rows", .ref rl), (Str.ofString "single", .bool (hasT T sq)), (Str.ofString "double", .bool (hasT T dq)), (Str.ofString "text", .str X t), (Str.ofString "kinds", .ref kl)] m₁₀ := ⟨_, F₁₀, K₉.add (by kernel_rfl)⟩
        have hq2 : qOf 0 T = 34 ∨ qOf 0 T = 39 := by
          rw [hqo0]
          split
          · exact .inr rfl
          · exact .inl rfl
        have hlay := hlay0 T
        refine seq_if (wpAny_isTrue_Compare1 (nm (cl := []) F₁₀ (K₁₀.get 1) (Constant_str (eq_str (wpAny_truthy_bool ?_)))))
        rcases hq2 with hq | hq
        · rw [hq] at hlay K₁₀
          rw [show (sgn (qOf 0 T) == Str.ofString "\"") = true from by rw [hq]; exact e34, if_pos rfl]
          refine wpAny_execs_cons (wpAny_Assign_Subscript ?_)
          refine Constant_str ?_
          refine nm (cl := []) F₁₀ (K₁₀.get 0) ?_
          refine Constant_str ?_
          refine setItem_new (s := { s with heap := h₁₀, toks := _ }) (N₁₀ _ (.head _)).1 ?hkey ?hlen ?hset
          case hkey => rw [lnFrom_keys]; exact nm_nd.2.2.2.2
          case hlen => rw [lnFrom_length]; exact Nat.le_of_ble_eq_true rfl
          intro h₁₁ hd₁₁ hs₁₁
          have N₁₁ : News g L h₁₁ ((d, _) :: W) := fun q hq => by
            rcases List.mem_cons.mp hq with rfl | hq'
            · exact ⟨hd₁₁, (N₁₀ _ (.head _)).2⟩
            · exact ⟨hs₁₁.extBut _ _ (hdW q hq') (N₁₀ q (.tail _ hq')).1, (N₁₀ q (.tail _ hq')).2⟩
          have F₁₁ := fr_less F₁₀ hs₁₁ (N₁₀ _ (.head _)).2
          refine wpAny_execs_nil ?_
          dsimp only
          refine wpAny_execs_nil ⟨rfl, h₁₁, _, m₁₀, d, _, _, tq, rfl, F₁₁, N₁₁, hdW, lo, ?_, ?_⟩
          · rw [lnReps_app, lnFrom_reps, hlay]; exact nm_eqs.2.1.symm
          · rw [hq, if_neg (by decide)]
            exact Kn.cons (K₁₀.get 1) (Kn.cons (K₁₀.get 0) (Kn.cons (K₁₀.get 3) (Kn.cons (K₁₀.get 4) (Kn.cons (K₁₀.get 5) (Kn.cons (K₁₀.get 6) (Kn.cons (K₁₀.get 7) Kn.nil))))))
        · rw [hq] at hlay K₁₀
          rw [show (sgn (qOf 0 T) == Str.ofString "\"") = false from by rw [hq]; exact e39, if_neg Bool.false_ne_true]
          refine wpAny_execs_nil ?_
          dsimp only
          refine wpAny_execs_nil ⟨rfl, h₁₀, _, m₁₀, d, _, _, tq, rfl, F₁₀, N₁₀, hdW, lo, ?_, ?_⟩
          · rw [lnFrom_reps, hlay]; exact nm_eqs.1.symm
          · rw [hq, if_neg (by decide)]
            exact Kn.cons (K₁₀.get 1) (Kn.cons (K₁₀.get 0) (Kn.cons (K₁₀.get 3) (Kn.cons (K₁₀.get 4) (Kn.cons (K₁₀.get 5) (Kn.cons (K₁₀.get 6) (Kn.cons (K₁₀.get 7) Kn.nil))))))
      rename_i hc0
      refine seq_if (wpAny_isTrue_Compare1 (nm (cl := []) F₈ (K₈.get 0) (wpAny_Constant_int (eq_int (wpAny_truthy_bool ?_)))))
      split
      · rename_i hk2
        have hk2 : ki = 1 := by have := beq_iff_eq.mp hk2; omega
        subst hk2
        refine letf (s₀ := s) (h₀ := g) (cl := []) ?_
        refine Constant_str ?_
        refine ⟨_, _, _, _, rfl, F₈, N₈, fun h₉ tk₉ htk₉ F₉ N₉ => ?_⟩
        obtain ⟨tq, m₉, F₉, K₉⟩ : ∃ tq m₉, Fr g L h₉ m₉ ∧ Kn [(Str.ofString "quote", .str dq tq), (Str.ofString "kind", .int ((1 : Nat) : Int) tki), (Str.ofString "rows", .ref rl), (Str.ofString "single", .bool (hasT T sq)), (Str.ofString "double", .bool (hasT T dq)), (Str.ofString "text", .str X t), (Str.ofString "kinds", .ref kl)] m₉ := ⟨_, _, F₉, K₈.add (by kernel_rfl)⟩
        rw [dq_sgn] at K₉
        refine letf (s₀ := s) (h₀ := g) (cl := []) ?_
        refine (ev_dict0 (s := { s with heap := h₉, toks := tk₉ }) (r := nm1) F₉ N₉ S.T.nolimit ?ddnm1 ?lnnm1 ?ndnm1 ?knm1 :)
        case ddnm1 => repeat (first | exact DPairs.nil | refine DPairs.cons ?_)
        case lnnm1 => exact Nat.le_of_ble_eq_true rfl
        case ndnm1 => exact nm_nd.2.1
        intro h' tkd F' N' hlt lo htk
        refine ⟨_, _, _, _, rfl, F', N', fun h₁₀ tk₁₀ htk₁₀ F₁₀ N₁₀ => ?_⟩
        have hdW : ∀ q ∈ W, q.1 ≠ h₉.objs.size := fun q hq => Nat.ne_of_lt (hlt q hq)
        generalize h₉.objs.size = d at *
        obtain ⟨m₁₀, F₁₀, K₁₀⟩ : ∃ m₁₀, Fr g L h₁₀ m₁₀ ∧ Kn [(Str.ofString "names", .ref d), (Str.ofString "quote", .str (sgn 34) tq), (Str.ofString "kind", .int ((1 : Nat) : Int) tki), (Str.ofString "rows", .ref rl), (Str.ofString "single", .bool (hasT T sq)), (Str.ofString "double", .bool (hasT T dq)), (Str.ofString "text", .str X t), (Str.ofString "kinds", .ref kl)] m₁₀ := ⟨_, F₁₀, K₉.add (by kernel_rfl)⟩
        refine wpAny_execs_nil ?_
        dsimp only
        refine wpAny_execs_nil ⟨rfl, h₁₀, _, m₁₀, d, _, _, tq, rfl, F₁₀, N₁₀, hdW, lo, ?_, ?_⟩
        · rw [lnFrom_reps, show layQ 1 T = (6, false) from rfl]; exact nm_eqs.2.2.1.symm
        · rw [show qOf 1 T = 34 from rfl]
          rw [if_neg (by decide)]
          exact Kn.cons (K₁₀.get 1) (Kn.cons (K₁₀.get 0) (Kn.cons (K₁₀.get 3) (Kn.cons (K₁₀.get 4) (Kn.cons (K₁₀.get 5) (Kn.cons (K₁₀.get 6) (Kn.cons (K₁₀.get 7) Kn.nil))))))
      rename_i hc1
      refine seq_if (wpAny_isTrue_Compare1 (nm (cl := []) F₈ (K₈.get 0) (wpAny_Constant_int (eq_int (wpAny_truthy_bool ?_)))))
      split
      · rename_i hk2
        have hk2 : ki = 2 := by have := beq_iff_eq.mp hk2; omega
        subst hk2
        refine letf (s₀ := s) (h₀ := g) (cl := []) ?_
        refine Constant_str ?_
        refine ⟨_, _, _, _, rfl, F₈, N₈, fun h₉ tk₉ htk₉ F₉ N₉ => ?_⟩
        obtain ⟨tq, m₉, F₉, K₉⟩ : ∃ tq m₉, Fr g L h₉ m₉ ∧ Kn [(Str.ofString "quote", .str sq tq), (Str.ofString "kind", .int ((2 : Nat) : Int) tki), (Str.ofString "rows", .ref rl), (Str.ofString "single", .bool (hasT T sq)), (Str.ofString "double", .bool (hasT T dq)), (Str.ofString "text", .str X t), (Str.ofString "kinds", .ref kl)] m₉ := ⟨_, _, F₉, K₈.add (by kernel_rfl)⟩
        rw [sq_sgn] at K₉
        refine letf (s₀ := s) (h₀ := g) (cl := []) ?_
        refine (ev_dict0 (s := { s with heap := h₉, toks := tk₉ }) (r := nm2) F₉ N₉ S.T.nolimit ?ddnm2 ?lnnm2 ?ndnm2 ?knm2 :)
        case ddnm2 => repeat (first | exact DPairs.nil | refine DPairs.cons ?_)
        case lnnm2 => exact Nat.le_of_ble_eq_true rfl
        case ndnm2 => exact nm_nd.2.2.1
        intro h' tkd F' N' hlt lo htk
        refine ⟨_, _, _, _, rfl, F', N', fun h₁₀ tk₁₀ htk₁₀ F₁₀ N₁₀ => ?_⟩
        have hdW : ∀ q ∈ W, q.1 ≠ h₉.objs.size := fun q hq => Nat.ne_of_lt (hlt q hq)
        generalize h₉.objs.size = d at *
        obtain ⟨m₁₀, F₁₀, K₁₀⟩ : ∃ m₁₀, Fr g L h₁₀ m₁₀ ∧ Kn [(Str.ofString "names", .ref d), (Str.ofString "quote", .str (sgn 39) tq), (Str.ofString "kind", .int ((2 : Nat) : Int) tki), (Str.ofString "rows", .ref rl), (Str.ofString "single", .bool (hasT T sq)), (Str.ofString "double", .bool (hasT T dq)), (Str.ofString "text", .str X t), (Str.ofString "kinds", .ref kl)] m₁₀ := ⟨_, F₁₀, K₉.add (by kernel_rfl)⟩
        refine letf (s₀ := s) (h₀ := g) (cl := []) ?_
        refine wpAny_Constant_bool ?_
        refine ⟨_, _, _, _, rfl, F₁₀, N₁₀, fun h₁₁ tk₁₁ htk₁₁ F₁₁ N₁₁ => ?_⟩
        have K₁₁ := (Kn.cons (K₁₀.get 1) (Kn.cons (K₁₀.get 0) (Kn.cons (K₁₀.get 3) (Kn.cons (K₁₀.get 4) (Kn.cons (K₁₀.get 6) (Kn.cons (K₁₀.get 7) Kn.nil)))))).add (x := Str.ofString "double") (v := .bool false) (by kernel_rfl)
        refine wpAny_execs_nil ?_
        dsimp only
        refine wpAny_execs_nil ?_
        dsimp only
        refine wpAny_execs_nil ⟨rfl, h₁₁, _, _, d, _, _, tq, rfl, F₁₁, N₁₁, hdW, lo, ?_, ?_⟩
        · rw [lnFrom_reps, show layQ 2 T = (1, false) from rfl]; exact nm_eqs.2.2.2.1.symm
        · rw [show qOf 2 T = 39 from rfl]
          rw [if_pos rfl]
          exact Kn.cons (K₁₁.get 1) (Kn.cons (K₁₁.get 2) (Kn.cons (K₁₁.get 3) (Kn.cons (K₁₁.get 4) (Kn.cons (K₁₁.get 0) (Kn.cons (K₁₁.get 5) (Kn.cons (K₁₁.get 6) Kn.nil))))))
      rename_i hc2
      have hk9 : ki = 3 := by
        have e0 : ki ≠ 0 := fun h => hc0 (beq_iff_eq.mpr (by omega))
        have e1 : ki ≠ 1 := fun h => hc1 (beq_iff_eq.mpr (by omega))
        have e2 : ki ≠ 2 := fun h => hc2 (beq_iff_eq.mpr (by omega))
        omega
      subst hk9
      refine letf (s₀ := s) (h₀ := g) (cl := []) ?_
      refine Constant_str ?_
      refine ⟨_, _, _, _, rfl, F₈, N₈, fun h₉ tk₉ htk₉ F₉ N₉ => ?_⟩
      obtain ⟨tq, m₉, F₉, K₉⟩ : ∃ tq m₉, Fr g L h₉ m₉ ∧ Kn [(Str.ofString "quote", .str dq tq), (Str.ofString "kind", .int ((3 : Nat) : Int) tki), (Str.ofString "rows", .ref rl), (Str.ofString "single", .bool (hasT T sq)), (Str.ofString "double", .bool (hasT T dq)), (Str.ofString "text", .str X t), (Str.ofString "kinds", .ref kl)] m₉ := ⟨_, _, F₉, K₈.add (by kernel_rfl)⟩
      rw [dq_sgn] at K₉
      refine letf (s₀ := s) (h₀ := g) (cl := []) ?_
      refine (ev_dict0 (s := { s with heap := h₉, toks := tk₉ }) (r := nm3) F₉ N₉ S.T.nolimit ?ddnm3 ?lnnm3 ?ndnm3 ?knm3 :)
      case ddnm3 => repeat (first | exact DPairs.nil | refine DPairs.cons ?_)
      case lnnm3 => exact Nat.le_of_ble_eq_true rfl
      case ndnm3 => exact nm_nd.2.2.2.1
      intro h' tkd F' N' hlt lo htk
      refine ⟨_, _, _, _, rfl, F', N', fun h₁₀ tk₁₀ htk₁₀ F₁₀ N₁₀ => ?_⟩
      have hdW : ∀ q ∈ W, q.1 ≠ h₉.objs.size := fun q hq => Nat.ne_of_lt (hlt q hq)
      generalize h₉.objs.size = d at *
      obtain ⟨m₁₀, F₁₀, K₁₀⟩ : ∃ m₁₀, Fr g L h₁₀ m₁₀ ∧ Kn [(Str.ofString "names", .ref d), (Str.ofString "quote", .str (sgn 34) tq), (Str.ofString "kind", .int ((3 : Nat) : Int) tki), (Str.ofString "rows", .ref rl), (Str.ofString "single", .bool (hasT T sq)), (Str.ofString "double", .bool (hasT T dq)), (Str.ofString "text", .str X t), (Str.ofString "kinds", .ref kl)] m₁₀ := ⟨_, F₁₀, K₉.add (by kernel_rfl)⟩
      refine wpAny_execs_nil ?_
      dsimp only
      refine wpAny_execs_nil ?_
      dsimp only
      refine wpAny_execs_nil ⟨rfl, h₁₀, _, m₁₀, d, _, _, tq, rfl, F₁₀, N₁₀, hdW, lo, ?_, ?_⟩
      · rw [lnFrom_reps, show layQ 3 T = (9, false) from rfl]; exact nm_eqs.2.2.2.2.symm
      · rw [show qOf 3 T = 34 from rfl]
        rw [if_neg (by decide)]
        exact Kn.cons (K₁₀.get 1) (Kn.cons (K₁₀.get 0) (Kn.cons (K₁₀.get 3) (Kn.cons (K₁₀.get 4) (Kn.cons (K₁₀.get 5) (Kn.cons (K₁₀.get 6) (Kn.cons (K₁₀.get 7) Kn.nil))))))
    case q2 =>
    rintro fl s' ⟨rfl, h₉, tk₉, m₉, d, l, ep, tq, rfl, F₉, N₉, hdW, lo, hl, K₉⟩
    dsimp only
    have o34 : (sgn 34 == Str.ofString "'") = false := by decide +kernel
    have o39 : (sgn 39 == Str.ofString "'") = true := by decide +kernel
    have hq2 : qOf ki T = 34 ∨ qOf ki T = 39 := by
      unfold qOf
      split
      · split
        · exact .inr rfl
        · exact .inl rfl
      · split
        · exact .inr rfl
        · exact .inl rfl
    have hsi := has_single hk4 T
    have hdo := has_double hk4 T
    have htn : toldQ X (ks.take (i + 1)) = nxt ki T := by rw [htake, toldQ_snoc, hT]
    refine wpAny_execs_cons (wpAny_mono (Q := fun fl s' => fl = .next ∧ ∃ h tk m', s' = { s with heap := h, toks := tk } ∧ Fr g L h m' ∧ News g L h ((d, dObj w l ep) :: W) ∧
      Kn [(Str.ofString "quote", .str (sgn (qOf ki T)) tq), (Str.ofString "names", .ref d), (Str.ofString "rows", .ref rl), (Str.ofString "single", .bool (hasT (nxt ki T) sq)), (Str.ofString "double", .bool (hasT (nxt ki T) dq)), (Str.ofString "text", .str X t), (Str.ofString "kinds", .ref kl)] m') (E := fun _ _ => False) ?p1 ?p2 (fun _ _ x => x))
    case p1 =>
      rw [hsi, hdo]
      refine wpAny_If (wpAny_isTrue_Compare1 (nm (cl := []) F₉ (K₉.get 0) (Constant_str (eq_str (wpAny_truthy_bool ?_)))))
      rcases hq2 with hq | hq
      · rw [show (sgn (qOf ki T) == Str.ofString "'") = false from by rw [hq]; exact o34, if_neg Bool.false_ne_true]
        refine letf (s₀ := s) (h₀ := g) (cl := []) ?_
        refine wpAny_Constant_bool ?_
        refine ⟨_, _, _, _, rfl, F₉, N₉, fun h₁₁ tk₁₁ htk₁₁ F₁₁ N₁₁ => ?_⟩
        have K₁₁ := (Kn.cons (K₉.get 0) (Kn.cons (K₉.get 1) (Kn.cons (K₉.get 2) (Kn.cons (K₉.get 3) (Kn.cons (K₉.get 5) (Kn.cons (K₉.get 6) Kn.nil)))))).add (x := Str.ofString "double") (v := .bool true) (by kernel_rfl)
        refine wpAny_execs_nil ⟨rfl, h₁₁, _, _, rfl, F₁₁, N₁₁, ?_⟩
        have e1 : ((qOf ki T == 39) || hasT T sq) = hasT T sq := by rw [hq]; rfl
        have e2 : (if qOf ki T = 39 then (if ki = 2 then false else hasT T dq) else true) = true := by rw [hq, if_neg (by decide)]
        rw [e1, e2]
        exact Kn.cons (K₁₁.get 1) (Kn.cons (K₁₁.get 2) (Kn.cons (K₁₁.get 3) (Kn.cons (K₁₁.get 4) (Kn.cons (K₁₁.get 0) (Kn.cons (K₁₁.get 5) (Kn.cons (K₁₁.get 6) Kn.nil))))))
      · rw [show (sgn (qOf ki T) == Str.ofString "'") = true from by rw [hq]; exact o39, if_pos rfl]
        refine letf (s₀ := s) (h₀ := g) (cl := []) ?_
        refine wpAny_Constant_bool ?_
        refine ⟨_, _, _, _, rfl, F₉, N₉, fun h₁₁ tk₁₁ htk₁₁ F₁₁ N₁₁ => ?_⟩
        have K₁₁ := (Kn.cons (K₉.get 0) (Kn.cons (K₉.get 1) (Kn.cons (K₉.get 2) (Kn.cons (K₉.get 4) (Kn.cons (K₉.get 5) (Kn.cons (K₉.get 6) Kn.nil)))))).add (x := Str.ofString "single") (v := .bool true) (by kernel_rfl)
        refine wpAny_execs_nil ⟨rfl, h₁₁, _, _, rfl, F₁₁, N₁₁, ?_⟩
        have e1 : ((qOf ki T == 39) || hasT T sq) = true := by rw [hq]; rfl
        have e2 : (if qOf ki T = 39 then (if ki = 2 then false else hasT T dq) else true) = (if ki = 2 then false else hasT T dq) := by rw [hq, if_pos rfl]
        rw [e1, e2]
        exact Kn.cons (K₁₁.get 1) (Kn.cons (K₁₁.get 2) (Kn.cons (K₁₁.get 3) (Kn.cons (K₁₁.get 0) (Kn.cons (K₁₁.get 4) (Kn.cons (K₁₁.get 5) (Kn.cons (K₁₁.get 6) Kn.nil))))))
    case p2 =>
    rintro fl s' ⟨rfl, h₁₂, tk₁₂, m₁₂, rfl, F₁₂, N₁₂, K₁₂⟩
    dsimp only
    rw [← htn] at K₁₂
    have hrlW : (rl, listO vs' c) ∈ W := by rw [← hWd]; exact List.mem_append_right _ (.head _)
    have hvl' : vs'.length ≤ 7 := by
      rw [hrows.1, rowsQ_length, List.length_take]; omega
    refine (st_append (s₀ := s) (hp := h₁₂) (tk := tk₁₂) (cl := []) (D := rl) (vs := vs') (n := c) F₁₂ N₁₂ (K₁₂.get 2) (.tail _ hrlW) ?s1 ?s2 ?s3 ?s4 ?s5 ?s6 ?s7 ?s8 :)
    case s1 => rfl
    case s2 => kernel_rfl
    case s3 => decide +kernel
    case s4 => rfl
    case s5 => rfl
    case s6 => rfl
    case s7 => rfl
    refine Tuple_ ?_
    refine spliced_more ?_ rfl
    refine nm (cl := []) F₁₂ (K₁₂.get 0) ?_
    refine spliced_more ?_ rfl
    refine nm (cl := []) F₁₂ (K₁₂.get 1) ?_
    refine spliced_none ?_
    refine newTuple_N (h₀ := g) (L := L) (m := m₁₂) (news := (d, dObj w l ep) :: W) ?t1 ?t2 ?t3 ?t4
    case t1 => exact F₁₂
    case t2 => exact N₁₂
    case t4 => exact Nat.le_of_ble_eq_true rfl
    intro h₁₃ F₁₃ N₁₃
    refine ⟨h₁₃, _, rfl, (N₁₃ _ (.tail _ (.tail _ hrlW))).1, by omega, fun h₁₄ hs₁₄ hd₁₄ => ?_⟩
    have hT5 : ∀ q ∈ (d, dObj w l ep) :: W, q.1 ≠ h₁₂.objs.size := fun q hq => Nat.ne_of_lt (Heap.lt_size (N₁₂ q hq).1)
    generalize h₁₂.objs.size = T5 at *
    have F₁₄ := fr_less F₁₃ hs₁₄ (N₁₃ _ (.tail _ (.tail _ hrlW))).2
    subst hWd
    have hIrl : I ≠ rl := (hoff _ (.head _)).symm
    have hId : I ≠ d := hIn fun q hq => hdW q (List.mem_append_left _ hq)
    have hIT : I ≠ T5 := hIn fun q hq => hT5 q (.tail _ (List.mem_append_left _ hq))
    have N₁₃' : News g L h₁₃ (own ++ (rl, listO vs' c) :: (((T5, tupO [.str (sgn (qOf ki T)) tq, .ref d]) :: (d, dObj w l ep) :: exN) ++ news)) := news_sub N₁₃ fun q hq => by
      rcases List.mem_append.mp hq with h | h
      · exact .tail _ (.tail _ (List.mem_append_left _ h))
      rcases List.mem_cons.mp h with rfl | h
      · exact .tail _ (.tail _ (List.mem_append_right _ (.head _)))
      rcases List.mem_append.mp h with h | h
      · rcases List.mem_cons.mp h with rfl | h
        · exact .head _
        · rcases List.mem_cons.mp h with rfl | h
          · exact .tail _ (.head _)
          · exact .tail _ (.tail _ (List.mem_append_right _ (.tail _ (List.mem_append_left _ h))))
      · exact .tail _ (.tail _ (List.mem_append_right _ (.tail _ (List.mem_append_right _ h))))
    have hTrl : rl ≠ T5 := hT5 _ (.tail _ hrlW)
    have hdrl : rl ≠ d := hdW _ hrlW
    have hexN : ∀ x ∈ (T5, tupO [.str (sgn (qOf ki T)) tq, .ref d]) :: (d, dObj w l ep) :: exN, x.1 ≠ rl := by
      intro x hx
      rcases List.mem_cons.mp hx with rfl | hx
      · exact hTrl.symm
      · rcases List.mem_cons.mp hx with rfl | hx
        · exact hdrl.symm
        · exact hne x hx
    have hnW : ∀ q ∈ news, q ∈ own ++ (rl, listO vs' c) :: (exN ++ news) := fun q hq => List.mem_append_right _ (.tail _ (List.mem_append_right _ hq))
    have N₁₄ := news_at N₁₃' (fun q hq => by
      rcases hown q hq with h | h
      · rw [h]; exact hIrl
      · rw [h]; exact hnr _ hkl) (fun q hq => by
      rcases List.mem_append.mp hq with h | h
      · exact hexN q h
      · exact hnr q h) hs₁₄ hd₁₄
    refine wpAny_execs_nil ⟨rfl, h₁₄, _, m₁₂, _, rfl, F₁₄, N₁₄, ?_, _, vs' ++ [.ref T5], c + 1, rfl, ?_, ?_, hexN, ?_⟩
    · intro q hq
      rcases List.mem_cons.mp hq with rfl | hq
      · exact hIrl.symm
      rcases List.mem_append.mp hq with h | h
      · rcases List.mem_cons.mp h with rfl | h
        · exact hIT.symm
        · rcases List.mem_cons.mp h with rfl | h
          · exact hId.symm
          · exact hoff q (.tail _ (List.mem_append_left _ h))
      · exact hoff q (.tail _ (List.mem_append_right _ h))
    · rw [htake, rowsQ_snoc, hT]
      have hr0 := hrows.mono (ny := (T5, tupO [.str (sgn (qOf ki T)) tq, .ref d]) :: (d, dObj w l ep) :: exN) fun q hq => .tail _ (.tail _ hq)
      refine ⟨by rw [List.length_append, List.length_append, hr0.1]; rfl, fun j v r hv hr => ?_⟩
      by_cases hj : j < vs'.length
      · rw [List.getElem?_append_left hj] at hv
        rw [List.getElem?_append_left (by rw [← hr0.1]; exact hj)] at hr
        exact hr0.2 j v r hv hr
      · rw [List.getElem?_append_right (by omega)] at hv
        rw [List.getElem?_append_right (by rw [← hr0.1]; omega), ← hr0.1] at hr
        have hj0 : j - vs'.length = 0 := by
          have := (List.getElem?_eq_some_iff.mp hv).1
          simp at this; omega
        rw [hj0] at hv hr
        have hv : Value.ref T5 = v := Option.some.inj hv
        have hr : (qOf ki T, layQ ki T) = r := Option.some.inj hr
        subst hv
        subst hr
        exact ⟨T5, tq, d, l, ep, rfl, .head _, .tail _ (.head _), hl, lo⟩
    · intro x hx q hq
      rcases List.mem_cons.mp hx with rfl | hx
      · exact hT5 q (.tail _ (hnW q hq))
      · rcases List.mem_cons.mp hx with rfl | hx
        · exact hdW q (hnW q hq)
        · exact hap x hx q hq
    · exact Kn.cons (K₁₂.get 2) (Kn.cons (K₁₂.get 3) (Kn.cons (K₁₂.get 4) (Kn.cons (K₁₂.get 5) (Kn.cons (K₁₂.get 6) Kn.nil))))
end
end Mine.L03
end

open PySem PySem.W PyProof.Rows PyProof.V PySem.Calls Mine Mine.LA Mine.L03
set_option maxRecDepth 100000
set_option maxHeartbeats 8000000
namespace Mine.L03
def kd (T : Int) (i : Nat) : Nat := (((T.fdiv 7).fdiv (4 ^ i)).fmod 4).toNat
def kindsOf (T : Int) : List Nat := (List.range (1 + (T.fmod 7).toNat)).map (kd T)
theorem kd_lt (T : Int) (i : Nat) : kd T i < 4 := by
  unfold kd
  have h0 := Int.fmod_nonneg_of_pos ((T.fdiv 7).fdiv (4 ^ i)) (b := 4) (by decide)
  have h1 := Int.fmod_lt_of_pos ((T.fdiv 7).fdiv (4 ^ i)) (b := 4) (by decide)
  omega
theorem kinds_lt (T : Int) : ∀ k ∈ kindsOf T, k < 4 := by
  intro k hk
  obtain ⟨i, _, rfl⟩ := List.mem_map.mp hk
  exact kd_lt T i
theorem kinds_len (T : Int) : (kindsOf T).length = 1 + (T.fmod 7).toNat := by simp [kindsOf]
theorem kinds_sev (T : Int) : (kindsOf T).length ≤ 7 ∧ 1 ≤ (kindsOf T).length := by
  rw [kinds_len]
  have h0 := Int.fmod_nonneg_of_pos T (b := 7) (by decide)
  have h1 := Int.fmod_lt_of_pos T (b := 7) (by decide)
  omega
theorem pow_small : ∀ i, i < 8 → ((4 : Int) ^ i ≠ 0 ∧ ((4 : Int) ^ i).natAbs.log2 < 9000) := by decide +kernel
theorem strs_any {B : Nat} : ∀ {ys : List Value}, (∀ (i : Nat) (y : Value), ys[i]? = some y → ∃ X t, y = Value.str X t ∧ X.length ≤ B) → ∃ l : List (Str × Tok), ys = strValues l ∧ (∀ y ∈ l.map (·.1), y.length ≤ B) ∧ l.length = ys.length
  | [], _ => ⟨[], rfl, (fun _ h => nomatch h), rfl⟩
  | y :: ys, h => by
    obtain ⟨X, t, rfl, hX⟩ := h 0 y rfl
    obtain ⟨l, rfl, hl, hn⟩ := strs_any (ys := ys) fun i y hy => h (i + 1) y (by simpa using hy)
    refine ⟨(X, t) :: l, rfl, ?_, by simp [hn]⟩
    intro y hy
    rw [List.map_cons] at hy
    rcases List.mem_cons.mp hy with rfl | hy
    · exact hX
    · exact hl y hy
theorem join_len {ys : List Str} {B : Nat} (h : ∀ y ∈ ys, y.length ≤ B) : (Txt.join (LA.o "") ys).length ≤ B * ys.length := by
  rw [← tl, join0]
  induction ys with
  | nil => simp
  | cons y r ih =>
    have h1 := h y (by simp)
    have h2 := ih fun z hz => h z (by simp [hz])
    rw [List.map_cons, List.flatten_cons, List.length_append, List.length_cons, tl, Nat.mul_succ]; omega
theorem strValues_get {l : List (Str × Tok)} {i : Nat} {x : Str} (h : (l.map (·.1))[i]? = some x) : ∃ t, (strValues l)[i]? = some (.str x t) := by
  rw [List.getElem?_map] at h
  cases hl : l[i]? with
  | none => rw [hl] at h; cases h
  | some e =>
    rw [hl] at h
    have : e.1 = x := Option.some.inj h
    exact ⟨e.2, by unfold strValues; rw [List.getElem?_map, hl, ← this]; rfl⟩
theorem ksAt_take {vs : List Value} {ks : List Nat} (h : KsAt vs ks) (n : Nat) : KsAt (vs.take n) (ks.take n) := by
  refine ⟨by rw [List.length_take, List.length_take, h.1], fun i k hk => ?_⟩
  rw [List.getElem?_take] at hk ⊢
  split at hk
  · rename_i hi
    rw [if_pos hi]; exact h.2 i k hk
  · cases hk
end Mine.L03
theorem PySem.Challenge.cw_dn0034_03_holds : PySem.Challenge.rw_dn0034_03.Holds :=
  hd03 (by
  k_go0
  refine law_out ‹Fr _ _ _ _› ?body ?post
  case post =>
    intro h' tk m' F'
    k_steps
    all_goals w_report
  case body =>
    have F9 := ‹Fr _ _ _ _›
    have N9 := ‹News _ _ _ _›
    have hl9 := ‹Heap.IsList _ _ _›
    have hi9 := ‹IntsAre _ _›
    have hlen9 := ‹¬ _ < (_ : Int)›
    have hc9 := ‹Obj.data _ = Data.cell _›
    refine' law_in1 ?a0 ?a1 ?ac ?a2 (Str.ofString "script") (Str.ofString "total") ?a3 ?a4 ?a5 ?a6 ?a7 ?a8 ?a9
    case a3 => exact rfl
    case a0 => exact F9
    case a1 => exact N9
    case ac => exact hc9
    case a2 => exact hl9
    case a4 => exact rfl
    case a5 => kernel_rfl
    case a6 => assumption
    case a7 => assumption
    case a8 => assumption
    case a9 =>
      rename World => wd
      intro A A₀ outer g L m s oc vc S hr F N hoc hm hl
      clear F9 N9
      dsimp only at S ⊢
      have hlen : ∀ n : Nat, ¬ (63 : Int) < n → n ≤ 63 := fun n h => by omega
      have hlen := hlen _ hlen9
      refine wpAny_execs_cons (wpAny_Assign_Name ?_)
      refine call_b1 (cl := [(Str.ofString "total", L + 1)]) S F (by k_is) boot_abs ?_
      refine call_b1 (cl := [(Str.ofString "total", L + 1)]) S F (by k_is) boot_sum ?_
      refine nm (cl := [(Str.ofString "total", L + 1)]) F hm ?_
      refine LSm.sum_ints F N S.hh ((ListAt.at (.inr hl) F N)) hi9 ?_
      intro h₁ tk₁ tn F₁ N₁
      refine call_abs_int fun tT tk₂ => ?_
      generalize (List.sum _ : Int) = sm
      obtain ⟨T, hT0, hTe⟩ : ∃ T : Int, 0 ≤ T ∧ (if sm < 0 then -sm else sm) = T := ⟨_, by split <;> omega, rfl⟩
      rw [hTe]
      refine storeX_C (cl := [(Str.ofString "total", L + 1)]) (s := { s with heap := h₁, toks := tk₂ }) (c := L + 1) F₁ N₁ rfl (.head fun _ h => nomatch h) hoc (fun h₂ o₂ F₂ N₂ hd₂ => ?_) rfl (by kernel_rfl)
      dsimp only
      have h7 := kinds_sev T
      have hnn : 1 + (T.fmod 7).toNat = (kindsOf T).length := (kinds_len T).symm
      refine (let_comp_range (s₀ := s) (hp := h₂) (tk := tk₂) (cl := [(Str.ofString "total", L + 1)]) (cl' := [(Str.ofString "total", L + 1)]) (fun i y => ∃ t, y = .int (kd T i : Int) t) S.hh ?q1 ?q2 ?q3 ?q4 ?q5 ?q6 ?q7 ?q8 ?q9 F₂ ?q10 :)
      case q1 => rfl
      case q2 => rfl
      case q3 => decide +kernel
      case q4 => rfl
      case q5 => decide +kernel
      case q6 => kernel_rfl
      case q7 => kernel_rfl
      case q8 => rfl
      case q9 => exact fun _ => rfl
      refine call_range_e (cl := [(Str.ofString "total", L + 1)]) (s := { s with heap := h₂, toks := tk₂ }) S F₂ (by k_is) ?_
      refine wpAny_BinOp (wpAny_Constant_int (ev_fmod ?_))
      refine nameX_C (cl := [(Str.ofString "total", L + 1)]) (s := { s with heap := h₂, toks := tk₂ + 1 }) (c := L + 1) N₂ rfl (.head _) hd₂ ?_ rfl (by kernel_rfl) (by decide +kernel)
      refine ⟨_, _, rfl, fun t₃ => add_int ?_⟩
      have e1 : (1 + T.fmod 7 : Int) = ((1 + (T.fmod 7).toNat : Nat) : Int) := by
        have h0 := Int.fmod_nonneg_of_pos T (b := 7) (by decide)
        omega
      rw [e1]
      refine ⟨_, _, m, _, rfl, F₂, N₂, fun r h₃ tk₃ t₀ u₀ v₀ hrg F₃ N₃ => ?_⟩
      refine ⟨r, _, t₀, u₀, v₀, _, h₃, tk₃, rfl, rfl, F₃, N₃, hrg, by omega, ?kel, ?kfin⟩
      case kel =>
        intro i t C m₂ own s₂ hi hns hxv F N
        refine ev_fmod (wpAny_BinOp (ev_fdiv ?_))
        refine cname_C (c := L + 1) (o := o₂) N rfl (List.mem_append_right _ (.head _)) hd₂ ?_ rfl (by kernel_rfl) (by decide +kernel)
        refine ⟨_, _, rfl, fun t₄ => wpAny_BinOp (wpAny_Constant_int ?_)⟩
        refine cname_L hns hxv ?_ rfl (by kernel_rfl) (by decide +kernel)
        refine ev_pow (b := 4) (k := i) (by decide) (by decide) (by omega) fun t₅ k₅ => ?_
        have hps := pow_small i (by omega)
        refine floordiv_int hps.1 ?_ (.inl (PyProof.noPylong_of_log2 hps.2))
        refine ⟨_, _, rfl, fun t₆ => ?_⟩
        refine ⟨_, _, rfl, F, N, t₆, ?_⟩
        unfold kd
        rw [Int.toNat_of_nonneg (Int.fmod_nonneg_of_pos _ (by decide))]
      case kfin =>
      intro ys D h₄ tk₄ htk₄ hyl hR F₄ N₄ hnD
      have hvs : KsAt ys (kindsOf T) := ⟨by rw [hyl, hnn], fun i k hk => by
        have hi := (List.getElem?_eq_some_iff.mp hk).1
        have hy : i < ys.length := by rw [hyl, hnn]; exact hi
        obtain ⟨t, ht⟩ := hR i ys[i] (List.getElem?_eq_getElem hy)
        have hki : kd T i = k := by
          unfold kindsOf at hk
          rw [List.getElem?_map, List.getElem?_range (by rw [hnn]; exact hi)] at hk
          exact Option.some.inj hk
        exact ⟨t, by rw [List.getElem?_eq_getElem hy, ht, hki]⟩⟩
      generalize hksd : kindsOf T = ks at *
      have hk4 : ∀ k ∈ ks, k < 4 := hksd ▸ kinds_lt T
      obtain ⟨m₄, F₄, K₄⟩ : ∃ m₄, Fr g L h₄ m₄ ∧ Kn [(Str.ofString "kinds", .ref D), (Str.ofString "script", .ref _)] m₄ := ⟨_, F₄, (Kn.cons hm Kn.nil).add (by kernel_rfl)⟩
      refine letf (s₀ := s) (h₀ := g) (cl := [(Str.ofString "total", L + 1)]) ?_
      refine mcall rfl rfl rfl ?_
      refine Constant_str ?_
      refine GM.join ?_
      refine callWith_method1 (spliced_more ?_ rfl) rfl rfl
      refine comp_list (cl := []) (h₀ := g) (L := L) (m := m₄) (fun i y => ∃ X t, y = .str X t ∧ X.length ≤ 6) S.hh F₄ ?r1 ?r2 rfl ?r3 ?r4 ?r5 ?r6
      case r1 => rfl
      case r2 => decide +kernel
      case r3 => decide +kernel
      case r4 => kernel_rfl
      case r5 => exact fun _ => rfl
      case r6 =>
      refine nm (cl := [(Str.ofString "total", L + 1)]) F₄ (K₄.get 1) ?_
      refine ⟨_, _, _, rfl, F₄, N₄, .inr hl, ?s1, ?s2, ?s3⟩
      case s1 => rw [hi9.length, sizeLine_eq]; omega
      case s2 =>
        intro i v C m₅ own s₂ hv hns hxv F N
        obtain ⟨n5, t5, rfl, _⟩ := IntsAre.at hi9 i v hv
        refine Call_ ?_
        refine cname_K F S.X (topRead_of S.T) (v := .ref 84) ?k11 ?k12 rfl rfl ?k13 ?k14
        case k11 => k_is
        case k13 => kernel_rfl
        case k14 => decide +kernel
        refine callWith_K (first := []) S.X ?k15 ?_ rfl rfl
        case k15 => k_is
        refine spliced_more ?_ rfl
        refine cname_L hns hxv ?_ rfl (by kernel_rfl) (by decide +kernel)
        refine spliced_none ⟨S.X.keeps F.keep, ?_⟩
        refine cPC _ _ _ _ _ _ n5 t5 _ _ _ _ _ _ _ _ _ _ _ _ S F N (hr.le (by decide)) trivial ?_
        rintro v ex h' tk' F' N' _ _ ⟨rfl, X, t₂, rfl, hX⟩
        exact ⟨_, _, rfl, F', N', X, t₂, rfl, hX⟩
      intro ys2 D2 h₅ tk₅ hyl2 hR2 F₅ N₅ hnD2
      obtain ⟨lt, rfl, hlt6, hltn⟩ := strs_any hR2
      have hlt63 : (lt.map (·.1)).length ≤ 63 := by rw [List.length_map, hltn, hyl2, hi9.length]; exact hlen
      refine spliced_none ?_
      refine SC.join (l := lt) ⟨_, (N₅ _ (.head _)).1, rfl, _, rfl⟩ rfl (joinOk_of ?_) ?_
      · have hs := sum_le hlt6
        have h0l : (Str.ofString "").length = 0 := by decide +kernel
        rw [h0l, Nat.mul_zero]
        omega
      intro tX k₆
      have hX : (Txt.join (Str.ofString "") (lt.map (·.1))).length ≤ 400 := by
        have hj : (Txt.join (Str.ofString "") (lt.map (·.1))).length ≤ 6 * (lt.map (·.1)).length := join_len hlt6
        omega
      generalize Txt.join (Str.ofString "") (lt.map (·.1)) = X at hX
      have N₅' : News g L h₅ [(D, LCg.lst ys), (L + 1, o₂)] := news_sub N₅ fun q hq => .tail _ hq
      refine ⟨_, _, _, _, rfl, F₅, N₅', fun h₆ tk₆ htk₆ F₆ N₆ => ?_⟩
      obtain ⟨m₆, F₆, K₆⟩ : ∃ m₆, Fr g L h₆ m₆ ∧ Kn [(Str.ofString "text", .str X tX), (Str.ofString "kinds", .ref D), (Str.ofString "script", .ref _)] m₆ := ⟨_, F₆, K₄.add (by kernel_rfl)⟩
      clear F₅ N₅ N₅' F₄ K₄
      have hT := S.T.nolimit
      refine letf (s₀ := s) (h₀ := g) (cl := [(Str.ofString "total", L + 1)]) ?_
      refine call_name S F₆ (f := 98) ?ra1 ?ra2 ?ra3 ?ra4 ?_ rfl rfl
      case ra1 => k_is
      case ra2 => k_is
      case ra3 => kernel_rfl
      case ra4 => decide +kernel
      refine spliced_more (nm (cl := [(Str.ofString "total", L + 1)]) F₆ (K₆.get 0) ?_) rfl
      refine spliced_more (nm (cl := [(Str.ofString "total", L + 1)]) F₆ (K₆.get 1) ?_) rfl
      refine spliced_none ⟨S.X.keeps F₆.keep, ?_⟩
      refine cRows _ _ _ _ _ _ X tX ks D hk4 h7.1 _ _ _ _ _ _ _ _ _ _ _ _ S F₆ N₆ (hr.le (by decide)) ⟨_, _, .head _, hvs⟩ ?_
      rintro v exR h₇ tk₇ F₇ N₇ hapR htk₇ ⟨rl, vsr, cr, rfl, hrlR, hrows⟩
      refine ⟨_, _, _, _, rfl, F₇, N₇, fun h₈ tk₈ htk₈ F₈ N₈ => ?_⟩
      obtain ⟨m₈, F₈, K₈⟩ : ∃ m₈, Fr g L h₈ m₈ ∧ Kn [(Str.ofString "rows", .ref rl), (Str.ofString "text", .str X tX), (Str.ofString "kinds", .ref D), (Str.ofString "script", .ref _)] m₈ := ⟨_, F₈, K₆.add (by kernel_rfl)⟩
      clear F₇ N₇ F₆ N₆ K₆
      refine letf (s₀ := s) (h₀ := g) (cl := [(Str.ofString "total", L + 1)]) ?_
      refine (ev_dict0 (s := { s with heap := h₈, toks := tk₈ }) (r := TB) F₈ N₈ hT ?dd ?ln ?nd ?kk :)
      case dd => repeat (first | exact DPairs.nil | refine DPairs.cons ?_)
      case ln => exact Nat.le_of_ble_eq_true rfl
      case nd => exact tbOk.2.2.1
      intro h₉ tk₉ F₉ N₉ hlt9 lotb htk₉
      refine ⟨_, _, _, _, rfl, F₉, N₉, fun h₁₀ tk₁₀ htk₁₀ F₁₀ N₁₀ => ?_⟩
      generalize h₈.objs.size = tb at *
      obtain ⟨m₁₀, F₁₀', K₁₀⟩ : ∃ m₁₀, Fr g L h₁₀ m₁₀ ∧ Kn [(Str.ofString "table", .ref tb), (Str.ofString "rows", .ref rl), (Str.ofString "text", .str X tX), (Str.ofString "kinds", .ref D), (Str.ofString "script", .ref _)] m₁₀ := ⟨_, F₁₀, K₈.add (by kernel_rfl)⟩
      clear F₁₀
      have F₁₀ := F₁₀'
      clear F₁₀' F₉ N₉ F₈ K₈
      refine letf (s₀ := s) (h₀ := g) (cl := [(Str.ofString "total", L + 1)]) ?_
      refine nm (cl := [(Str.ofString "total", L + 1)]) F₁₀ (K₁₀.get 2) ?_
      refine ⟨_, _, _, _, rfl, F₁₀, N₁₀, fun h₁₁ tk₁₁ htk₁₁ F₁₁ N₁₁ => ?_⟩
      obtain ⟨m₁₁, F₁₁', K₁₁⟩ : ∃ m₁₁, Fr g L h₁₁ m₁₁ ∧ Kn [(Str.ofString "told", .str X tX), (Str.ofString "table", .ref tb), (Str.ofString "rows", .ref rl), (Str.ofString "text", .str X tX), (Str.ofString "kinds", .ref D), (Str.ofString "script", .ref _)] m₁₁ := ⟨_, F₁₁, K₁₀.add (by kernel_rfl)⟩
      clear F₁₁
      have F₁₁ := F₁₁'
      clear F₁₁' F₁₀ N₁₀ K₁₀
      have htl : lnReps (lnFrom tk₈ TB) = TB := lnFrom_reps tk₈ TB
      have htok := lnFrom_ok tk₈ TB htk₈
      have htll : (lnFrom tk₈ TB).length < 100 := by rw [lnFrom_length]; decide
      generalize lnFrom tk₈ TB = tl at *
      have hysl : ys.length = ks.length := hvs.1
      obtain ⟨nx, hnx⟩ : ∃ nx, (tb, dObj wd tl TB.length) :: (exR ++ [(D, LCg.lst ys), (L + 1, o₂)]) = nx := ⟨_, rfl⟩
      have N₁₁ : News g L h₁₁ nx := by rw [← hnx]; exact N₁₁
      have htbm : (tb, dObj wd tl TB.length) ∈ nx := by rw [← hnx]; exact .head _
      have hDm : (D, LCg.lst ys) ∈ nx := by rw [← hnx]; exact .tail _ (List.mem_append_right _ (.head _))
      have hrlm : (rl, listO vsr cr) ∈ nx := by rw [← hnx]; exact .tail _ (List.mem_append_left _ hrlR)
      have hrows2 : RowsAt wd nx vsr (rowsQ X ks) := hrows.mono fun q hq => by rw [← hnx]; exact .tail _ (List.mem_append_left _ hq)
      have hvsl : vsr.length = ks.length := by rw [hrows.1, rowsQ_length]
      have htbp := tbOk
      refine (for_range (s₀ := s) (hp := h₁₁) (tk := tk₁₁) (cl := [(Str.ofString "total", L + 1)]) S.hh F₁₁ ?gs ?gz ?gk ?gloop :)
      case gs => exact fun _ => rfl
      case gz => rfl
      case gk => kernel_rfl
      refine call_range_e (cl := [(Str.ofString "total", L + 1)]) (s := { s with heap := h₁₁, toks := tk₁₁ }) S F₁₁ (by k_is) ?_
      refine ev_len (cl := [(Str.ofString "total", L + 1)]) (s := { s with heap := h₁₁, toks := tk₁₁ }) (vs := ys) S F₁₁ (by k_is) (K₁₁.get 4) ⟨_, (N₁₁ _ hDm).1, rfl, _, rfl⟩ (by omega) fun tn3 => ?_
      refine ⟨ys.length, tn3, m₁₁, _, rfl, F₁₁, N₁₁, fun r3 h₂₂ tk₂₂ t₀ u₀ v₀ hrg3 F₂₂ N₂₂ => ?_⟩
      refine ⟨fun i m₁ n₁ => nx = n₁ ∧ ∃ tt, Kn [(Str.ofString "told", .str (toldQ X (ks.take i)) tt), (Str.ofString "table", .ref tb), (Str.ofString "rows", .ref rl), (Str.ofString "text", .str X tX), (Str.ofString "kinds", .ref D)] m₁,
        r3, ys.length, t₀, u₀, v₀, m₁₁, _, h₂₂, tk₂₂, rfl, rfl, F₂₂, N₂₂, hrg3, by omega, ⟨rfl, tX, Kn.cons (K₁₁.get 0) (Kn.cons (K₁₁.get 1) (Kn.cons (K₁₁.get 2) (Kn.cons (K₁₁.get 3) (Kn.cons (K₁₁.get 4) Kn.nil))))⟩, ?gstep, ?gdone⟩
      case gdone =>
        rintro h₂₃ tk₂₃ m₂₃ _ F₂₃ N₂₃ ⟨rfl, _⟩ _
        exact seq_ret (wpAny_Constant_bool ⟨_, _, _, rfl, rfl, F₂₃⟩)
      case gstep =>
        rintro i ti m₂₃ _ h₂₃ tk₂₃ own I hi ⟨rfl, tt, K₂₃⟩ hoff hown F₂₃ N₂₃ htk₂₃
        have hi' : i < ks.length := by omega
        obtain ⟨ki, hki⟩ : ∃ ki, ks[i]? = some ki := ⟨_, List.getElem?_eq_getElem hi'⟩
        have hk4i := hk4 ki (List.mem_of_getElem? hki)
        have htake : ks.take (i + 1) = ks.take i ++ [ki] := by rw [List.take_add_one, hki]; rfl
        have hTl : (toldQ X (ks.take i)).length ≤ 15000 := told_len (by rw [List.length_take]; omega) hX
        have htn : toldQ X (ks.take (i + 1)) = nxt ki (toldQ X (ks.take i)) := by rw [htake, toldQ_snoc]
        have hdue : dueQ X ((rowsQ X ks).take (i + 1)) = nxt ki (toldQ X (ks.take i)) := by rw [rowsQ_take, due_told, htn]
        generalize hTT : toldQ X (ks.take i) = T1 at *
        obtain ⟨m₂₄, F₂₄, K₂₄⟩ : ∃ m₂₄, Fr g L h₂₃ m₂₄ ∧ Kn [(Str.ofString "k", .int (i : Int) ti), (Str.ofString "told", .str T1 tt), (Str.ofString "table", .ref tb), (Str.ofString "rows", .ref rl), (Str.ofString "text", .str X tX), (Str.ofString "kinds", .ref D)] m₂₄ := ⟨_, F₂₃, K₂₃.add (by kernel_rfl)⟩
        clear F₂₃ K₂₃
        refine letf (s₀ := s) (h₀ := g) (cl := [(Str.ofString "total", L + 1)]) ?_
        refine nm (cl := [(Str.ofString "total", L + 1)]) F₂₄ (K₂₄.get 1) ?_
        refine ⟨_, _, _, _, rfl, F₂₄, N₂₃, fun h₂₅ tk₂₅ htk₂₅ F₂₅ N₂₅ => ?_⟩
        obtain ⟨m₂₅, F₂₅, K₂₅⟩ : ∃ m₂₅, Fr g L h₂₅ m₂₅ ∧ Kn [(Str.ofString "before", .str T1 tt), (Str.ofString "k", .int (i : Int) ti), (Str.ofString "told", .str T1 tt), (Str.ofString "table", .ref tb), (Str.ofString "rows", .ref rl), (Str.ofString "text", .str X tX), (Str.ofString "kinds", .ref D)] m₂₅ := ⟨_, F₂₅, K₂₄.add (by kernel_rfl)⟩
        clear F₂₄ K₂₄
        refine letf (s₀ := s) (h₀ := g) (cl := [(Str.ofString "total", L + 1)]) ?_
        refine call_name S F₂₅ (f := 91) ?wa1 ?wa2 ?wa3 ?wa4 ?_ rfl rfl
        case wa1 => k_is
        case wa2 => k_is
        case wa3 => kernel_rfl
        case wa4 => decide +kernel
        refine spliced_more ?_ rfl
        refine ev_kth (cl := [(Str.ofString "total", L + 1)]) F₂₅ (K₂₅.get 6) (K₂₅.get 1) ⟨_, (N₂₅ _ (List.mem_append_right _ hDm)).1, rfl, _, rfl⟩ hvs hki (by omega) fun tki => ?_
        refine spliced_more (nm (cl := [(Str.ofString "total", L + 1)]) F₂₅ (K₂₅.get 0) ?_) rfl
        refine spliced_none ⟨S.X.keeps F₂₅.keep, ?_⟩
        refine cWr _ _ _ _ _ _ ki hk4i tki (X := T1) (Nat.le_trans hTl (by decide)) _ _ _ _ _ _ _ _ _ _ _ _ S F₂₅ N₂₅ (hr.le (by decide)) trivial ?_
        rintro v ex h₂₆ tk₂₆ F₂₆ N₂₆ _ htk₂₆ ⟨rfl, tw, rfl⟩
        rw [wq_nxt hk4i]
        refine ⟨_, _, _, _, rfl, F₂₆, N₂₆, fun h₂₇ tk₂₇ htk₂₇ F₂₇ N₂₇ => ?_⟩
        obtain ⟨m₂₇, F₂₇, K₂₇⟩ : ∃ m₂₇, Fr g L h₂₇ m₂₇ ∧ Kn [(Str.ofString "told", .str (nxt ki T1) tw), (Str.ofString "before", .str T1 tt), (Str.ofString "k", .int (i : Int) ti), (Str.ofString "table", .ref tb), (Str.ofString "rows", .ref rl), (Str.ofString "text", .str X tX), (Str.ofString "kinds", .ref D)] m₂₇ := ⟨_, F₂₇, (Kn.cons (K₂₅.get 0) (Kn.cons (K₂₅.get 1) (Kn.cons (K₂₅.get 3) (Kn.cons (K₂₅.get 4) (Kn.cons (K₂₅.get 5) (Kn.cons (K₂₅.get 6) Kn.nil)))))).add (by kernel_rfl)⟩
        clear F₂₆ N₂₆ F₂₅ K₂₅ N₂₅ N₂₃
        have ei : ((i : Int) + 1) = ((i + 1 : Nat) : Int) := by omega
        refine if_nof (s₀ := s) ?_
        refine wpAny_isTrue_Compare1 ?_
        refine nm (cl := [(Str.ofString "total", L + 1)]) F₂₇ (K₂₇.get 0) ?_
        refine call_name S F₂₇ (f := 110) ?b1 ?b2 ?b3 ?b4 ?_ rfl rfl
        case b1 => k_is
        case b2 => k_is
        case b3 => kernel_rfl
        case b4 => decide +kernel
        refine spliced_more (nm (cl := [(Str.ofString "total", L + 1)]) F₂₇ (K₂₇.get 5) ?_) rfl
        refine spliced_more ?_ rfl
        refine ev_slice (h₀ := g) (L := L) ?_
        refine nm (cl := [(Str.ofString "total", L + 1)]) F₂₇ (K₂₇.get 4) ?_
        rw [evalPart_none]
        refine wpAny_pure ?_
        rw [evalPart_some]
        refine wpAny_BinOp (nm (cl := [(Str.ofString "total", L + 1)]) F₂₇ (K₂₇.get 2) (wpAny_Constant_int (add_int ?_)))
        rw [ei]
        refine ⟨rl, vsr, none, some ((i + 1 : Nat) : Int), m₂₇, _, rfl, F₂₇, N₂₇, .inl ⟨cr, (List.mem_append_right own hrlm : (rl, listO vsr cr) ∈ own ++ nx)⟩, by omega, .none, .int _ _, fun D5 h₂₈ F₂₈ N₂₈ hlt28 => ?_⟩
        rw [slicePick_upto vsr.toArray (i + 1) (by rw [List.size_toArray]; omega), List.toList_toArray] at N₂₈
        refine spliced_none ⟨S.X.keeps F₂₈.keep, ?_⟩
        refine cDue _ _ _ _ _ _ X tX D5 ((rowsQ X ks).take (i + 1)) (fun r hr => (rowsQ_ok X ks r (List.mem_of_mem_take hr)).1) (by rw [List.length_take, rowsQ_length]; omega) hX _ _ _ _ _ _ _ _ _ _ _ _ S F₂₈ N₂₈ (hr.le (by decide)) ⟨vsr.take (i + 1), 0, .head _, (hrows2.take (i + 1)).mono fun q hq => .tail _ (List.mem_append_right own hq)⟩ ?_
        rintro v ex h₂₉ tk₂₉ F₂₉ N₂₉ _ htk₂₉ ⟨rfl, td, rfl⟩
        rw [hdue]
        refine ne_str (wpAny_truthy_bool ⟨bne_self_eq_false _, _, _, rfl, ?_⟩)
        have N₂₉ : News g L h₂₉ (own ++ nx) := news_sub N₂₉ fun q hq => .tail _ hq
        have hZl : (repls T1 (RW (layQ ki T1).1 (layQ ki T1).2)).length ≤ 6 * T1.length := rw_size (layQ_ok ki T1) T1
        have hft := offT_fits (Y := repls T1 (RW (layQ ki T1).1 (layQ ki T1).2)) (by omega)
        refine if_nof (s₀ := s) ?_
        refine wpAny_isTrue_Compare1 ?_
        refine call_name S F₂₉ (f := 39) ?d1 ?d2 ?d3 ?d4 ?_ rfl rfl
        case d1 => k_is
        case d2 => k_is
        case d3 => kernel_rfl
        case d4 => decide +kernel
        refine spliced_more ?_ rfl
        refine ev_mid ?_
        refine nm (cl := [(Str.ofString "total", L + 1)]) F₂₉ (K₂₇.get 0) ?_
        refine ⟨sgn (qOf ki T1), repls T1 (RW (layQ ki T1).1 (layQ ki T1).2), sgn (qOf ki T1), tw, ?mm1, rfl, rfl, ?mm2, fun t' tk ob htk => ?_⟩
        case mm1 => rw [← nxt_mid]
        case mm2 => rw [sizeLine_eq]; omega
        have F₃₀ := F₂₉.push ob
        have N₃₀ := N₂₉.pushKeep ob
        refine spliced_more (nm (cl := [(Str.ofString "total", L + 1)]) F₃₀ (K₂₇.get 3) ?_) rfl
        refine spliced_none ⟨S.X.keeps F₃₀.keep, ?_⟩
        refine cUN _ _ _ _ _ _ (X := repls T1 (RW (layQ ki T1).1 (layQ ki T1).2)) (t := t') (d := tb) (l := tl) (ep := TB.length) hft.1 (by rw [htl]; exact hft.2.1) (by rw [htl]; exact hft.2.2) (by rw [← keys_reps, htl]; exact htbp.2.2.1) htok (fun e he => ?_) lotb htll
          _ _ _ _ _ _ _ _ _ _ _ _ S F₃₀ N₃₀ (hr.le (by decide)) ⟨.inl (List.mem_append_right own htbm), fun _ => List.mem_append_right own htbm⟩ ?_
        · have hm : (e.1, e.2.2.1) ∈ lnReps tl := List.mem_map.mpr ⟨e, he, rfl⟩
          rw [htl] at hm
          exact htbp.2.2.2 _ hm
        rintro v ex h₃₁ tk₃₁ F₃₁ N₃₁ _ htk₃₁ ⟨rfl, tu, rfl⟩
        have hoff5 : Txt.replace (repls (repls (repls T1 (RW (layQ ki T1).1 (layQ ki T1).2)) V) (lnReps tl)) (LA.o "&amp;") (LA.o "&") = T1 := by
          rw [htl]; exact offT ki T1
        rw [hoff5]
        refine nm (cl := [(Str.ofString "total", L + 1)]) F₃₁ (K₂₇.get 1) ?_
        refine ne_str (wpAny_truthy_bool ⟨bne_self_eq_false _, _, _, rfl, ?_⟩)
        refine wpAny_execs_nil (.inr ⟨rfl, h₃₁, _, m₂₇, _, rfl, F₃₁, N₃₁, hoff, rfl, tw, ?_⟩)
        rw [htn]
        exact Kn.cons (K₂₇.get 0) (Kn.cons (K₂₇.get 3) (Kn.cons (K₂₇.get 4) (Kn.cons (K₂₇.get 5) (Kn.cons (K₂₇.get 6) Kn.nil)))))
