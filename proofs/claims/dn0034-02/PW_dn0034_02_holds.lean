import PyProof.Rows.All
import Wide.All
import OpenK.AllK
import Wide.FinOn
import PySem.Challenge.RW_dn0034_02
set_option Elab.async false
set_option linter.unusedVariables false

section
open PySem PySem.StrLaws PySem.Builtin.Str
namespace Mine

/-- replace, sign by sign: `k` signs are still to be skipped -/
def rpl (y z : List Nat) : Nat → List Nat → List Nat
  | _, [] => []
  | 0, a :: t => if y.isPrefixOf (a :: t) then z ++ rpl y z (y.length - 1) t else a :: rpl y z 0 t
  | k + 1, _ :: t => rpl y z k t

theorem rpl_drop (y z : List Nat) : ∀ (k : Nat) (l : List Nat), rpl y z k l = rpl y z 0 (l.drop k)
  | 0, l => by simp
  | k + 1, [] => by simp [rpl]
  | k + 1, a :: t => by simp only [rpl, List.drop_succ_cons]; exact rpl_drop y z k t

theorem rpl_hit {y z l : List Nat} (hy : 1 ≤ y.length) (h : (l.take y.length) = y) : rpl y z 0 l = z ++ rpl y z 0 (l.drop y.length) := by
  cases l with
  | nil => simp at h; subst h; simp at hy
  | cons a t =>
    have hp : y.isPrefixOf (a :: t) = true := by
      rw [List.isPrefixOf_iff_prefix]
      exact ⟨(a :: t).drop y.length, by rw (occs := .pos [1]) [← h]; exact List.take_append_drop _ _⟩
    rw [rpl, if_pos hp, rpl_drop]
    congr 2
    cases hl : y.length with
    | zero => omega
    | succ n => simp

theorem rpl_miss {y z : List Nat} : ∀ (n : Nat) (l : List Nat), (∀ k, k < n → ¬ ((l.drop k).take y.length = y)) → rpl y z 0 l = l.take n ++ rpl y z 0 (l.drop n)
  | 0, l, _ => by simp
  | n + 1, [], _ => by simp [rpl]
  | n + 1, a :: t, h => by
    have hp : ¬ (y.isPrefixOf (a :: t) = true) := by
      rw [List.isPrefixOf_iff_prefix]
      rintro ⟨r, e⟩
      exact h 0 (by omega) (by rw [List.drop_zero, ← e, List.take_left])
    rw [rpl, if_neg hp, rpl_miss n t (fun k hk => by have := h (k + 1) (by omega); simpa using this)]
    simp

theorem rpl_nil (y z : List Nat) : rpl y z 0 [] = [] := rfl

theorem at_iff (x y : Str) (i : Nat) : At x y x.length i ↔ i + y.length ≤ x.length ∧ (x.cps.toList.drop i).take y.length = y.cps.toList := by
  unfold At
  rw [subAt_eq, beq_iff_eq]

theorem tl (x : Str) : x.cps.toList.length = x.length := by simp [Str.length]

theorem not_at {x y : Str} {i : Nat} (hy : 1 ≤ y.length) (h : ¬ At x y x.length i) : ¬ ((x.cps.toList.drop i).take y.cps.toList.length = y.cps.toList) := by
  intro e
  rw [tl] at e
  refine h ((at_iff x y i).mpr ⟨?_, e⟩)
  have := congrArg List.length e
  rw [List.length_take, List.length_drop, tl, tl] at this
  omega

theorem toList_join_cons (z p : Str) (r : List Str) (hr : r ≠ []) : (Str.join z (p :: r)).cps.toList = p.cps.toList ++ z.cps.toList ++ (Str.join z r).cps.toList := by
  cases r with
  | nil => exact absurd rfl hr
  | cons q r => simp only [Str.join, Str.cps_append, Array.toList_append]

theorem partsFrom_nonempty (x : Str) (w a : Nat) (cuts : List Nat) : StrLaws.partsFrom x w a cuts ≠ [] := by
  cases cuts <;> simp [StrLaws.partsFrom]

theorem join_chain (x y z : Str) (hy : 1 ≤ y.length) : ∀ (cuts : List Nat) (a f : Nat), ChainG x y x.length a cuts f → (∀ k, f ≤ k → ¬ At x y x.length k) →
    (Str.join z (StrLaws.partsFrom x y.length a cuts)).cps.toList = rpl y.cps.toList z.cps.toList 0 (x.cps.toList.drop a)
  | [], a, f, h, hf => by
    have e : f = a := h
    subst e
    show (strSub x f x.length).cps.toList = _
    rw [strSub_toList, rpl_miss (x.length - f) _ (fun k _ => by rw [List.drop_drop]; exact not_at hy (hf _ (by omega)))]
    rw [List.drop_drop, List.drop_eq_nil_of_le (as := x.cps.toList) (i := f + (x.length - f)) (by rw [tl]; have := h; omega), rpl_nil, List.append_nil]
  | c :: r, a, f, h, hf => by
    obtain ⟨hac, hA, hno, hr⟩ := h
    have ih := join_chain x y z hy r (c + y.length) f hr hf
    rw [StrLaws.partsFrom, toList_join_cons _ _ _ (partsFrom_nonempty _ _ _ _), ih, strSub_toList]
    rw [rpl_miss (c - a) (x.cps.toList.drop a) (fun k hk => by rw [List.drop_drop]; exact not_at hy (hno _ (by omega) (by omega)))]
    rw [List.drop_drop, show a + (c - a) = c by omega]
    have h2 := ((at_iff x y c).mp hA).2
    rw [← tl y] at h2
    rw [rpl_hit (y := y.cps.toList) (by rw [tl]; exact hy) h2, List.drop_drop, tl, List.append_assoc]

/-- str.replace, sign by sign -/
theorem replace_rpl (x y z : Str) (hy : 1 ≤ y.length) : (Txt.replace x y z).cps.toList = rpl y.cps.toList z.cps.toList 0 x.cps.toList := by
  obtain ⟨f, hc, hf⟩ := occ_tight x y hy
  have key := join_chain x y z hy _ 0 f hc hf
  rw [List.drop_zero] at key
  unfold Txt.replace
  have hy0 : (y.length == 0) = false := by rw [beq_eq_false_iff_ne]; omega
  rw [hy0, Bool.false_and, Bool.or_false]
  split
  · rename_i he
    rw [List.isEmpty_iff.mp he] at key
    rw [← key]
    show _ = (strSub x 0 x.length).cps.toList
    rw [sub_whole]
  · rw [glued_eq_join, partsBetween_eq, key]
end Mine
end

section
open PySem
namespace Mine

theorem runs_toks {M : Model} {Γ : Ctx} {p : Pos} {t : Sem Fin} {fs : List Frame} {s : Shared} {e : End} {s' : Shared} (h : Runs M Γ p t fs s e s') : s.toks ≤ s'.toks := by
  induction h with
  | done => exact Nat.le_refl _
  | raise => exact Nat.le_refl _
  | yield => exact Nat.le_refl _
  | fresh _ ih => exact Nat.le_trans (Nat.le_succ _) ih
  | call _ _ ih1 ih2 => exact Nat.le_trans ih1 ih2
  | resumeFresh _ _ _ _ ih1 ih2 => exact Nat.le_trans ih1 ih2
  | resumeSuspended _ _ _ _ ih1 ih2 => exact Nat.le_trans ih1 ih2
  | segRet _ _ ih1 ih2 => exact Nat.le_trans ih1 ih2
  | segGen _ _ ih1 ih2 => exact Nat.le_trans ih1 ih2
  | segSuspGen _ _ _ _ ih1 ih2 => exact Nat.le_trans ih1 ih2
  | _ => assumption

theorem wakes_toks {M : Model} {Γ : Ctx} {p : Pos} {g : Nat} {r : Resume} {s : Shared} {res : GenResult} {s' : Shared} (h : Wakes M Γ p g r s res s') : s.toks ≤ s'.toks := by
  unfold Wakes at h
  split at h
  · exact h.elim
  · split at h
    · obtain ⟨e, s1, hr, _, _, rfl⟩ := h; have := runs_toks hr; exact this
    · obtain ⟨_, rfl⟩ := h; exact Nat.le_refl _
    · obtain ⟨_, rfl⟩ := h; exact Nat.le_refl _
  · obtain ⟨e, s1, hr, _, _, rfl⟩ := h; have := runs_toks hr; exact this
  · obtain ⟨_, rfl⟩ := h; exact Nat.le_refl _
  · obtain ⟨_, rfl⟩ := h; exact Nat.le_refl _

/-- what runs never lowers the tokens -/
theorem wp_toks {α : Type} {M : Model} {Γ : Ctx} {n : Nat} {E : Value → Pos → Shared → Prop} {Q : α → Pos → Shared → Prop} : ∀ (t : Sem α) (p : Pos) (s : Shared), n ≤ s.toks →
    Sem.wp M Γ t (fun a p s' => n ≤ s'.toks → Q a p s') (fun e p s' => n ≤ s'.toks → E e p s') p s → Sem.wp M Γ t Q E p s := by
  intro t
  induction t with
  | pure a => intro p s hn h; rw [Sem.wp] at h ⊢; exact h hn
  | raise e => intro p s hn h; rw [Sem.wp] at h ⊢; exact h hn
  | unsupported w => intro p s hn h; rw [Sem.wp] at h; exact h.elim
  | finish w => intro p s hn h; rw [Sem.wp] at h; exact h.elim
  | rule t k ih => intro p s hn h; rw [Sem.wp] at h ⊢; exact ih () _ _ hn h
  | «at» p' k ih => intro p s hn h; rw [Sem.wp] at h ⊢; exact ih () _ _ hn h
  | load a pt k ih => intro p s hn h; rw [Sem.wp] at h ⊢; obtain ⟨o, ho, h⟩ := h; exact ⟨o, ho, ih o _ _ hn h⟩
  | update a pt f k ih => intro p s hn h; rw [Sem.wp] at h ⊢; exact ⟨h.1, ih () _ _ hn h.2⟩
  | alloc o k ih => intro p s hn h; rw [Sem.wp] at h ⊢; exact ih _ _ _ hn h
  | loadIfAlive a k ih => intro p s hn h; rw [Sem.wp] at h ⊢; exact ih _ _ _ hn h
  | point l k ih => intro p s hn h; rw [Sem.wp] at h ⊢; exact ih () _ _ hn h
  | register a k ih => intro p s hn h; rw [Sem.wp] at h; exact h.elim
  | fresh k ih => intro p s hn h; rw [Sem.wp] at h ⊢; exact ih _ _ _ (Nat.le_succ_of_le hn) h
  | ask k ih => intro p s hn h; rw [Sem.wp] at h ⊢; exact ih _ _ _ hn h
  | choose src n k ih => intro p s hn h; rw [Sem.wp] at h ⊢; exact ⟨h.1, ih _ _ _ hn h.2⟩
  | os q l k ih => intro p s hn h; rw [Sem.wp] at h ⊢; exact ih _ _ _ hn h
  | call c hd g l k ih =>
    intro p s hn h
    rw [Sem.wp] at h ⊢
    obtain ⟨r, s', hr, h⟩ := h
    exact ⟨r, s', hr, ih r _ _ (Nat.le_trans hn (runs_toks hr)) h⟩
  | handled o k ih => intro p s hn h; rw [Sem.wp] at h ⊢; exact ih _ _ _ hn h
  | newGen c k ih => intro p s hn h; rw [Sem.wp] at h ⊢; exact ih _ _ _ hn h
  | genState g k ih => intro p s hn h; rw [Sem.wp] at h ⊢; obtain ⟨o, ho, h⟩ := h; exact ⟨o, ho, ih _ _ _ hn h⟩
  | resume g r l k ih =>
    intro p s hn h
    rw [Sem.wp] at h ⊢
    obtain ⟨r, s', hr, h⟩ := h
    exact ⟨r, s', hr, ih r _ _ (Nat.le_trans hn (wakes_toks hr)) h⟩
  | yield v g l k ih => intro p s hn h; rw [Sem.wp] at h; exact h.elim
  | stack k ih => intro p s hn h; rw [Sem.wp] at h ⊢; exact ih _ _ _ hn h
  | fork c k ih => intro p s hn h; rw [Sem.wp] at h; exact h.elim
  | thread k ih => intro p s hn h; rw [Sem.wp] at h ⊢; exact ih _ _ _ hn h
  | await a f d l k ih => intro p s hn h; rw [Sem.wp] at h; exact h.elim

theorem toks_le {α : Type} {M : Model} {A : Around} {t : Sem α} {E : Value → Shared → Prop} {Q : α → Shared → Prop} {s : Shared}
    (h : wpAny M A t (fun a s' => s.toks ≤ s'.toks → Q a s') (fun e s' => s.toks ≤ s'.toks → E e s') s) : wpAny M A t Q E s :=
  fun Γ p hΓ => wp_toks t p s (Nat.le_refl _) (h Γ p hΓ)
theorem toksQ {α : Type} {M : Model} {A : Around} {t : Sem α} {E : Value → Shared → Prop} {Q : α → Shared → Prop} {s : Shared}
    (h : wpAny M A t (fun a s' => s.toks ≤ s'.toks → Q a s') E s) : wpAny M A t Q E s :=
  toks_le (wpAny_mono h (fun _ _ x => x) fun _ _ x _ => x)

end Mine
end

section
open PySem PySem.W PyProof.Rows
set_option maxRecDepth 100000
namespace Mine
section
variable {M : Model} {prog : Program} {w : World} {A : Around} {E : Value → Shared → Prop} {s : Shared} {h₀ : Heap} {L a : Addr} {m : Str → Option Value}
  {cn : Str} {cs : Scope} {ccd : Value} {cl : List (Str × Addr)} {news : List (Addr × Obj)} {env : Env}

/-- a method's call, the receiver not a call of super -/
theorem mcall {o : Expr} {name : Str} {apos pos : Pos} {args : List Expr} {Q : Value → Shared → Prop}
    (hp : (apos.endLine == pos.line) = true) (hf : methodCallForm (args.length + ([] : List Keyword).length) (backTo pos (starEach args env)) (backToKw pos (keywordEach [] env)) = true)
    (ho : attributeBase o name env (eval o env) = eval o env)
    (h : wpAny M A (eval o env) (fun ov s₁ => wpAny M A (getMethod ov name (do return (← importBound o env).getD true)) (fun fx s₂ => wpAny M A (callWith pos fx.1 fx.2 (backTo pos (starEach args env)) []) Q E s₂) E s₁) E s) :
    wpAny M A (eval (.Call (.Attribute o name apos) args [] pos) env) Q E s := by
  have he : eval (.Call (.Attribute o name apos) args [] pos) env = (do
    let ov ← attributeBase o name env (eval o env)
    standAt apos.atName
    methodCall o name apos pos env ov (args.length + ([] : List Keyword).length) (backTo pos (starEach args env)) (backToKw pos (keywordEach [] env))) := rfl
  rw [he, ho]
  refine wpAny_bind (wpAny_mono h (fun ov s₁ h₁ => wpAny_bind (wpAny_standAt ?_)) fun _ _ x => x)
  unfold methodCall
  rw [hf]
  refine wpAny_bind (wpAny_holding ?_)
  unfold calleeOf
  rw [if_pos rfl]
  refine wpAny_mono h₁ (fun fx s₂ h₂ => ?_) fun _ _ x => x
  unfold methodCallPos
  rw [hp]
  exact wpAny_bind (wpAny_pure h₂)

/-- x.replace(y, z), y and z written -/
theorem ev_replace {x y z X : Str} {t : Tok} {k1 k2 : Nat} {p1 p2 p3 p4 p5 : Pos} {Q : Value → Shared → Prop} (F : Fr h₀ L s.heap m) (hm : m x = some (.str X t)) (h1 : 1 ≤ s.toks)
    (hp : (p2.endLine == p5.line) = true)
    (hyz : (y == z) = false) (hb : X.length + (X.length + 1) * z.length ≤ 16777216)
    (hk : cs.kind = .function) (hx : (envX cn cs L a ccd cl).kindOf x = some .local) (hd : (x == ("__debug__" : Str)) = false)
    (h : ∀ t' k, 1 ≤ k → Q (.str (Txt.replace X y z) t') { s with toks := k }) :
    wpAny (model prog w) A (eval (.Call (.Attribute (.Name x p1) (Str.ofString "replace") p2) [.Constant (.str y) k1 p3, .Constant (.str z) k2 p4] [] p5) (envX cn cs L a ccd cl)) Q E s := by
  refine mcall hp rfl rfl (nameX_L F hm ?_ hk hx hd)
  refine GM.replace ?_
  refine callWith_method1 (spliced_more (Calls.Constant_str (spliced_more (Calls.Constant_str (spliced_none ?_)) rfl)) rfl) rfl rfl
  refine toks_le (SC.replace ?_ ?_ ?_ hyz hb ?_)
  · show s.toks ≠ 0; omega
  · show s.toks + 1 ≠ 0; omega
  · exact Nat.ne_of_lt (Nat.lt_succ_self s.toks)
  · intro t' k hk'
    exact h t' k (by have : s.toks + 1 + 1 ≤ k := hk'; omega)

/-- a frame's map with one name set -/
def upd (m : Str → Option Value) (x : Str) (v : Value) : Str → Option Value := fun q => if q = x then some v else m q
theorem upd_at (m : Str → Option Value) (x : Str) (v : Value) : upd m x v x = some v := by simp [upd]
theorem upd_upd (m : Str → Option Value) (x : Str) (v v' : Value) : upd (upd m x v) x v' = upd m x v' := by
  funext q; unfold upd; by_cases h : q = x <;> simp [h]
theorem upd_same {m : Str → Option Value} {x : Str} {v : Value} (h : m x = some v) : upd m x v = m := by
  funext q; unfold upd; by_cases e : q = x <;> simp [e, h]

/-- x = x.replace(y, z) -/
theorem st_replace {x y z X : Str} {t : Tok} {k1 k2 : Nat} {p0 p1 p2 p3 p4 p5 p6 : Pos} {Q : Flow → Shared → Prop} (F : Fr h₀ L s.heap (upd m x (.str X t))) (N : News h₀ L s.heap news) (h1 : 1 ≤ s.toks)
    (hp : (p2.endLine == p5.line) = true)
    (hyz : (y == z) = false) (hb : X.length + (X.length + 1) * z.length ≤ 16777216)
    (hk : cs.kind = .function) (hx : (envX cn cs L a ccd cl).kindOf x = some .local) (hd : (x == ("__debug__" : Str)) = false)
    (h : ∀ h' t' k, Fr h₀ L h' (upd m x (.str (Txt.replace X y z) t')) → News h₀ L h' news → 1 ≤ k → Q .next { s with heap := h', toks := k }) :
    wpAny (model prog w) A (exec (.Assign [.Name x p0] (.Call (.Attribute (.Name x p1) (Str.ofString "replace") p2) [.Constant (.str y) k1 p3, .Constant (.str z) k2 p4] [] p5) p6) (envX cn cs L a ccd cl)) Q E s := by
  refine wpAny_Assign_Name (ev_replace F (upd_at ..) h1 hp hyz hb hk hx hd fun t' k hk' => ?_)
  refine storeX_L F N (fun h' F' N' => ?_) hk hx
  exact h h' t' (k + 1) (by have := upd_upd m x (.str X t) (.str (Txt.replace X y z) t'); rw [← this]; exact F') N' (by omega)

theorem replace_none {X y z : Str} (h : (Builtin.Str.occurrences X y 0 X.length 1).isEmpty = true) : Txt.replace X y z = X := by
  unfold Txt.replace
  have : (Builtin.Str.occurrences X y 0 X.length (X.length + 1)).isEmpty = true := by
    have hf := StrLaws.found_iff X y
    rw [h] at hf
    have hno : ¬ ∃ i, i + y.length ≤ X.length ∧ Builtin.Str.subAt X y i = true := fun e => by simpa using hf.mpr e
    cases ho : Builtin.Str.occurrences X y 0 X.length (X.length + 1) with
    | nil => rfl
    | cons i r =>
      obtain ⟨f, hc⟩ := StrLaws.occ_chain X y (X.length + 1)
      rw [ho] at hc
      exact absurd ⟨i, hc.2.1⟩ hno
  rw [this]; rfl

/-- if y in x: x = x.replace(y, z) -/
theorem if_replace {x y z X : Str} {t : Tok} {k0 k1 k2 : Nat} {p0 p1 p2 p3 p4 p5 p6 q0 q1 q2 q3 : Pos} {Q : Flow → Shared → Prop} (F : Fr h₀ L s.heap (upd m x (.str X t))) (N : News h₀ L s.heap news) (h1 : 1 ≤ s.toks)
    (hp : (p2.endLine == p5.line) = true)
    (hyz : (y == z) = false) (hb : X.length + (X.length + 1) * z.length ≤ 16777216)
    (hk : cs.kind = .function) (hx : (envX cn cs L a ccd cl).kindOf x = some .local) (hd : (x == ("__debug__" : Str)) = false)
    (h : ∀ h' t' k, Fr h₀ L h' (upd m x (.str (Txt.replace X y z) t')) → News h₀ L h' news → 1 ≤ k → Q .next { s with heap := h', toks := k }) :
    wpAny (model prog w) A (exec (.If (.Compare (.Constant (.str y) k0 q0) [.In] [.Name x q1] q2)
      [.Assign [.Name x p0] (.Call (.Attribute (.Name x p1) (Str.ofString "replace") p2) [.Constant (.str y) k1 p3, .Constant (.str z) k2 p4] [] p5) p6] [] q3) (envX cn cs L a ccd cl)) Q E s := by
  refine wpAny_If (wpAny_isTrue_Compare1 (Calls.Constant_str (nameX_L F (upd_at ..) (in_str (wpAny_truthy_bool ?_)) hk hx hd)))
  split
  · refine wpAny_execs_cons (st_replace F N (by show 1 ≤ s.toks + 1; omega) hp hyz hb hk hx hd fun h' t' k F' N' hk' => ?_)
    exact wpAny_execs_nil (h h' t' k F' N' hk')
  · rename_i hno
    refine wpAny_execs_nil ?_
    have he : (Builtin.Str.occurrences X y 0 X.length 1).isEmpty = true := by simpa using hno
    have := h s.heap t (s.toks + 1) (by rw [replace_none he]; exact F) N (by omega)
    exact this

/-- return x -/
theorem st_return {x : Str} {v : Value} {p q : Pos} {Q : Flow → Shared → Prop} (F : Fr h₀ L s.heap m) (hm : m x = some v)
    (hk : cs.kind = .function) (hx : (envX cn cs L a ccd cl).kindOf x = some .local) (hd : (x == ("__debug__" : Str)) = false) (h : Q (.ret v) s) :
    wpAny (model prog w) A (exec (.Return (some (.Name x p)) q) (envX cn cs L a ccd cl)) Q E s :=
  wpAny_Return_some (nameX_L F hm h hk hx hd)
end
end Mine
end

section
open PySem PySem.W PyProof.Rows
set_option maxRecDepth 100000
namespace Mine

def Room (A : Around) (n : Nat) : Prop := A.depth + n < recursionLimit ∧ A.units + 10 * n < cLine
theorem Room.deeper {A : Around} {n : Nat} {env : Env} (h : Room A (n + 1)) : Room (A.deeper env) n := by
  obtain ⟨h1, h2⟩ := h
  constructor
  · show A.depth + 1 + n < recursionLimit; omega
  · show A.units + 3 + 10 * n < cLine; omega
theorem Room.le {A : Around} {n k : Nat} (h : Room A n) (hk : k ≤ n) : Room A k := by
  obtain ⟨h1, h2⟩ := h
  exact ⟨by omega, by omega⟩

/-- what stands around a frame of the text's -/
structure Site (K : Frag) (p : Program) (loose : List Str) (mean : ExcName → Option Value) (mg mb : Str → Option Value) (A : Around) (env : Env) (A₀ : Around) (base : Heap) (outer : List Env) (h₀ : Heap) (L : Addr) : Prop where
  B : Below A₀ base outer h₀
  X : K.In h₀
  T : Top p loose mean mg mb h₀
  hA : A.frames = some (env :: outer)
  hf : env.frame = some L
  hk : env.scope.kind = .function
  hh : A.handled = none

/-- a def of the text's called with vs: it comes back with a value and new objects of which R speaks -/
def Gives (prog : Program) (w : World) (K : Frag) (p : Program) (loose : List Str) (mean : ExcName → Option Value) (mg mb : Str → Option Value) (n : Nat) (f : Addr) (vs : List Value)
    (pre : Heap → List (Addr × Obj) → Prop) (R : Value → List (Addr × Obj) → Prop) : Prop :=
  ∀ (A : Around) (env : Env) (A₀ : Around) (base : Heap) (outer : List Env) (h₀ : Heap) (L : Addr) (m : Str → Option Value) (news : List (Addr × Obj)) (s : Shared) (Q E : Value → Shared → Prop),
    Site K p loose mean mg mb A env A₀ base outer h₀ L → Fr h₀ L s.heap m → News h₀ L s.heap news → Room A n → pre base news →
    (∀ v ex h' tk', Fr h₀ L h' m → News h₀ L h' (ex ++ news) → (∀ q ∈ news, ∀ x ∈ ex, q.1 ≠ x.1) → 1 ≤ tk' → R v ex → Q v { s with heap := h', toks := tk' }) →
    wpAny (model prog w) A (call (.ref f) vs) Q E s

section
variable {prog : Program} {w : World} {K : Frag} {p : Program} {loose : List Str} {mean : ExcName → Option Value} {mg mb : Str → Option Value}

/-- what a body has to show -/
def BodyGives (prog : Program) (w : World) (K : Frag) (p : Program) (loose : List Str) (mean : ExcName → Option Value) (mg mb : Str → Option Value) (n : Nat) (f : Addr) (qual : Str) (scope : Scope) (cdv : Value) (body : List Stmt) (m : Str → Option Value)
    (pre : Heap → List (Addr × Obj) → Prop) (R : Value → List (Addr × Obj) → Prop) : Prop :=
  ∀ (A : Around) (A₀ : Around) (base : Heap) (outer : List Env) (g : Heap) (L : Addr) (news : List (Addr × Obj)) (s : Shared) (Q : Flow → Shared → Prop),
    Site K p loose mean mg mb A (envOf qual scope L f cdv) A₀ base outer g L → Fr g L s.heap m → News g L s.heap news → 1 ≤ s.toks → Room A n → pre base news →
    (∀ v ex h' tk' m', Fr g L h' m' → News g L h' (ex ++ news) → (∀ q ∈ news, ∀ x ∈ ex, q.1 ≠ x.1) → 1 ≤ tk' → R v ex → Q (.ret v) { s with heap := h', toks := tk' }) →
    wpAny (model prog w) A (execs body (envOf qual scope L f cdv)) Q (fun _ _ => False) s

theorem gives_def {n : Nat} {f : Addr} {vs : List Value} {pre : Heap → List (Addr × Obj) → Prop} {R : Value → List (Addr × Obj) → Prop}
    {name qual : Str} {params : Arguments} {body : List Stmt} {scope : Scope} {dV kV doc pm cdv ct oc : Value} {an od : Option Addr} {osl : Array (Option Value)} {binds : List (Str × Value)}
    (ho : K.lookup f = some ⟨oc, od, .func (fnOf name qual params body scope dV kV doc pm an cdv ct), osl⟩) (hcd : codeIn K cdv qual = true)
    (hbind : ∀ s : Shared, K.In s.heap → BindsTo s (fnOf name qual params body scope dV kV doc pm an cdv ct) ⟨vs, []⟩ binds) (hloc : ∀ y ∈ binds, scope.names.lookup y.1 = some .local)
    (hco : scope.isCoroutine = false) (hgen : scope.isGenerator = false) (hk : scope.kind = .function) (hcell : ∀ x ∈ scope.names, x.2 ≠ .cell)
    (hb : BodyGives prog w K p loose mean mg mb n f qual scope cdv body (fun y => binds.reverse.lookup y) pre R) (hne : 1 ≤ binds.length := by exact Nat.succ_le_succ (Nat.zero_le _)) :
    Gives prog w K p loose mean mg mb (n + 1) f vs pre R := by
  intro A env A₀ base outer h₀ L m news s Q E S F N hr hpre hQ
  refine wpAny_call (code_def S.B F S.X N S.T S.hA S.hf S.hk ho hcd (by have := hr.1; omega) (hbind s (S.X.keeps F.keep)) hloc (fun g L' h₁ FG F' N' B' X' T' => ?_) hco hgen hk hcell)
  refine wpAny_mono (hb (A.deeper (envOf qual scope L' f cdv)) A base (env :: outer) g L' news _ _ ⟨B', X', T', ?_, rfl, hk, S.hh⟩ F' N' ?_ hr.deeper hpre (fun v ex h' tk' m' F₂ N₂ hne htk hR => ?_)) (fun _ _ x => x) (fun _ _ x => x.elim)
  · show A.frames.map _ = _
    rw [S.hA]; rfl
  · show 1 ≤ s.toks + binds.length; omega
  · exact leaveK_ F₂ N₂ fun F₃ N₃ => hQ v ex h' tk' F₃ N₃ hne htk hR
end
end Mine
end

section
open PySem PySem.W PyProof.Rows
set_option maxRecDepth 100000
namespace Mine

/-- replace after replace -/
def repls (X : Str) (reps : List (Str × Str)) : Str := reps.foldl (fun X yz => Txt.replace X yz.1 yz.2) X
/-- each step's room -/
def Fits : Str → List (Str × Str) → Prop
  | _, [] => True
  | X, (y, z) :: r => X.length + (X.length + 1) * z.length ≤ 16777216 ∧ Fits (Txt.replace X y z) r

inductive ReplStmt (x y z : Str) : Stmt → Prop
  | plain {k1 k2 : Nat} {p0 p1 p2 p3 p4 p5 p6 : Pos} (hp : (p2.endLine == p5.line) = true) :
      ReplStmt x y z (.Assign [.Name x p0] (.Call (.Attribute (.Name x p1) (Str.ofString "replace") p2) [.Constant (.str y) k1 p3, .Constant (.str z) k2 p4] [] p5) p6)
  | iff {k0 k1 k2 : Nat} {p0 p1 p2 p3 p4 p5 p6 q0 q1 q2 q3 : Pos} (hp : (p2.endLine == p5.line) = true) :
      ReplStmt x y z (.If (.Compare (.Constant (.str y) k0 q0) [.In] [.Name x q1] q2)
        [.Assign [.Name x p0] (.Call (.Attribute (.Name x p1) (Str.ofString "replace") p2) [.Constant (.str y) k1 p3, .Constant (.str z) k2 p4] [] p5) p6] [] q3)

inductive Chain (x : Str) : List (Str × Str) → List Stmt → List Stmt → Prop
  | nil {rest : List Stmt} : Chain x [] rest rest
  | cons {y z : Str} {reps : List (Str × Str)} {st : Stmt} {sts rest : List Stmt} (h : ReplStmt x y z st) (hyz : (y == z) = false) (hr : Chain x reps sts rest) : Chain x ((y, z) :: reps) (st :: sts) rest

section
variable {prog : Program} {w : World} {A : Around} {E : Value → Shared → Prop} {h₀ : Heap} {L a : Addr} {m : Str → Option Value}
  {cn : Str} {cs : Scope} {ccd : Value} {cl : List (Str × Addr)} {news : List (Addr × Obj)}

theorem exec_chain {x : Str} {Q : Flow → Shared → Prop} (hk : cs.kind = .function) (hx : (envX cn cs L a ccd cl).kindOf x = some .local) (hd : (x == ("__debug__" : Str)) = false) :
    ∀ {reps : List (Str × Str)} {sts rest : List Stmt}, Chain x reps sts rest → ∀ {X : Str} {t : Tok} {s : Shared}, Fits X reps → Fr h₀ L s.heap (upd m x (.str X t)) → News h₀ L s.heap news → 1 ≤ s.toks →
      (∀ h' t' k, Fr h₀ L h' (upd m x (.str (repls X reps) t')) → News h₀ L h' news → 1 ≤ k → wpAny (model prog w) A (execs rest (envX cn cs L a ccd cl)) Q E { s with heap := h', toks := k }) →
      wpAny (model prog w) A (execs sts (envX cn cs L a ccd cl)) Q E s := by
  intro reps sts rest hc
  induction hc with
  | nil => intro X t s _ F N h1 h; exact h s.heap t s.toks F N h1
  | cons hs hyz _ ih =>
    intro X t s hf F N h1 h
    refine wpAny_execs_cons ?_
    cases hs with
    | plain hp => exact st_replace F N h1 hp hyz hf.1 hk hx hd fun h' t' k F' N' hk' => ih hf.2 F' N' hk' fun h'' t'' k'' F'' N'' hk'' => h h'' t'' k'' F'' N'' hk''
    | iff hp => exact if_replace F N h1 hp hyz hf.1 hk hx hd fun h' t' k F' N' hk' => ih hf.2 F' N' hk' fun h'' t'' k'' F'' N'' hk'' => h h'' t'' k'' F'' N'' hk''
end

section
variable {prog : Program} {w : World} {K : Frag} {p : Program} {loose : List Str} {mean : ExcName → Option Value} {mg mb : Str → Option Value}

/-- a body that is one try, a chain of replaces, a return -/
theorem body_try {n : Nat} {f : Addr} {qual : Str} {scope : Scope} {cdv : Value} {m : Str → Option Value} {pre : Heap → List (Addr × Obj) → Prop} {x X : Str} {t : Tok} {reps : List (Str × Str)} {sts : List Stmt} {h₀ : ExceptHandler} {hs : List ExceptHandler} {q r1 r2 : Pos}
    (hm : m x = some (.str X t)) (hc : Chain x reps sts [.Return (some (.Name x r1)) r2]) (hf : Fits X reps)
    (hk : scope.kind = .function) (hx : ∀ L, (envOf qual scope L f cdv).kindOf x = some .local) (hd : (x == ("__debug__" : Str)) = false) :
    BodyGives prog w K p loose mean mg mb n f qual scope cdv [.Try sts (h₀ :: hs) [] [] q] m pre (fun v ex => ex = [] ∧ ∃ t', v = .str (repls X reps) t') := by
  intro A A₀ base outer g L news s Q S F N h1 hr hpre hQ
  refine wpAny_execs_cons (wpAny_Try_except ?_)
  refine wpAny_mono (Q := fun fl s' => ∃ t' h' tk m', fl = .ret (.str (repls X reps) t') ∧ s' = { s with heap := h', toks := tk } ∧ Fr g L h' m' ∧ News g L h' news ∧ 1 ≤ tk) (E := fun _ _ => False) ?_ ?_ (fun _ _ h => h.elim)
  · rw [← upd_same hm] at F
    refine exec_chain (cl := []) hk (hx L) hd hc hf F N h1 fun h' t' k F' N' hk' => ?_
    exact wpAny_execs_cons (st_return (cl := []) F' (upd_at ..) hk (hx L) hd ⟨t', h', k, _, rfl, rfl, F', N', hk'⟩)
  · rintro fl s' ⟨t', h', tk, m', rfl, rfl, F', N', htk⟩
    exact hQ _ [] h' tk m' F' N' (fun _ _ _ hx => nomatch hx) htk ⟨rfl, t', rfl⟩
end
end Mine
end

section
open PySem PySem.StrLaws PySem.Builtin.Str
namespace Mine

abbrev LRep := List Nat × List Nat
def rplL (reps : List LRep) (l : List Nat) : List Nat := reps.foldl (fun l yz => rpl yz.1 yz.2 0 l) l
def lreps (reps : List (Str × Str)) : List LRep := reps.map fun yz => (yz.1.cps.toList, yz.2.cps.toList)

theorem repls_list : ∀ (reps : List (Str × Str)) (X : Str), (∀ r ∈ reps, 1 ≤ r.1.length) → (repls X reps).cps.toList = rplL (lreps reps) X.cps.toList
  | [], _, _ => rfl
  | (y, z) :: r, X, h => by
    have ih := repls_list r (Txt.replace X y z) fun q hq => h q (List.mem_cons_of_mem _ hq)
    have h1 := replace_rpl X y z (h (y, z) (List.mem_cons_self ..))
    show (repls (Txt.replace X y z) r).cps.toList = _
    rw [ih, h1]; rfl

/-- one sign replaced: a homomorphism -/
theorem rpl_one (c : Nat) (z : List Nat) : ∀ l : List Nat, rpl [c] z 0 l = l.flatMap fun k => if k = c then z else [k]
  | [] => rfl
  | a :: t => by
    have ih := rpl_one c z t
    rw [List.flatMap_cons, rpl]
    by_cases h : a = c
    · subst h
      rw [if_pos (by simp [List.isPrefixOf]), if_pos rfl]
      show z ++ rpl [a] z 0 t = _
      rw [ih]
    · rw [if_neg (by simp [List.isPrefixOf, Ne.symm h]), if_neg h, ih]
      rfl
theorem rpl_one_append (c : Nat) (z a b : List Nat) : rpl [c] z 0 (a ++ b) = rpl [c] z 0 a ++ rpl [c] z 0 b := by simp [rpl_one, List.flatMap_append]

/-- the word that a chain of one-sign replaces makes of a sign -/
def enc (reps : List (Nat × List Nat)) (k : Nat) : List Nat := rplL (reps.map fun cz => ([cz.1], cz.2)) [k]

theorem rplL_append (reps : List (Nat × List Nat)) : ∀ a b : List Nat, rplL (reps.map fun cz => ([cz.1], cz.2)) (a ++ b) = rplL (reps.map fun cz => ([cz.1], cz.2)) a ++ rplL (reps.map fun cz => ([cz.1], cz.2)) b := by
  induction reps with
  | nil => intro a b; rfl
  | cons r rs ih =>
    intro a b
    simp only [rplL, List.map_cons, List.foldl_cons] at ih ⊢
    rw [rpl_one_append, ih]
theorem rplL_nil (reps : List (Nat × List Nat)) : rplL (reps.map fun cz => ([cz.1], cz.2)) [] = [] := by
  induction reps with
  | nil => rfl
  | cons r rs ih => simpa [rplL, rpl] using ih
theorem rplL_enc (reps : List (Nat × List Nat)) : ∀ l : List Nat, rplL (reps.map fun cz => ([cz.1], cz.2)) l = l.flatMap (enc reps)
  | [] => rplL_nil reps
  | a :: t => by
    rw [List.flatMap_cons, ← rplL_enc reps t]
    exact rplL_append reps [a] t
theorem enc_other {reps : List (Nat × List Nat)} {k : Nat} (h : k ∉ reps.map (·.1)) : enc reps k = [k] := by
  induction reps with
  | nil => rfl
  | cons r rs ih =>
    simp only [List.map_cons, List.mem_cons, not_or] at h
    have := ih h.2
    simp only [enc, rplL, List.map_cons, List.foldl_cons] at this ⊢
    rw [rpl_one]
    simpa [h.1] using this

/-- a reference: & .. ; with neither of the two within -/
def isRef (w : List Nat) : Bool := match w with
  | 38 :: t => t.getLast? == some 59 && t.dropLast.all fun x => x != 38 && x != 59
  | _ => false
def good (w : List Nat) : Bool := isRef w || match w with
  | [k] => k != 38
  | _ => false

theorem isRef_shape {w : List Nat} (h : isRef w = true) : ∃ b, w = 38 :: (b ++ [59]) ∧ ∀ x ∈ b, x ≠ 38 ∧ x ≠ 59 := by
  unfold isRef at h
  split at h
  · rename_i t
    simp only [Bool.and_eq_true, beq_iff_eq, List.all_eq_true, bne_iff_ne] at h
    obtain ⟨h1, h2⟩ := h
    refine ⟨t.dropLast, ?_, h2⟩
    have hne : t ≠ [] := by intro e; subst e; simp at h1
    rw [List.getLast?_eq_some_getLast hne, Option.some.injEq] at h1
    have := List.dropLast_concat_getLast hne
    rw [h1] at this
    rw [this]
  · cases h

/-- a text without & passes -/
theorem rpl_pass {y z : List Nat} (hy : y.head? = some 38) : ∀ (u r : List Nat), 38 ∉ u → rpl y z 0 (u ++ r) = u ++ rpl y z 0 r
  | [], _, _ => rfl
  | a :: t, r, h => by
    simp only [List.mem_cons, not_or] at h
    cases y with
    | nil => cases hy
    | cons b y =>
      simp only [List.head?_cons, Option.some.injEq] at hy
      subst hy
      have ih := rpl_pass (y := 38 :: y) (z := z) rfl t r h.2
      show rpl (38 :: y) z 0 (a :: (t ++ r)) = _
      rw [rpl, if_neg (by simp [List.isPrefixOf, h.1]), ih]
      rfl

theorem ref_prefix {b b' r : List Nat} (h : b' ++ [59] <+: b ++ [59] ++ r) (hb : ∀ x ∈ b, x ≠ 59) (hb' : ∀ x ∈ b', x ≠ 59) : b' = b := by
  induction b generalizing b' with
  | nil =>
    cases b' with
    | nil => rfl
    | cons x t =>
      simp only [List.nil_append, List.cons_append] at h
      have := (List.cons_prefix_cons.mp h).1
      exact absurd this (hb' x (List.mem_cons_self ..))
  | cons a t ih =>
    cases b' with
    | nil =>
      simp only [List.nil_append, List.cons_append] at h
      have := (List.cons_prefix_cons.mp h).1
      exact absurd this.symm (hb a (List.mem_cons_self ..))
    | cons x t' =>
      simp only [List.cons_append] at h
      obtain ⟨e, h'⟩ := List.cons_prefix_cons.mp h
      rw [e, ih (by simpa using h') (fun y hy => hb y (List.mem_cons_of_mem _ hy)) (fun y hy => hb' y (List.mem_cons_of_mem _ hy))]

theorem rpl_words {y z : List Nat} (hy : isRef y = true) : ∀ ws : List (List Nat), (∀ w ∈ ws, good w = true) → rpl y z 0 ws.flatten = (ws.map fun w => if w = y then z else w).flatten
  | [], _ => rfl
  | w :: ws, h => by
    have ih := rpl_words (z := z) hy ws fun q hq => h q (List.mem_cons_of_mem _ hq)
    obtain ⟨b, rfl, hb⟩ := isRef_shape hy
    have hw := h w (List.mem_cons_self ..)
    rw [List.flatten_cons, List.map_cons, List.flatten_cons, ← ih]
    unfold good at hw
    rw [Bool.or_eq_true] at hw
    rcases hw with hw | hw
    · obtain ⟨b', rfl, hb'⟩ := isRef_shape hw
      by_cases e : b' = b
      · subst e
        rw [if_pos rfl, rpl_hit (y := 38 :: (b' ++ [59])) (by simp) (List.take_left' rfl), List.drop_left' rfl]
      · rw [if_neg (by intro q; exact e (by simpa using q))]
        show rpl _ z 0 (38 :: (b' ++ [59] ++ ws.flatten)) = 38 :: (b' ++ [59]) ++ _
        rw [rpl, if_neg, rpl_pass rfl _ _ (by intro hm; rcases List.mem_append.mp hm with q | q; exact (hb' _ q).1 rfl; simp at q)]
        · simp
        · rw [List.isPrefixOf_iff_prefix]
          intro hp
          exact e (ref_prefix (List.cons_prefix_cons.mp hp).2 (fun x hx => (hb' x hx).2) fun x hx => (hb x hx).2).symm
    · split at hw
      · rename_i k
        have hk : k ≠ 38 := by simpa using hw
        rw [if_neg (by simp [hk])]
        exact rpl_pass rfl [k] _ (by simpa using fun q => hk q.symm)
      · cases hw

/-- what a chain of reference replaces makes of a word -/
def dec (ys : List LRep) (w : List Nat) : List Nat := ys.foldl (fun w yz => if w = yz.1 then yz.2 else w) w
theorem rplL_words : ∀ (ys : List LRep), (∀ r ∈ ys, isRef r.1 = true ∧ good r.2 = true) → ∀ ws : List (List Nat), (∀ w ∈ ws, good w = true) → rplL ys ws.flatten = (ws.map (dec ys)).flatten ∧ ∀ w ∈ ws.map (dec ys), good w = true
  | [], _, ws, hw => by
    have e : dec [] = id := rfl
    rw [e, List.map_id]
    exact ⟨rfl, hw⟩
  | (y, z) :: r, h, ws, hw => by
    have hyz := h _ (List.mem_cons_self ..)
    have hg : ∀ w ∈ ws.map fun w => if w = y then z else w, good w = true := by
      intro q hq
      obtain ⟨w, hm, rfl⟩ := List.mem_map.mp hq
      by_cases e : w = y
      · rw [if_pos e]; exact hyz.2
      · rw [if_neg e]; exact hw w hm
    have ih := rplL_words r (fun q hq => h q (List.mem_cons_of_mem _ hq)) _ hg
    rw [List.map_map] at ih
    refine ⟨?_, ih.2⟩
    show rplL r (rpl y z 0 ws.flatten) = _
    rw [rpl_words hyz.1 ws hw, ih.1]
    rfl

/-- encoded signs read back -/
theorem unesc_enc {e : Nat → List Nat} {ys : List LRep} {a z : List Nat} (hys : ∀ r ∈ ys, isRef r.1 = true ∧ good r.2 = true) (ha : isRef a = true) (l : List Nat) (hg : ∀ k ∈ l, good (e k) = true)
    (hd : ∀ k ∈ l, (if dec ys (e k) = a then z else dec ys (e k)) = [k]) : rpl a z 0 (rplL ys (l.flatMap e)) = l := by
  have e1 : l.flatMap e = (l.map e).flatten := by rw [List.flatMap_def]
  have h := rplL_words ys hys (l.map e) (by intro w hw; obtain ⟨k, hk, rfl⟩ := List.mem_map.mp hw; exact hg k hk)
  rw [e1, h.1, rpl_words ha _ h.2, List.map_map, List.map_map]
  have : (l.map (((fun w => if w = a then z else w) ∘ dec ys) ∘ e)) = l.map fun k => [k] := List.map_congr_left fun k hk => hd k hk
  rw [this]
  clear this h e1 hd hg
  induction l with
  | nil => rfl
  | cons a t ih => simp [ih]
end Mine
end

section
open PySem PySem.StrLaws PySem.Builtin.Str
namespace Mine

abbrev NRep := Nat × List Nat
def single (n : List NRep) : List LRep := n.map fun cz => ([cz.1], cz.2)

theorem str_ext {a b : Str} (h : a.cps.toList = b.cps.toList) : a = b := by
  cases a; cases b; simp only [Str.mk.injEq]; exact Array.toList_inj.mp h

theorem repls_append (X : Str) (a b : List (Str × Str)) : repls X (a ++ b) = repls (repls X a) b := by simp [repls, List.foldl_append]
theorem repls_enc {R : List (Str × Str)} {n : List NRep} (h : lreps R = single n) (X : Str) : (repls X R).cps.toList = X.cps.toList.flatMap (enc n) := by
  have h1 : ∀ r ∈ R, 1 ≤ r.1.length := by
    intro r hr
    have hm : (r.1.cps.toList, r.2.cps.toList) ∈ lreps R := List.mem_map.mpr ⟨r, hr, rfl⟩
    rw [h] at hm
    obtain ⟨cz, _, e⟩ := List.mem_map.mp hm
    have e1 : [cz.1] = r.1.cps.toList := congrArg Prod.fst e
    rw [← tl, ← e1]; simp
  rw [repls_list R X h1, h]
  exact rplL_enc n _

theorem single_take {R : List (Str × Str)} {n : List NRep} (h : lreps R = single n) (i : Nat) : lreps (R.take i) = single (n.take i) := by
  have := congrArg (List.take i) h
  simpa [lreps, single, List.map_take] using this

theorem flatMap_len {f : Nat → List Nat} {b : Nat} (h : ∀ k, (f k).length ≤ b) : ∀ l : List Nat, (l.flatMap f).length ≤ b * l.length
  | [] => by simp
  | a :: t => by
    have ih := flatMap_len h t
    have := h a
    rw [List.flatMap_cons, List.length_append, List.length_cons, Nat.mul_add, Nat.mul_one]; omega

theorem fits_enc {R : List (Str × Str)} {n : List NRep} (h : lreps R = single n) (hz : ∀ r ∈ R, r.2.length ≤ 8) {b : Nat} (hb : ∀ i k, (enc (n.take i) k).length ≤ b) {X : Str} (hX : 10 * (b * X.length) ≤ 16000000) : Fits X R := by
  have key : ∀ (suf pre : List (Str × Str)), R = pre ++ suf → Fits (repls X pre) suf := by
    intro suf
    induction suf with
    | nil => intro pre _; exact trivial
    | cons r s ih =>
      intro pre e
      have hl : (repls X pre).length ≤ b * X.length := by
        have hp : pre = R.take pre.length := by rw [e, List.take_left']; rfl
        have := repls_enc (single_take h pre.length) X
        rw [← hp] at this
        rw [← tl, this, ← tl X]
        exact flatMap_len (hb _) _
      refine ⟨?_, ?_⟩
      · have h2 := hz r (by rw [e]; simp)
        have : ((repls X pre).length + 1) * r.2.length ≤ ((repls X pre).length + 1) * 8 := Nat.mul_le_mul_left _ h2
        omega
      · have := ih (pre ++ [r]) (by rw [e]; simp)
        rw [repls_append] at this
        exact this
  exact key R [] rfl

theorem rpl_len {y z : List Nat} (hy : 1 ≤ y.length) (hz : z.length ≤ y.length) : ∀ (l : List Nat) (k : Nat), (rpl y z k l).length ≤ l.length - k ∨ (rpl y z k l).length + k ≤ l.length ∨ l.length < k ∧ (rpl y z k l) = []
  | [], k => by simp [rpl]
  | a :: t, 0 => by
    left
    rw [rpl]
    split
    · rename_i hp
      rw [List.isPrefixOf_iff_prefix] at hp
      have hl := hp.length_le
      rw [List.length_append]
      simp only [List.length_cons] at hl ⊢
      rcases rpl_len hy hz t (y.length - 1) with h | h | ⟨h, e⟩
      · omega
      · omega
      · omega
    · rcases rpl_len hy hz t 0 with h | h | ⟨h, e⟩
      · simp only [List.length_cons]; omega
      · simp only [List.length_cons]; omega
      · omega
  | a :: t, k + 1 => by
    rw [rpl]
    rcases rpl_len hy hz t k with h | h | ⟨h, e⟩
    · left; simp only [List.length_cons]; omega
    · right; left; simp only [List.length_cons]; omega
    · right; right; exact ⟨by simp only [List.length_cons]; omega, e⟩
theorem replace_len {X y z : Str} (hy : 1 ≤ y.length) (hz : z.length ≤ y.length) : (Txt.replace X y z).length ≤ X.length := by
  rw [← tl, replace_rpl X y z hy, ← tl X]
  rcases rpl_len (y := y.cps.toList) (z := z.cps.toList) (by rw [tl]; exact hy) (by rw [tl, tl]; exact hz) X.cps.toList 0 with h | h | ⟨h, e⟩
  · omega
  · omega
  · omega
theorem fits_shrink : ∀ {R : List (Str × Str)} {X : Str}, (∀ r ∈ R, 1 ≤ r.1.length ∧ r.2.length ≤ r.1.length ∧ r.2.length ≤ 8) → 10 * X.length ≤ 16000000 → Fits X R ∧ (repls X R).length ≤ X.length
  | [], _, _, _ => ⟨trivial, Nat.le_refl _⟩
  | (y, z) :: r, X, h, hX => by
    have h1 := h (y, z) (List.mem_cons_self ..)
    have hl : (Txt.replace X y z).length ≤ X.length := replace_len (X := X) h1.1 h1.2.1
    have ih := fits_shrink (R := r) (X := Txt.replace X y z) (fun q hq => h q (List.mem_cons_of_mem _ hq)) (by omega)
    refine ⟨⟨?_, ih.1⟩, Nat.le_trans ih.2 hl⟩
    have : (X.length + 1) * z.length ≤ (X.length + 1) * 8 := Nat.mul_le_mul_left _ h1.2.2
    omega

/-- read back -/
theorem unesc_str {R : List (Str × Str)} {n : List NRep} {U : List (Str × Str)} {a z : Str} {ys : List LRep} {al zl : List Nat} (h : lreps R = single n) (hU : lreps U = ys) (ha : a.cps.toList = al) (hz : z.cps.toList = zl)
    (hys : ∀ r ∈ ys, isRef r.1 = true ∧ good r.2 = true) (hal : isRef al = true) (hg : ∀ k, good (enc n k) = true) (hd : ∀ k, (if dec ys (enc n k) = al then zl else dec ys (enc n k)) = [k]) (X : Str) :
    Txt.replace (repls (repls X R) U) a z = X := by
  refine str_ext ?_
  have hne : ∀ {w : List Nat}, isRef w = true → 1 ≤ w.length := by
    intro w hw
    obtain ⟨b, rfl, _⟩ := isRef_shape hw
    simp
  have hU1 : ∀ r ∈ U, 1 ≤ r.1.length := by
    intro r hr
    have hm : (r.1.cps.toList, r.2.cps.toList) ∈ ys := by rw [← hU]; exact List.mem_map.mpr ⟨r, hr, rfl⟩
    have := hne (hys _ hm).1
    rw [← tl]; exact this
  rw [replace_rpl _ _ _ (by rw [← tl, ha]; exact hne hal), repls_list U _ hU1, repls_enc h, hU, ha, hz]
  exact unesc_enc hys hal _ (fun k _ => hg k) fun k _ => hd k
end Mine
end

section
open PySem PySem.StrLaws PySem.Builtin.Str
namespace Mine
def numR (R : List (Str × Str)) : List NRep := R.map fun r => (r.1.cps.toList.headD 0, r.2.cps.toList)

/-- words of which none begins another: what is written tells them apart -/
theorem flat_iff {f g : Nat → List Nat} (h : ∀ k, f k = g k ∨ (¬ f k <+: g k ∧ ¬ g k <+: f k)) : ∀ l : List Nat, l.flatMap f = l.flatMap g ↔ ∀ k ∈ l, f k = g k
  | [] => by simp
  | k :: l => by
    have ih := flat_iff h l
    rw [List.flatMap_cons, List.flatMap_cons]
    constructor
    · intro e
      have hk : f k = g k := by
        rcases h k with h1 | ⟨h1, h2⟩
        · exact h1
        · exfalso
          have p1 : f k <+: g k ++ l.flatMap g := e ▸ List.prefix_append _ _
          have p2 : g k <+: g k ++ l.flatMap g := List.prefix_append _ _
          rcases List.prefix_or_prefix_of_prefix p1 p2 with q | q
          · exact h1 q
          · exact h2 q
      rw [hk] at e
      have e' := List.append_cancel_left e
      intro q hq
      rcases List.mem_cons.mp hq with rfl | hq
      · exact hk
      · exact ih.mp e' q hq
    · intro e
      rw [e k (List.mem_cons_self ..), ih.mpr fun q hq => e q (List.mem_cons_of_mem _ hq)]

theorem fm_congr' {f g : Nat → List Nat} : ∀ {l : List Nat}, (∀ k ∈ l, f k = g k) → l.flatMap f = l.flatMap g
  | [], _ => rfl
  | k :: l, h => by
    rw [List.flatMap_cons, List.flatMap_cons, h k (List.mem_cons_self ..), fm_congr' fun q hq => h q (List.mem_cons_of_mem _ hq)]

/-- encoded signs, read with a table -/
theorem unesc_map {e : Nat → List Nat} {ys : List LRep} {a z : List Nat} (hys : ∀ r ∈ ys, isRef r.1 = true ∧ good r.2 = true) (ha : isRef a = true) (l : List Nat) (hg : ∀ k ∈ l, good (e k) = true) :
    rpl a z 0 (rplL ys (l.flatMap e)) = l.flatMap fun k => if dec ys (e k) = a then z else dec ys (e k) := by
  have e1 : l.flatMap e = (l.map e).flatten := by rw [List.flatMap_def]
  have h := rplL_words ys hys (l.map e) (by intro w hw; obtain ⟨k, hk, rfl⟩ := List.mem_map.mp hw; exact hg k hk)
  rw [e1, h.1, rpl_words ha _ h.2, List.map_map, List.map_map, List.flatMap_def]
  rfl
theorem isRef_len {w : List Nat} (h : isRef w = true) : 1 ≤ w.length := by
  obtain ⟨b, rfl, _⟩ := isRef_shape h
  simp
theorem unesc_strM {R : List (Str × Str)} {n : List NRep} {U : List (Str × Str)} {a z : Str} {ys : List LRep} {al zl : List Nat} (h : lreps R = single n) (hU : lreps U = ys) (ha : a.cps.toList = al) (hz : z.cps.toList = zl)
    (hys : ∀ r ∈ ys, isRef r.1 = true ∧ good r.2 = true) (hal : isRef al = true) (hg : ∀ k, good (enc n k) = true) (X : Str) :
    (Txt.replace (repls (repls X R) U) a z).cps.toList = X.cps.toList.flatMap fun k => if dec ys (enc n k) = al then zl else dec ys (enc n k) := by
  have hU1 : ∀ r ∈ U, 1 ≤ r.1.length := by
    intro r hr
    have hm : (r.1.cps.toList, r.2.cps.toList) ∈ ys := by rw [← hU]; exact List.mem_map.mpr ⟨r, hr, rfl⟩
    have := isRef_len (hys _ hm).1
    rw [← tl]; exact this
  rw [replace_rpl _ _ _ (by rw [← tl, ha]; exact isRef_len hal), repls_list U _ hU1, repls_enc h, hU, ha, hz]
  exact unesc_map hys hal _ fun k _ => hg k

theorem hasOne (X : Str) (c : Nat) : (!(occurrences X ⟨#[c]⟩ 0 X.length 1).isEmpty) = true ↔ c ∈ X.cps.toList := by
  rw [found_iff, List.mem_iff_getElem?]
  exact exists_congr fun i => subAt_one X c i
end Mine
end

section
open PySem PySem.W PyProof.Rows
set_option maxRecDepth 100000
namespace Mine
section
variable {prog : Program} {w : World} {A : Around} {E : Value → Shared → Prop} {s : Shared}

/-- an items iterator's next pair, as the table holds it -/
theorem next_items {it d : Addr} {i n ep : Nat} {od : Obj} {es : Array DictEntry} {e : DictEntry} {ok ov : Value} {Q : Option Value → Shared → Prop}
    (hit : IsItemIter s.heap it d i n ep ok ov) (hd : s.heap.get? d = some od) (hdd : od.data = .dict es ep) (hn : es.size = n) (he : es[i]? = some e)
    (hQ : ∀ h', IsItemIterOut h' it d (i + 1) n ep e.key e.val s.heap.objs.size → h'.get? s.heap.objs.size = some { cls := .type "tuple", data := .seq #[e.key, e.val] } →
      (∀ b o, b ≠ it → s.heap.get? b = some o → h'.get? b = some o) → Q (some (.ref s.heap.objs.size)) { s with heap := h' }) :
    wpAny (model prog w) A (pyNext (.ref it)) Q E s := by
  have hT : s.TypeIs (.ref it) "dict_itemiterator" := ⟨_, hit, rfl⟩
  have hown : Builtin.Dict_items.ownsTuple "dict_itemiterator" = true := by decide
  have hil : it < s.heap.objs.size := Heap.lt_size hit
  unfold pyNext
  refine wpAny_bind (wpAny_attempt (wpAny_callSpecial?_slot (name := Str.ofString "__next__") hT F.slot_dict_itemiterator_next (wpAny_call_entry F.slot_dict_itemiterator_next hT F.entry_dict_itemiterator_next ?_ (F.args_dict_itemiterator_next_1 _))))
  -- which slot, where
  refine wpAny_bind (wpAny_pure (wpAny_bind (wpAny_bind (wpAny_bind (wpAny_typeNameOfWhole_itemiter hT (wpAny_pure (wpAny_bind (wpAny_fieldsOf hit rfl ?_))))))))
  simp only [hown, if_true]
  show wpAny _ _ (if (Value.ref d == Value.none) = true then _ else _) _ _ _
  rw [if_neg (show ¬ ((Value.ref d == Value.none) = true) from Bool.false_ne_true)]
  refine wpAny_bind (wpAny_pure (wpAny_bind (wpAny_dictEntries hd hdd ?_)))
  rw [if_neg (by simp [hn])]
  refine wpAny_bind (wpAny_pure (wpAny_bind (wpAny_dictEpoch hd hdd ?_)))
  rw [if_neg (by simp)]
  refine wpAny_pure ?_
  simp only [show ¬ ((i : Int) < 0) from by omega, if_false, Int.toNat_natCast, he]
  -- the index goes on
  refine wpAny_bind (wpAny_bind (wpAny_typeNameOfWhole_itemiter hT (wpAny_pure (wpAny_bind (wpAny_isOneOf_itemiter hT ?_)))))
  simp only [hown, if_true]
  refine wpAny_bind (wpAny_setField_rec (k := 3) (x := rawInt ((i : Int) + 1)) hit (by simp) fun h₁ e₁ b₁ => ?_)
  have hT₁ : Shared.TypeIs { s with heap := h₁ } (.ref it) "dict_itemiterator" := ⟨_, e₁, rfl⟩
  refine wpAny_bind (wpAny_holding (wpAny_bind (wpAny_isOneOf_itemiter hT₁ (wpAny_bind (wpAny_isOneOf_itemiter hT₁ ?_)))))
  show wpAny _ _ (Builtin.Dict_items.pairFromOwner (.ref it) 6 e.key e.val) _ _ _
  -- a new pair, and the iterator keeps it
  unfold Builtin.Dict_items.pairFromOwner Builtin.Dict_items.ownedTupleIsFree
  refine wpAny_bind (wpAny_newTuple ?_)
  have hz : h₁.objs.size = s.heap.objs.size := b₁.1
  have e₂ := Heap.get?_push_of_some (h := h₁) { cls := .type "tuple", data := .seq #[e.key, e.val] } e₁
  refine wpAny_bind (wpAny_bind (wpAny_field e₂ rfl (x := .none) rfl (wpAny_pure ?_)))
  simp only [if_true]
  show wpAny _ _ (do
    let k₀ ← field (.ref it) 6
    let v₀ ← field (.ref it) (6 + 1)
    setField (.ref it) 6 e.key; setField (.ref it) (6 + 1) e.val; setField (.ref it) 0 (rawInt h₁.objs.size); setField (.ref it) 1 (.bool false)
    letGo [k₀, v₀] [.ref h₁.objs.size]
    pure (Value.ref h₁.objs.size)) _ _ _
  refine wpAny_bind (wpAny_field e₂ rfl (x := ok) rfl (wpAny_bind (wpAny_field e₂ rfl (x := ov) rfl ?_)))
  refine wpAny_mono (Q := fun v s' => v = .ref h₁.objs.size ∧ ∃ h', s' = { s with heap := h' } ∧ IsItemIterOut h' it d (i + 1) n ep e.key e.val h₁.objs.size ∧ Heap.SameBut it (h₁.push { cls := .type "tuple", data := .seq #[e.key, e.val] }) h') (E := fun _ _ => False) ?_ ?_ (fun _ _ h => h.elim)
  · refine wpAny_bind (wpAny_setField_rec e₂ (by simp) fun g₁ c₁ d₁ => wpAny_bind (wpAny_setField_rec c₁ (by simp) fun g₂ c₂ d₂ => wpAny_bind (wpAny_setField_rec c₂ (by simp) fun g₃ c₃ d₃ => wpAny_bind (wpAny_setField_rec c₃ (by simp) fun g₄ c₄ d₄ => wpAny_bind (wpAny_letGo (wpAny_pure ?_))))))
    refine ⟨rfl, g₄, rfl, ?_, ⟨by rw [d₄.1, d₃.1, d₂.1, d₁.1], fun b hb => by rw [d₄.2 b hb, d₃.2 b hb, d₂.2 b hb, d₁.2 b hb]⟩⟩
    simpa [rawInt, IsItemIterOut] using c₄
  · rintro v s' ⟨rfl, h', rfl, hout, hs⟩
    rw [hz] at hout ⊢
    refine wpAny_pure ⟨_, rfl, wpAny_pure (hQ h' hout ?_ fun b o hb ho => ?_)⟩
    · have := Heap.get?_push_size h₁ (o := { cls := .type "tuple", data := .seq #[e.key, e.val] }) rfl
      rw [hz] at this
      exact (hs.2 _ (Nat.ne_of_gt hil)).trans this
    · exact (hs.2 b hb).trans (Heap.get?_push_of_some _ ((b₁.2 b hb).trans ho))
end
end Mine
end

section
open PySem PySem.W PyProof.Rows PyProof.V
set_option maxRecDepth 100000
namespace Mine

/-- a table's line: key, its token, value, its token -/
abbrev Ln := Str × Tok × Str × Tok
def lnE (w : World) (e : Ln) : DictEntry := ⟨hashStr w e.1, .str e.1 e.2.1, .str e.2.2.1 e.2.2.2⟩
/-- a dict of texts -/
def dObj (w : World) (l : List Ln) (ep : Nat) : Obj := { cls := .type "dict", data := .dict (l.map (lnE w)).toArray ep }
def lnKvs (l : List Ln) : List (Str × Value) := l.map fun e => (e.1, .str e.2.2.1 e.2.2.2)
def lnPy (l : List Ln) : List (PyData × PyData) := l.map fun e => (.str e.1, .str e.2.2.1)

section
variable {prog : Program} {w : World} {h : Heap} {d : Addr} {l : List Ln} {ep : Nat}

theorem dObj_at (hd : h.get? d = some (dObj w l ep)) (hn : (l.map (·.1)).Nodup) : h.DictAt (strKind prog w) d (lnKvs l) ep := by
  refine ⟨_, _, hd, ⟨rfl, rfl, rfl⟩, rfl, ?_, ?_, ?_⟩
  · intro e he
    have he' : e ∈ l.map (lnE w) := by simpa using he
    obtain ⟨x, _, rfl⟩ := List.mem_map.mp he'
    exact ⟨x.1, strKind_is prog w x.1 x.2.1, rfl⟩
  · show Pairs (strKind prog w) (l.map (lnE w)).toArray.toList (lnKvs l)
    simp only [List.toList_toArray]
    clear hd hn
    induction l with
    | nil => exact .nil
    | cons e r ih => exact .cons (strKind_is prog w e.1 e.2.1) rfl ih
  · have : (lnKvs l).map (·.1) = l.map (·.1) := by simp [lnKvs, Function.comp_def]
    rw [this]; exact hn

theorem lnFlat : ∀ l : List Ln, PyProof.V.FlatPairs PyData.str (lnKvs l) (lnPy l)
  | [] => .nil
  | e :: r => .cons (Flat.str _ _) (lnFlat r)

theorem dObj_tab (hd : h.get? d = some (dObj w l ep)) (hn : (l.map (·.1)).Nodup) (lo : (d == sysModules) = false) : TabAt (strKind prog w) PyData.str h d (lnPy l) :=
  ⟨lo, _, (dObj_at hd hn).dictOf, lnFlat l⟩
end

section
variable {prog : Program} {w : World} {A : Around} {E : Value → Shared → Prop} {s : Shared}

theorem items_turns {elts : List Expr} {kk : Nat} {pos : Pos} (hh : A.handled = none) (I d : Addr) (hne : d ≠ I) (l : List Ln) (ep : Nat) (hn : (l.map (·.1)).Nodup) :
    KTurns prog w A (.Tuple elts kk pos) I [I, d] [I] l.length
      (fun i v h => ∃ T e, v = .ref T ∧ l[i]? = some e ∧ IsTup h T #[.str e.1 e.2.1, .str e.2.2.1 e.2.2.2])
      (fun i v h => ∃ T e ok ov, v = .ref T ∧ l[i]? = some e ∧ IsTup h T #[.str e.1 e.2.1, .str e.2.2.1 e.2.2.2] ∧ IsItemIterOut h I d (i + 1) l.length ep ok ov T ∧ h.get? d = some (dObj w l ep) ∧ T ≠ I)
      (fun i h => (∃ ok ov, IsItemIter h I d i l.length ep ok ov) ∧ h.get? d = some (dObj w l ep)) where
  sub := fun b hb => by simp at hb; simp [hb]
  frame := fun i h h' st hk => by
    obtain ⟨⟨ok, ov, he⟩, hm⟩ := st
    exact ⟨⟨ok, ov, hk I (by simp) _ he⟩, hk d (by simp) _ hm⟩
  item := fun i s Q E hi st hQ => by
    obtain ⟨⟨ok, ov, he⟩, hm⟩ := st
    have hx : l[i]? = some l[i] := by simp [hi]
    refine next_items (e := lnE w l[i]) he hm rfl (by simp) (by simp [hi]) fun h' ho hT hk => ?_
    exact hQ (.ref s.heap.objs.size) h' s.toks ⟨_, _, _, _, rfl, hx, ⟨_, hT, rfl, _, rfl⟩, ho, hk d _ hne hm, Nat.ne_of_gt (Heap.lt_size he)⟩ fun b o hb e => hk b o (fun h => hb (by simp [h])) e
  go := fun i v s Q E hm hQ => by
    obtain ⟨T, e, ok, ov, rfl, hx, hT, ho, hd, hTI⟩ := hm
    refine wpAny_letOwnedTupleGo_items ho fun h' he hs => ?_
    exact hQ h' ⟨T, e, rfl, hx, hT.extBut hs.extBut hTI⟩ ⟨⟨ok, ov, he⟩, hs.extBut d _ hne hd⟩ fun b o hb e => hs.extBut b o (fun h => hb (by simp [h])) e
  done := fun s Q E st hQ => by
    obtain ⟨⟨ok, ov, he⟩, hm⟩ := st
    have hl : (lnKvs l).length = l.length := by simp [lnKvs]
    have he' : IsItemIter s.heap I d l.length (lnKvs l).length ep ok ov := by rw [hl]; exact he
    exact wpAny_pyNext_items_end (kvs := lnKvs l) hh he' (dObj_at (prog := prog) hm hn) (by simp [lnKvs]) fun h' hx => hQ h' s.toks fun b o hb e => hx b o (fun h => hb (by simp [h])) e
end
end Mine
end

section
open PySem PySem.W PyProof.Rows PyProof.V
set_option maxRecDepth 100000
namespace Mine

theorem news_ext {h₀ h h' : Heap} {L : Addr} {news : List (Addr × Obj)} (N : News h₀ L h news) (hs : Heap.ExtBut h.objs.size h h') : News h₀ L h' news :=
  fun p hp => ⟨hs p.1 p.2 (Nat.ne_of_lt (Heap.lt_size (N p hp).1)) (N p hp).1, (N p hp).2⟩
theorem news_sub {h₀ h : Heap} {L : Addr} {news news' : List (Addr × Obj)} (N : News h₀ L h news) (hs : ∀ p ∈ news', p ∈ news) : News h₀ L h news' := fun p hp => N p (hs p hp)

section
variable {prog : Program} {w : World} {A : Around} {E : Value → Shared → Prop} {s : Shared} {h₀ : Heap} {L a : Addr} {m : Str → Option Value}
  {cn : Str} {cs : Scope} {ccd : Value} {cl : List (Str × Addr)} {news : List (Addr × Obj)}

/-- x1, x2 = a pair -/
theorem assign_two {x1 x2 : Str} {p1 p2 pos : Pos} {k : Nat} {T : Addr} {v1 v2 : Value} {Q : Unit → Shared → Prop} (F : Fr h₀ L s.heap m) (N : News h₀ L s.heap news) (ht : IsTup s.heap T #[v1, v2]) (hh : A.handled = none)
    (hk : cs.kind = .function) (hx1 : (envX cn cs L a ccd cl).kindOf x1 = some .local) (hx2 : (envX cn cs L a ccd cl).kindOf x2 = some .local)
    (h : ∀ h', Fr h₀ L h' (upd (upd m x1 v1) x2 v2) → News h₀ L h' news → Q () { s with heap := h', toks := s.toks + 1 + 1 }) :
    wpAny (model prog w) A (assign (.Tuple [.Name x1 p1, .Name x2 p2] k pos) (envX cn cs L a ccd cl) (.ref T)) Q E s := by
  refine assign_Tuple_tuple hh ht rfl rfl fun h' he => ?_
  have F' := F.extBut he (Nat.le_refl _)
  have N' := news_ext N he
  refine assignInOrder_cons (assign_Name (storeX_L (s := { s with heap := h' }) F' N' (fun h₁ F₁ N₁ => ?_) hk hx1))
  refine assignInOrder_cons (assign_Name (storeX_L (s := { s with heap := h₁, toks := s.toks + 1 }) F₁ N₁ (fun h₂ F₂ N₂ => ?_) hk hx2))
  exact assignInOrder_nil (h h₂ F₂ N₂)

/-- for x1, x2 in d.items(): d a dict of texts -/
theorem for_items {x1 x2 xd : Str} {p1 p2 pt pd pa pc pos : Pos} {k : Nat} {body : List Stmt} {d : Addr} {l : List Ln} {ep : Nat} {Q : Flow → Shared → Prop}
    (J : Nat → (Str → Option Value) → Prop)
    (hh : A.handled = none) (F : Fr h₀ L s.heap m) (N : News h₀ L s.heap news) (T : h₀.NoLimit) (hm : m xd = some (.ref d)) (hd : (d, dObj w l ep) ∈ news) (hn : (l.map (·.1)).Nodup) (lo : (d == sysModules) = false)
    (hp : (pa.endLine == pc.line) = true)
    (hk : cs.kind = .function) (hx1 : (envX cn cs L a ccd cl).kindOf x1 = some .local) (hx2 : (envX cn cs L a ccd cl).kindOf x2 = some .local) (hxd : (envX cn cs L a ccd cl).kindOf xd = some .local) (hdb : (xd == ("__debug__" : Str)) = false)
    (h0 : J 0 m)
    (step : ∀ i e m₁ s₁ own, l[i]? = some e → J i m₁ → Fr h₀ L s₁.heap (upd (upd m₁ x1 (.str e.1 e.2.1)) x2 (.str e.2.2.1 e.2.2.2)) → News h₀ L s₁.heap (own ++ news) → 1 ≤ s₁.toks →
      wpAny (model prog w) A (execs body (envX cn cs L a ccd cl)) (fun fl s₂ => fl = .next ∧ ∃ h' tk m', s₂ = { s₁ with heap := h', toks := tk } ∧ Fr h₀ L h' m' ∧ News h₀ L h' (own ++ news) ∧ J (i + 1) m') (fun _ _ => False) s₁)
    (done : ∀ h' tk m', Fr h₀ L h' m' → News h₀ L h' news → J l.length m' → Q .next { s with heap := h', toks := tk }) :
    wpAny (model prog w) A (exec (.For (.Tuple [.Name x1 p1, .Name x2 p2] k pt) (.Call (.Attribute (.Name xd pd) (Str.ofString "items") pa) [] [] pc) body [] pos) (envX cn cs L a ccd cl)) Q (fun _ _ => False) s := by
  have hdg := (N _ hd).1
  refine For_turns (h₀ := h₀) (m := m) F ?_ (by intro _; rfl) PassesOwn.never
  refine mcall hp rfl rfl (nameX_L F hm ?_ hk hxd hdb)
  refine getMethod_tab (knd := strKind prog w) (enc := PyData.str) PySem.F.slot_dict_items PySem.F.type_dict_items (dObj_tab hdg hn lo) ?_
  refine callWith_method0 (call_items_tab (knd := strKind prog w) (enc := PyData.str) (dObj_tab hdg hn lo) F N fun h' o hv F' N' => ?_)
  have hdg' := (N' _ (List.mem_cons_of_mem _ hd)).1
  have hl : (lnKvs l).length = l.length := by simp [lnKvs]
  refine wpAny_pyIter_items (knd := strKind prog w) hv (dObj_at (prog := prog) hdg' hn) ?_
  rw [hl]
  have hne : d ≠ h'.objs.size := Nat.ne_of_lt (Heap.lt_size hdg')
  refine ⟨h'.objs.size, [h'.objs.size, d], [h'.objs.size], l.length, _, _, _, m, news, fun i m₁ n₁ => n₁ = news ∧ J i m₁, rfl, items_turns hh h'.objs.size d hne l ep hn, ?_, ?_, ?_, ?_, F'.push _, ?_, ⟨rfl, h0⟩, ?_, ?_⟩
  · intro hm'
    rcases List.mem_cons.mp hm' with e | e
    · exact absurd F'.ns.lt (by rw [show L = h'.objs.size from e]; exact Nat.lt_irrefl _)
    · exact (N _ hd).2.1 (List.mem_singleton.mp e).symm
  · intro b hb
    rw [List.mem_singleton.mp hb]
    exact next_is_new F'
  · intro q hq hI
    exact absurd (Heap.lt_size (N' _ (List.mem_cons_of_mem _ hq)).1) ((List.mem_singleton.mp hI) ▸ Nat.lt_irrefl _)
  · exact ⟨⟨.none, .none, Heap.get?_push_size _ rfl⟩, Heap.get?_push_of_some _ hdg'⟩
  · exact fun q hq => ⟨Heap.get?_push_of_some _ (N' _ (List.mem_cons_of_mem _ hq)).1, (N' _ (List.mem_cons_of_mem _ hq)).2⟩
  · rintro i v m₁ news₁ h₁ tk₁ own hi ⟨T', e, rfl, hx, hT⟩ ⟨rfl, hJ⟩ hoff _ _ _ _ F₁ N₁
    refine assign_two (s := { s with heap := h₁, toks := tk₁ }) F₁ N₁ hT hh hk hx1 hx2 fun h₂ F₂ N₂ => ?_
    refine wpAny_mono (step i e m₁ { s with heap := h₂, toks := tk₁ + 1 + 1 } own hx hJ F₂ N₂ (by show 1 ≤ tk₁ + 1 + 1; omega)) ?_ (fun _ _ x => x)
    rintro fl s₂ ⟨rfl, h₃, tk₃, m₃, rfl, F₃, N₃, hJ₃⟩
    exact .next ⟨rfl, h₃, tk₃, m₃, news₁, rfl, F₃, N₃, hoff, rfl, hJ₃⟩
  · rintro h₁ tk₁ m₁ news₁ F₁ N₁ _ ⟨rfl, hJ⟩
    exact done h₁ tk₁ m₁ F₁ N₁ hJ
end
end Mine
end

section
open PySem PySem.W PyProof.Rows PyProof.V
set_option maxRecDepth 100000
namespace Mine

def LnOk (e : Ln) : Prop := e.2.1 ≠ 0 ∧ e.2.2.2 ≠ 0 ∧ e.2.1 ≠ e.2.2.2
def lnReps (l : List Ln) : List (Str × Str) := l.map fun e => (e.1, e.2.2.1)
/-- where a key is its own value the state must not have booked a token -/
def Clear (K : Frag) (l : List Ln) : Prop := (∀ e ∈ l, (e.1 == e.2.2.1) = false) ∨ ∀ h, K.In h → NoneBooked h

section
variable {prog : Program} {w : World} {A : Around} {E : Value → Shared → Prop} {s : Shared} {h₀ : Heap} {L a : Addr} {m : Str → Option Value}
  {cn : Str} {cs : Scope} {ccd : Value} {cl : List (Str × Addr)} {news : List (Addr × Obj)}

/-- x.replace(xy, xz): names -/
theorem ev_replaceN {x xy xz y z X : Str} {t u v : Tok} {p1 p2 p3 p4 p5 : Pos} {Q : Value → Shared → Prop} (F : Fr h₀ L s.heap m) (hm : m x = some (.str X t)) (hmy : m xy = some (.str y u)) (hmz : m xz = some (.str z v))
    (hp : (p2.endLine == p5.line) = true) (hu : u ≠ 0) (hv : v ≠ 0) (huv : u ≠ v)
    (hyz : (y == z) = false ∨ NoneBooked s.heap) (hb : X.length + (X.length + 1) * z.length ≤ 16777216)
    (hk : cs.kind = .function) (hx : (envX cn cs L a ccd cl).kindOf x = some .local) (hd : (x == ("__debug__" : Str)) = false)
    (hxy : (envX cn cs L a ccd cl).kindOf xy = some .local) (hdy : (xy == ("__debug__" : Str)) = false) (hxz : (envX cn cs L a ccd cl).kindOf xz = some .local) (hdz : (xz == ("__debug__" : Str)) = false)
    (h : ∀ t' k, s.toks ≤ k → Q (.str (Txt.replace X y z) t') { s with toks := k }) :
    wpAny (model prog w) A (eval (.Call (.Attribute (.Name x p1) (Str.ofString "replace") p2) [.Name xy p3, .Name xz p4] [] p5) (envX cn cs L a ccd cl)) Q E s := by
  refine mcall hp rfl rfl (nameX_L F hm ?_ hk hx hd)
  refine GM.replace ?_
  refine callWith_method1 (spliced_more (nameX_L F hmy (spliced_more (nameX_L F hmz (spliced_none ?_) hk hxz hdz) rfl) hk hxy hdy) rfl) rfl rfl
  rcases hyz with hyz | hnb
  · exact toks_le (SC.replace hu hv huv hyz hb fun t' k hk' => h t' k hk')
  · exact toks_le (SC.replaceA hu hv huv hb (fun t' k hk' => h t' k hk') hnb)
end

theorem repls_take {l : List Ln} {i : Nat} {e : Ln} (X : Str) (h : l[i]? = some e) : repls X (lnReps (l.take (i + 1))) = Txt.replace (repls X (lnReps (l.take i))) e.1 e.2.2.1 := by
  rw [List.take_add_one, h]
  simp [lnReps, repls, List.foldl_append]

theorem fits_take : ∀ {l : List Ln} {i : Nat} {e : Ln} {X : Str}, Fits X (lnReps l) → l[i]? = some e → (repls X (lnReps (l.take i))).length + ((repls X (lnReps (l.take i))).length + 1) * e.2.2.1.length ≤ 16777216
  | e' :: r, 0, e, X, hf, h => by
    simp only [List.getElem?_cons_zero, Option.some.injEq] at h
    subst h
    exact hf.1
  | e' :: r, i + 1, e, X, hf, h => by
    have := fits_take (l := r) (i := i) (e := e) (X := Txt.replace X e'.1 e'.2.2.1) hf.2 (by simpa using h)
    simpa [lnReps, repls] using this

section
variable {prog : Program} {w : World} {K : Frag} {p : Program} {loose : List Str} {mean : ExcName → Option Value} {mg mb : Str → Option Value}

/-- def dict_replace(s, d): for key, value in d.items(): s = s.replace(key, value); return s -/
theorem body_dictrep {n : Nat} {f : Addr} {qual : Str} {scope : Scope} {cdv : Value} {m : Str → Option Value} {xs xd xk xv X : Str} {t : Tok} {d : Addr} {l : List Ln} {ep : Nat}
    {p1 p2 pt pd pa pc pos q0 q1 q2 q3 q4 q5 q6 r1 r2 : Pos} {k : Nat}
    (hm : m xs = some (.str X t)) (hmd : m xd = some (.ref d)) (hf : Fits X (lnReps l)) (hn : (l.map (·.1)).Nodup) (hok : ∀ e ∈ l, LnOk e) (hc : Clear K l) (lo : (d == sysModules) = false)
    (hp : (pa.endLine == pc.line) = true) (hp' : (q2.endLine == q5.line) = true)
    (hk : scope.kind = .function) (hxs : ∀ L, (envOf qual scope L f cdv).kindOf xs = some .local) (hxd : ∀ L, (envOf qual scope L f cdv).kindOf xd = some .local)
    (hxk : ∀ L, (envOf qual scope L f cdv).kindOf xk = some .local) (hxv : ∀ L, (envOf qual scope L f cdv).kindOf xv = some .local)
    (hds : (xs == ("__debug__" : Str)) = false) (hdd : (xd == ("__debug__" : Str)) = false) (hdk : (xk == ("__debug__" : Str)) = false) (hdv : (xv == ("__debug__" : Str)) = false)
    (hne1 : xs ≠ xk) (hne2 : xs ≠ xv) (hne3 : xk ≠ xv) :
    BodyGives prog w K p loose mean mg mb n f qual scope cdv
      [.For (.Tuple [.Name xk p1, .Name xv p2] k pt) (.Call (.Attribute (.Name xd pd) (Str.ofString "items") pa) [] [] pc)
        [.Assign [.Name xs q0] (.Call (.Attribute (.Name xs q1) (Str.ofString "replace") q2) [.Name xk q3, .Name xv q4] [] q5) q6] [] pos, .Return (some (.Name xs r1)) r2] m
      (fun _ news => (d, dObj w l ep) ∈ news) (fun v ex => ex = [] ∧ ∃ t', v = .str (repls X (lnReps l)) t') := by
  intro A A₀ base outer g L news s Q S F N h1 hr hpre hQ
  refine wpAny_execs_cons (toksQ ?_)
  refine for_items (cl := []) (l := l) (ep := ep) (fun i m₁ => ∃ t', m₁ xs = some (.str (repls X (lnReps (l.take i))) t')) S.hh F N S.T.nolimit hmd hpre hn lo hp hk (hxk L) (hxv L) (hxd L) hdd ⟨t, by simpa [lnReps, repls] using hm⟩ ?_ ?_
  · rintro i e m₁ s₁ own he ⟨t', hm₁⟩ F₁ N₁ h1₁
    obtain ⟨hu, hv, huv⟩ := hok e (List.mem_of_getElem? he)
    refine wpAny_execs_cons (wpAny_Assign_Name (ev_replaceN (cl := []) (xy := xk) (xz := xv) (X := repls X (lnReps (l.take i))) (t := t') (y := e.1) (z := e.2.2.1) (u := e.2.1) (v := e.2.2.2) F₁ ?_ ?_ ?_ hp' hu hv huv ?_ (fits_take hf he) hk (hxs L) hds (hxk L) hdk (hxv L) hdv fun t₂ k₂ hk₂ => ?_))
    · simp [upd, hne1, hne2, hm₁]
    · simp [upd, hne3]
    · simp [upd]
    · exact hc.imp (fun h => h e (List.mem_of_getElem? he)) fun h => h _ ((S.X.keeps fun b o q => F₁.keep b o q))
    · refine storeX_L (s := { s₁ with toks := k₂ }) F₁ N₁ (fun h₃ F₃ N₃ => ?_) hk (hxs L)
      exact wpAny_execs_nil ⟨rfl, h₃, k₂ + 1, _, rfl, F₃, N₃, t₂, by simp [repls_take X he]⟩
  · rintro h' tk m' F' N' ⟨t', hm'⟩ htk
    rw [List.take_length] at hm'
    refine wpAny_execs_cons (st_return (cl := []) (s := { s with heap := h', toks := tk }) F' hm' hk (hxs L) hds ?_)
    exact hQ _ [] h' tk m' F' N' (fun _ _ _ hx => nomatch hx) (Nat.le_trans h1 htk) ⟨rfl, t', rfl⟩
end
end Mine
end

section
open PySem PySem.W PyProof.Rows PyProof.V
set_option maxRecDepth 100000
namespace Mine

/-- an object that stands: made by the call, or at the top -/
def Stands (K : Frag) (news : List (Addr × Obj)) (d : Addr) (o : Obj) : Prop := (d, o) ∈ news ∨ ∀ h, K.In h → h.get? d = some o
theorem Stands.at {K : Frag} {news : List (Addr × Obj)} {d : Addr} {o : Obj} {h₀ h : Heap} {L : Addr} {m : Str → Option Value} (x : Stands K news d o) (N : News h₀ L h news) (F : Fr h₀ L h m) (X : K.In h₀) : h.get? d = some o :=
  x.elim (fun q => (N _ q).1) fun q => q h (X.keeps F.keep)

/-- the calls of one def from another's frame -/
theorem call_name {prog : Program} {w : World} {K : Frag} {p : Program} {loose : List Str} {mean : ExcName → Option Value} {mg mb : Str → Option Value} {A A₀ : Around} {base : Heap} {outer : List Env} {E : Value → Shared → Prop} {s : Shared} {h₀ : Heap} {L a : Addr} {m : Str → Option Value}
    {cn : Str} {cs : Scope} {ccd : Value} {cl : List (Str × Addr)} {x : Str} {f : Addr} {e : Expr} {rest : List Expr} {px pos : Pos} {Q : Value → Shared → Prop}
    (S : Site K p loose mean mg mb A (envX cn cs L a ccd cl) A₀ base outer h₀ L) (F : Fr h₀ L s.heap m) (he : nsIn K mainGlobals x = some (some (.ref f))) (hkp : keepIn K (.ref f) = true)
    (hx : (envX cn cs L a ccd cl).kindOf x = some .globalImplicit) (hd : (x == ("__debug__" : Str)) = false)
    (h : wpAny (model prog w) A (spliced (backTo pos (starEach (e :: rest) (envX cn cs L a ccd cl)))) (fun vs s₁ => K.In s₁.heap ∧ wpAny (model prog w) A (call (.ref f) vs) Q E s₁) E s)
    (he1 : starEach (e :: rest) (envX cn cs L a ccd cl) = (false, eval e (envX cn cs L a ccd cl)) :: starEach rest (envX cn cs L a ccd cl)) (hpl : (backTo pos (starEach rest (envX cn cs L a ccd cl))).any (·.1) = false) :
    wpAny (model prog w) A (eval (.Call (.Name x px) (e :: rest) [] pos) (envX cn cs L a ccd cl)) Q E s := by
  refine Call_ (nameX_K F S.X (topRead_of S.T) he ?_ S.hk hx hd)
  exact callWith_K (first := []) S.X hkp h he1 hpl
section
variable {prog : Program} {w : World} {K : Frag} {p : Program} {loose : List Str} {mean : ExcName → Option Value} {mg mb : Str → Option Value}

/-- if entities: data = dict_replace(data, entities), the rest behind it -/
theorem st_entities {n : Nat} {A A₀ : Around} {base : Heap} {outer : List Env} {E : Value → Shared → Prop} {s : Shared} {h₀ : Heap} {L a : Addr} {m : Str → Option Value} {news : List (Addr × Obj)}
    {cn : Str} {cs : Scope} {ccd : Value} {cl : List (Str × Addr)} {x xe xg X : Str} {g d : Addr} {t : Tok} {l : List Ln} {ep : Nat} {q1 q2 q3 q4 q5 q6 q7 q8 : Pos} {Q : Flow → Shared → Prop}
    (S : Site K p loose mean mg mb A (envX cn cs L a ccd cl) A₀ base outer h₀ L) (F : Fr h₀ L s.heap (upd m x (.str X t))) (N : News h₀ L s.heap news) (h1 : 1 ≤ s.toks) (hr : Room A n)
    (hme : m xe = some (.ref d)) (hxe : xe ≠ x) (hst : Stands K news d (dObj w l ep)) (hl : l ≠ [] → (d, dObj w l ep) ∈ news) (hn : (l.map (·.1)).Nodup) (lo : (d == sysModules) = false) (hlen : l.length < 100)
    (hg : l ≠ [] → ∀ t, Gives prog w K p loose mean mg mb n g [.str X t, .ref d] (fun _ news => (d, dObj w l ep) ∈ news) (fun v ex => ex = [] ∧ ∃ t', v = .str (repls X (lnReps l)) t'))
    (hgn : nsIn K mainGlobals xg = some (some (.ref g))) (hkp : keepIn K (.ref g) = true)
    (hkx : (envX cn cs L a ccd cl).kindOf x = some .local) (hke : (envX cn cs L a ccd cl).kindOf xe = some .local) (hkg : (envX cn cs L a ccd cl).kindOf xg = some .globalImplicit)
    (hdx : (x == ("__debug__" : Str)) = false) (hde : (xe == ("__debug__" : Str)) = false) (hdg : (xg == ("__debug__" : Str)) = false)
    (h : ∀ h' t' k, Fr h₀ L h' (upd m x (.str (repls X (lnReps l)) t')) → News h₀ L h' news → 1 ≤ k → Q .next { s with heap := h', toks := k }) :
    wpAny (model prog w) A (exec (.If (.Name xe q1) [.Assign [.Name x q2] (.Call (.Name xg q3) [.Name x q4, .Name xe q5] [] q6) q7] [] q8) (envX cn cs L a ccd cl)) Q E s := by
  have hm2 : upd m x (.str X t) xe = some (.ref d) := by simp [upd, hxe, hme]
  refine wpAny_If (isTrue_plain (nameX_L F hm2 ?_ S.hk hke hde) rfl)
  have hat := hst.at N F S.X
  refine truthy_tab (knd := strKind prog w) (enc := PyData.str) (dObj_tab hat hn lo) (by simp [lnPy]; omega) ?_
  by_cases hle : l = []
  · subst hle
    simp only [lnPy, List.map_nil, List.isEmpty_nil, Bool.not_true, Bool.false_eq_true, if_false]
    exact wpAny_execs_nil (h s.heap t (s.toks + 1 + 1) F N (by omega))
  · have he : (lnPy l).isEmpty = false := by cases l with | nil => exact absurd rfl hle | cons _ _ => rfl
    simp only [he, Bool.not_false, if_true]
    refine wpAny_execs_cons (wpAny_Assign_Name (call_name (s := { s with toks := s.toks + 1 + 1 }) S F hgn hkp hkg hdg ?_ rfl rfl))
    refine spliced_more (nameX_L (s := { s with toks := s.toks + 1 + 1 }) F (upd_at ..) (spliced_more (nameX_L (s := { s with toks := s.toks + 1 + 1 }) F hm2 (spliced_none ⟨S.X.keeps F.keep, ?_⟩) S.hk hke hde) rfl) S.hk hkx hdx) rfl
    refine hg hle t A _ A₀ base outer h₀ L _ news { s with toks := s.toks + 1 + 1 } _ _ S F N hr (hl hle) ?_
    rintro v ex h' tk' F' N' _ htk ⟨rfl, t', rfl⟩
    refine storeX_L (s := { s with heap := h', toks := tk' }) F' N' (fun h₃ F₃ N₃ => ?_) S.hk hkx
    refine wpAny_execs_nil (h h₃ t' (tk' + 1) ?_ N₃ (by omega))
    have := upd_upd m x (.str X t) (.str (repls X (lnReps l)) t')
    rw [← this]; exact F₃

/-- escape(data, entities) -/
theorem body_esc {n : Nat} {f g : Addr} {qual : Str} {scope : Scope} {cdv : Value} {m : Str → Option Value} {x xe xg X : Str} {t : Tok} {d : Addr} {l : List Ln} {ep : Nat} {reps : List (Str × Str)} {sts : List Stmt}
    {q1 q2 q3 q4 q5 q6 q7 q8 r1 r2 : Pos}
    (hc : Chain x reps sts [.If (.Name xe q1) [.Assign [.Name x q2] (.Call (.Name xg q3) [.Name x q4, .Name xe q5] [] q6) q7] [] q8, .Return (some (.Name x r1)) r2])
    (hm : m x = some (.str X t)) (hme : m xe = some (.ref d)) (hxe : xe ≠ x) (hf : Fits X reps) (hn : (l.map (·.1)).Nodup) (lo : (d == sysModules) = false) (hlen : l.length < 100)
    (hg : l ≠ [] → ∀ t, Gives prog w K p loose mean mg mb n g [.str (repls X reps) t, .ref d] (fun _ news => (d, dObj w l ep) ∈ news) (fun v ex => ex = [] ∧ ∃ t', v = .str (repls (repls X reps) (lnReps l)) t'))
    (hgn : nsIn K mainGlobals xg = some (some (.ref g))) (hkp : keepIn K (.ref g) = true) (hk : scope.kind = .function)
    (hkx : ∀ L, (envOf qual scope L f cdv).kindOf x = some .local) (hke : ∀ L, (envOf qual scope L f cdv).kindOf xe = some .local) (hkg : ∀ L, (envOf qual scope L f cdv).kindOf xg = some .globalImplicit)
    (hdx : (x == ("__debug__" : Str)) = false) (hde : (xe == ("__debug__" : Str)) = false) (hdg : (xg == ("__debug__" : Str)) = false) :
    BodyGives prog w K p loose mean mg mb n f qual scope cdv sts m (fun _ news => Stands K news d (dObj w l ep) ∧ (l ≠ [] → (d, dObj w l ep) ∈ news)) (fun v ex => ex = [] ∧ ∃ t', v = .str (repls (repls X reps) (lnReps l)) t') := by
  intro A A₀ base outer g' L news s Q S F N h1 hr hpre hQ
  rw [← upd_same hm] at F
  refine exec_chain (cl := []) hk (hkx L) hdx hc hf F N h1 fun h' t' k F' N' hk' => ?_
  refine wpAny_execs_cons (st_entities (cl := []) (s := { s with heap := h', toks := k }) S F' N' hk' hr hme hxe hpre.1 hpre.2 hn lo hlen hg hgn hkp (hkx L) (hke L) (hkg L) hdx hde hdg fun h₂ t₂ k₂ F₂ N₂ hk₂ => ?_)
  refine wpAny_execs_cons (st_return (cl := []) (s := { s with heap := h₂, toks := k₂ }) F₂ (upd_at ..) hk (hkx L) hdx ?_)
  exact hQ _ [] h₂ k₂ _ F₂ N₂ (fun _ _ _ hx => nomatch hx) hk₂ ⟨rfl, t₂, rfl⟩

/-- unescape(data, entities) -/
theorem body_unesc {n : Nat} {f g : Addr} {qual : Str} {scope : Scope} {cdv : Value} {m : Str → Option Value} {x xe xg X y z : Str} {t : Tok} {d : Addr} {l : List Ln} {ep : Nat} {reps : List (Str × Str)} {sts : List Stmt}
    {k1 k2 : Nat} {q1 q2 q3 q4 q5 q6 q7 q8 r0 r1 r2 r3 r4 r5 : Pos}
    (hc : Chain x reps sts [.If (.Name xe q1) [.Assign [.Name x q2] (.Call (.Name xg q3) [.Name x q4, .Name xe q5] [] q6) q7] [] q8,
      .Return (some (.Call (.Attribute (.Name x r1) (Str.ofString "replace") r2) [.Constant (.str y) k1 r3, .Constant (.str z) k2 r4] [] r5)) r0])
    (hp : (r2.endLine == r5.line) = true) (hyz : (y == z) = false)
    (hm : m x = some (.str X t)) (hme : m xe = some (.ref d)) (hxe : xe ≠ x) (hf : Fits X reps) (hf2 : Fits (repls (repls X reps) (lnReps l)) [(y, z)]) (hn : (l.map (·.1)).Nodup) (lo : (d == sysModules) = false) (hlen : l.length < 100)
    (hg : l ≠ [] → ∀ t, Gives prog w K p loose mean mg mb n g [.str (repls X reps) t, .ref d] (fun _ news => (d, dObj w l ep) ∈ news) (fun v ex => ex = [] ∧ ∃ t', v = .str (repls (repls X reps) (lnReps l)) t'))
    (hgn : nsIn K mainGlobals xg = some (some (.ref g))) (hkp : keepIn K (.ref g) = true) (hk : scope.kind = .function)
    (hkx : ∀ L, (envOf qual scope L f cdv).kindOf x = some .local) (hke : ∀ L, (envOf qual scope L f cdv).kindOf xe = some .local) (hkg : ∀ L, (envOf qual scope L f cdv).kindOf xg = some .globalImplicit)
    (hdx : (x == ("__debug__" : Str)) = false) (hde : (xe == ("__debug__" : Str)) = false) (hdg : (xg == ("__debug__" : Str)) = false) :
    BodyGives prog w K p loose mean mg mb n f qual scope cdv sts m (fun _ news => Stands K news d (dObj w l ep) ∧ (l ≠ [] → (d, dObj w l ep) ∈ news))
      (fun v ex => ex = [] ∧ ∃ t', v = .str (Txt.replace (repls (repls X reps) (lnReps l)) y z) t') := by
  intro A A₀ base outer g' L news s Q S F N h1 hr hpre hQ
  rw [← upd_same hm] at F
  refine exec_chain (cl := []) hk (hkx L) hdx hc hf F N h1 fun h' t' k F' N' hk' => ?_
  refine wpAny_execs_cons (st_entities (cl := []) (s := { s with heap := h', toks := k }) S F' N' hk' hr hme hxe hpre.1 hpre.2 hn lo hlen hg hgn hkp (hkx L) (hke L) (hkg L) hdx hde hdg fun h₂ t₂ k₂ F₂ N₂ hk₂ => ?_)
  refine wpAny_execs_cons (wpAny_Return_some (ev_replace (cl := []) (s := { s with heap := h₂, toks := k₂ }) F₂ (upd_at ..) hk₂ hp hyz hf2.1 hk (hkx L) hdx fun t₃ k₃ hk₃ => ?_))
  exact hQ _ [] h₂ k₃ _ F₂ N₂ (fun _ _ _ hx => nomatch hx) hk₃ ⟨rfl, t₃, rfl⟩
end
end Mine
end

section
open PySem PySem.W PyProof.Rows PyProof.V
set_option maxRecDepth 100000
namespace Mine

/-- a list that is not changed: the call's own, or one from outside -/
def ListAt (h₀ : Heap) (news : List (Addr × Obj)) (l : Addr) (vs : List Value) : Prop := (∃ n, (l, ({ cls := .type "list", data := .seq vs.toArray n } : Obj)) ∈ news) ∨ h₀.IsList l vs.toArray
theorem ListAt.at {h₀ h : Heap} {L l : Addr} {m : Str → Option Value} {news : List (Addr × Obj)} {vs : List Value} (x : ListAt h₀ news l vs) (F : Fr h₀ L h m) (N : News h₀ L h news) : h.IsList l vs.toArray := by
  rcases x with ⟨n, hm⟩ | hl
  · exact ⟨_, (N _ hm).1, rfl, _, rfl⟩
  · exact hl.at fun o e => F.keep l o e
theorem ListAt.ne {h₀ h : Heap} {L l : Addr} {m : Str → Option Value} {news : List (Addr × Obj)} {vs : List Value} (x : ListAt h₀ news l vs) (F : Fr h₀ L h m) (N : News h₀ L h news) : l ≠ L := by
  rcases x with ⟨n, hm⟩ | hl
  · exact (N _ hm).2.1
  · obtain ⟨o, ho, _⟩ := hl
    exact Nat.ne_of_lt (Nat.lt_of_lt_of_le (Heap.lt_size ho) F.above)

section
variable {prog : Program} {w : World} {A : Around} {E : Value → Shared → Prop} {s : Shared} {h₀ : Heap} {L a : Addr} {m : Str → Option Value}
  {cn : Str} {cs : Scope} {ccd : Value} {cl : List (Str × Addr)} {news : List (Addr × Obj)} {target : Expr} {body : List Stmt} {Q : Flow → Shared → Prop}

theorem iter_list {l : Addr} {vs : List Value} (J : Nat → (Str → Option Value) → List (Addr × Obj) → Prop)
    (hh : A.handled = none) (F : Fr h₀ L s.heap m) (N : News h₀ L s.heap news) (hl : ListAt h₀ news l vs) (h0 : J 0 m news)
    (step : ∀ i v m₁ news₁ h₁ tk₁ own I, vs[i]? = some v → J i m₁ news₁ → (∀ p ∈ news₁, p.1 ≠ I) → (∀ p ∈ own, p.1 = I ∨ p.1 = l) → Fr h₀ L h₁ m₁ → News h₀ L h₁ (own ++ news₁) →
      wpAny (model prog w) A (assign target (envX cn cs L a ccd cl) v) (fun _ s₂ => wpAny (model prog w) A (execs body (envX cn cs L a ccd cl))
        (LoopStepV h₀ L [I] own (J (i + 1)) { s with heap := h₁, toks := tk₁ } (fun v s' => Q (.ret v) s') fun s' => Q .next s') E s₂) E { s with heap := h₁, toks := tk₁ })
    (done : ∀ h' tk m' news', Fr h₀ L h' m' → News h₀ L h' news' → J vs.length m' news' → Q .next { s with heap := h', toks := tk }) :
    wpAny (model prog w) A (pyIter (.ref l)) (fun it s₂ => TurnsAt prog w A h₀ (envX cn cs L a ccd cl) target body Q E it s₂) E s := by
  have hls := hl.at F N
  have hne : l ≠ s.heap.objs.size := by obtain ⟨o, ho, _⟩ := hls; exact Nat.ne_of_lt (Heap.lt_size ho)
  refine wpAny_pyIter_list hls ?_
  refine ⟨s.heap.objs.size, [s.heap.objs.size, l], [s.heap.objs.size], vs.length, _, _, _, m, news, J, rfl,
    (by have W := KTurns.ofWalks (target := target) (Walks.list (prog := prog) (w := w) hh s.heap.objs.size l hne vs.toArray) fun i v s Q E st q => letGo_listiter st.1 q
        rw [List.size_toArray] at W; exact W), ?_, ?_, ?_, ?_, F.push _, ?_, h0, ?_, ?_⟩
  · intro hm'
    rcases List.mem_cons.mp hm' with e | e
    · exact absurd F.ns.lt (by rw [show L = s.heap.objs.size from e]; exact Nat.lt_irrefl _)
    · exact hl.ne F N (List.mem_singleton.mp e).symm
  · intro b hb
    rw [List.mem_singleton.mp hb]
    exact next_is_new F
  · intro q hq hI
    exact absurd (Heap.lt_size (N _ hq).1) ((List.mem_singleton.mp hI) ▸ Nat.lt_irrefl _)
  · exact ⟨⟨_, Heap.get?_push_size _ rfl, rfl, rfl⟩, hls.push _⟩
  · exact fun q hq => ⟨Heap.get?_push_of_some _ (N _ hq).1, (N _ hq).2⟩
  · intro i v m₁ news₁ h₁ tk₁ own _ hP hJ hoff hof _ _ _ F₁ N₁
    refine step i v m₁ news₁ h₁ tk₁ own s.heap.objs.size (by have hP' : vs.toArray[i]? = some v := hP; simpa using hP') hJ (fun p hp e => hoff p hp (by simp [e])) (fun p hp => by simpa using hof p hp) F₁ N₁
  · exact fun h' tk m' news' F' N' _ hJ => done h' tk m' news' F' N' hJ

theorem iter_range {x : Str} {px : Pos} {r : Addr} {a₀ b₀ : Int} {t₀ u₀ v₀ : Tok} {n : Nat} (J : Nat → (Str → Option Value) → List (Addr × Obj) → Prop)
    (hh : A.handled = none) (hr : IsRange s.heap r a₀ b₀ 1 t₀ u₀ v₀) (hsmall : Builtin.Range.small a₀ b₀ 1 = true) (hn : Builtin.Range.rangeSize a₀ b₀ 1 = (n : Int)) (F : Fr h₀ L s.heap m) (N : News h₀ L s.heap news) (h0 : J 0 m news)
    (step : ∀ i t m₁ news₁ h₁ tk₁ own I, i < n → J i m₁ news₁ → (∀ p ∈ news₁, p.1 ≠ I) → (∀ p ∈ own, p.1 = I) → Fr h₀ L h₁ m₁ → News h₀ L h₁ (own ++ news₁) →
      wpAny (model prog w) A (assign (.Name x px) (envX cn cs L a ccd cl) (.int (a₀ + (i : Int)) t)) (fun _ s₂ => wpAny (model prog w) A (execs body (envX cn cs L a ccd cl))
        (LoopStepV h₀ L [I] own (J (i + 1)) { s with heap := h₁, toks := tk₁ } (fun v s' => Q (.ret v) s') fun s' => Q .next s') E s₂) E { s with heap := h₁, toks := tk₁ })
    (done : ∀ h' tk m' news', Fr h₀ L h' m' → News h₀ L h' news' → J n m' news' → Q .next { s with heap := h', toks := tk }) :
    wpAny (model prog w) A (pyIter (.ref r)) (fun it s₂ => TurnsAt prog w A h₀ (envX cn cs L a ccd cl) (.Name x px) body Q E it s₂) E s := by
  refine wpAny_pyIter_range hr hsmall ?_
  have W : KTurns prog w A (.Name x px) s.heap.objs.size [s.heap.objs.size] [s.heap.objs.size] n _ _ _ := KTurns.ofWalks (Walks.range hh s.heap.objs.size a₀ 1 n).bound fun i v s Q E st q => wpAny_pure q
  refine ⟨s.heap.objs.size, [s.heap.objs.size], [s.heap.objs.size], n, _, _, _, m, news, J, rfl, W, ?_, ?_, ?_, ?_, F.push _, ?_, h0, ?_, ?_⟩
  · intro hm'
    exact absurd F.ns.lt (by rw [show L = s.heap.objs.size from List.mem_singleton.mp hm']; exact Nat.lt_irrefl _)
  · intro b hb
    rw [List.mem_singleton.mp hb]
    exact next_is_new F
  · intro q hq hI
    exact absurd (Heap.lt_size (N _ hq).1) ((List.mem_singleton.mp hI) ▸ Nat.lt_irrefl _)
  · show IsRangeIter _ _ _ _ _
    rw [hn]; simpa using Heap.get?_push_size _ rfl
  · exact fun q hq => ⟨Heap.get?_push_of_some _ (N _ hq).1, (N _ hq).2⟩
  · rintro i v m₁ news₁ h₁ tk₁ own _ ⟨hi, t, rfl⟩ hJ hoff hof _ _ _ F₁ N₁
    have := step i t m₁ news₁ h₁ tk₁ own s.heap.objs.size hi hJ (fun p hp e => hoff p hp (by simp [e])) (fun p hp => by simpa using hof p hp) F₁ N₁
    rw [Int.mul_one]
    exact this
  · exact fun h' tk m' news' F' N' _ hJ => done h' tk m' news' F' N' hJ
end
end Mine
end

section
open PySem PySem.W PyProof.Rows PyProof.V PySem.Calls
set_option maxRecDepth 100000
namespace Mine

section
variable {prog : Program} {w : World} {M : Model} {A : Around} {E : Value → Shared → Prop} {s : Shared} {K : Frag} {h₀ : Heap} {L : Addr} {m m₂ : Str → Option Value} {env : Env} {news : List (Addr × Obj)} {p : Program} {loose : List Str} {mg mb : Str → Option Value}
  {scope : Scope} {cl : List (Str × Addr)} {C c : Addr} {x : Str} {pos : Pos} {v : Value} {o : Obj} {Q : Value → Shared → Prop}

theorem nsObj_ns {oC : Obj} (h : LCg.NsObj oC m₂) {hp : Heap} (hg : hp.get? C = some oC) : hp.Ns C m₂ := by
  obtain ⟨es, ep, hd, hk, hf⟩ := h
  exact ⟨oC, es, ep, hg, hd, hk, hf⟩

/-- names within a comprehension -/
theorem cname_L (hn : s.heap.Ns C m₂) (hv : m₂ x = some v) (h : Q v s)
    (hk : (compEnvC scope cl C env).scope.kind = .function) (hx : (compEnvC scope cl C env).kindOf x = some .local) (hd : (x == ("__debug__" : Str)) = false) :
    wpAny M A (eval (.Name x pos) (compEnvC scope cl C env)) Q E s := wpAny_Name (wpAny_loadName_local hk hx hn hv h) hd
theorem cname_C (N : News h₀ L s.heap news) (hc : cl.lookup x = some c) (hm : (c, o) ∈ news) (hd : o.data = .cell (some v)) (h : Q v s)
    (hk : (compEnvC scope cl C env).scope.kind = .function) (hx : (compEnvC scope cl C env).kindOf x = some .cell) (hb : (x == ("__debug__" : Str)) = false) :
    wpAny M A (eval (.Name x pos) (compEnvC scope cl C env)) Q E s := wpAny_Name (wpAny_loadName_cell hk hx hc ⟨o, N.get hm, hd⟩ h) hb
theorem cname_K (F : Fr h₀ L s.heap m) (X : K.In h₀) (T : TopRead p loose mg mb h₀) (e : nsIn K mainGlobals x = some (some v)) (h : Q v s) (hg : env.globals = mainGlobals)
    (hk : (compEnvC scope cl C env).scope.kind = .function) (hx : (compEnvC scope cl C env).kindOf x = some .globalImplicit) (hd : (x == ("__debug__" : Str)) = false) :
    wpAny M A (eval (.Name x pos) (compEnvC scope cl C env)) Q E s :=
  Name_function_global hk hx (loadGlobal_global (env := compEnvC scope cl C env) (by show s.heap.Ns env.globals mg; rw [hg]; exact T.g.keeps F.keep) (mg_of X T.g e) h) hd

/-- [elt for x in iter]: iter a list, the elements plain -/
theorem comp_list {elt iter : Expr} {px : Pos} (R : Nat → Value → Prop) (hh : A.handled = none) (F : Fr h₀ L s.heap m)
    (hcl : closureFor scope env = pure cl) (hcell : ∀ y ∈ scope.names, y.2 ≠ .cell) (hk : scope.kind = .function) (hloc : ∀ y ∈ scope.names, y.2 = .local → scope.names.lookup y.1 = some .local) (hx : scope.names.lookup x = some .local)
    (hs : ∀ x, foldedSetIterable iter env x = pure x)
    (h : wpAny (model prog w) A (eval iter env) (fun xv s₁ => ∃ ax vs news, xv = .ref ax ∧ Fr h₀ L s₁.heap m ∧ News h₀ L s₁.heap news ∧ ListAt h₀ news ax vs ∧ vs.length ≤ sizeLine ∧
      (∀ i v C m₂ own s₂, vs[i]? = some v → s₂.heap.Ns C m₂ → m₂ x = some v → Fr h₀ L s₂.heap m → News h₀ L s₂.heap (own ++ news) →
        wpAny (model prog w) A (eval elt (compEnvC scope cl C env)) (fun y s₃ => ∃ h' tk, s₃ = { s₂ with heap := h', toks := tk } ∧ Fr h₀ L h' m ∧ News h₀ L h' (own ++ news) ∧ R i y) (fun _ _ => False) s₂) ∧
      (∀ ys D h' tk, ys.length = vs.length → (∀ i y, ys[i]? = some y → R i y) → Fr h₀ L h' m → News h₀ L h' ((D, LCg.lst ys) :: news) → (∀ q ∈ news, q.1 ≠ D) → Q (.ref D) { s₁ with heap := h', toks := tk })) E s) :
    wpAny (model prog w) A (eval (.ListComp elt [⟨.Name x px, iter, [], 0⟩] scope pos) env) Q E s := by
  refine LCg.ListComp_U (F₀ := F) hcl hcell hk hloc hx (wpAny_mono h ?_ fun _ _ x => x) hs
  rintro xv s₁ ⟨ax, vs, news, rfl, F₁, N₁, hl, hlen, step, fin⟩
  have hsrc : LCg.SrcAt h₀ ax vs.toArray news := by
    rcases hl with ⟨n, hm⟩ | hl
    · exact .inr ⟨_, hm, rfl, n, rfl⟩
    · exact .inl hl
  refine .inl ⟨ax, vs.toArray, news, rfl, hh, F₁, N₁, hsrc, by rw [List.size_toArray]; exact hlen, ?_⟩
  rintro s₂ ⟨hp₂, rfl⟩
  rw [List.size_toArray]
  have key : ∀ (j i : Nat) (ys : List Value), i + j = vs.length → ys.length = i → (∀ k y, ys[k]? = some y → R k y) →
      LCg.CompRest prog w A h₀ L m env elt x scope cl { s₁ with heap := hp₂ } (LCg.SrcAt h₀ ax vs.toArray) (fun i v => vs.toArray[i]? = some v) (LCg.FinE h₀ L m { s₁ with heap := hp₂ } Q) j i ys news := by
    intro j
    induction j with
    | zero =>
      intro i ys hi hy hR
      refine LCg.CompRest.zero fun D h' tk F' N' off => ?_
      refine fin ys D h' tk (by omega) hR F' N' ?_
      clear fin step N' N₁ hl hsrc
      induction news with
      | nil => intro q hq; nomatch hq
      | cons r rs ih =>
        intro q hq
        rcases List.mem_cons.mp hq with rfl | hq
        · exact off.1
        · exact ih off.2 q hq
    | succ j ih =>
      intro i ys hi hy hR
      refine LCg.CompRest.succ fun v I oI C oC D m₂ h' tk E' hv hC hxv F' N' off ne => ?_
      have hv' : vs[i]? = some v := by have q : vs.toArray[i]? = some v := hv; simpa using q
      refine wpAny_mono (step i v C m₂ [(I, oI), (C, oC), (D, LCg.lst ys)] _ hv' (nsObj_ns hC (N' _ (.tail _ (.head _))).1) hxv F' N') ?_ (fun _ _ x => x.elim)
      rintro y s₃ ⟨h₃, tk₃, rfl, F₃, N₃, hRy⟩
      refine ⟨h₃, tk₃, news, rfl, F₃, N₃, off, hsrc, ih (i + 1) (ys ++ [y]) (by omega) (by simp [hy]) ?_⟩
      intro k z hz
      rcases Nat.lt_trichotomy k ys.length with hk' | hk' | hk'
      · rw [List.getElem?_append_left hk'] at hz; exact hR k z hz
      · subst hk'
        simp at hz
        rw [hy, ← hz]; exact hRy
      · rw [List.getElem?_append_right (by omega), List.getElem?_eq_none (by simp; omega)] at hz
        cases hz
  exact key vs.length 0 [] (by omega) rfl (by simp)
end
end Mine
end

section
open PySem PySem.W PyProof.Rows PyProof.V PySem.Calls
set_option maxRecDepth 100000
namespace Mine

abbrev IsKI (h : Heap) (it d : Addr) (i n ep : Nat) : Prop :=
  h.get? it = some { cls := .type "dict_keyiterator", dict := none, data := .fields #[.ref d, .int i 0, .int n 0, .int ep 0], slots := #[] }
theorem IsKI.key {h : Heap} {it d : Addr} {i n ep : Nat} (x : IsKI h it d i n ep) : h.IsKeyIter it d i n ep := ⟨_, x, rfl, rfl⟩

section
variable {prog : Program} {w : World} {A : Around} {E : Value → Shared → Prop} {s : Shared}

/-- a key iterator's next key, as the table holds it -/
theorem next_key {it d : Addr} {i n ep : Nat} {od : Obj} {es : Array DictEntry} {e : DictEntry} {Q : Option Value → Shared → Prop}
    (hit : IsKI s.heap it d i n ep) (hd : s.heap.get? d = some od) (hdd : od.data = .dict es ep) (hn : es.size = n) (he : es[i]? = some e)
    (hQ : ∀ h', IsKI h' it d (i + 1) n ep → Heap.SameBut it s.heap h' → Q (some e.key) { s with heap := h' }) :
    wpAny (model prog w) A (pyNext (.ref it)) Q E s := by
  have hT : s.TypeIs (.ref it) "dict_keyiterator" := ⟨_, hit, rfl⟩
  have hown : Builtin.Dict_items.ownsTuple "dict_keyiterator" = false := by decide
  unfold pyNext
  refine wpAny_bind (wpAny_attempt (wpAny_callSpecial?_slot (name := Str.ofString "__next__") hT F.slot_dict_keyiterator_next (wpAny_call_entry F.slot_dict_keyiterator_next hT F.entry_dict_keyiterator_next ?_ (F.args_dict_keyiterator_next_1 _))))
  refine wpAny_bind (wpAny_pure (wpAny_bind (wpAny_bind (wpAny_bind (wpAny_typeNameOfWhole_keyiter hT (wpAny_pure (wpAny_bind (wpAny_fieldsOf hit rfl ?_))))))))
  simp only [hown, Bool.false_eq_true, if_false]
  show wpAny _ _ (if (Value.ref d == Value.none) = true then _ else _) _ _ _
  rw [if_neg (show ¬ ((Value.ref d == Value.none) = true) from Bool.false_ne_true)]
  refine wpAny_bind (wpAny_pure (wpAny_bind (wpAny_dictEntries hd hdd ?_)))
  rw [if_neg (by simp [hn])]
  refine wpAny_bind (wpAny_pure (wpAny_bind (wpAny_dictEpoch hd hdd ?_)))
  rw [if_neg (by simp)]
  refine wpAny_pure ?_
  simp only [show ¬ ((i : Int) < 0) from by omega, if_false, Int.toNat_natCast, he]
  refine wpAny_bind (wpAny_bind (wpAny_typeNameOfWhole_keyiter hT (wpAny_pure (wpAny_bind (wpAny_isOneOf_keyiter hT ?_)))))
  simp only [hown, Bool.false_eq_true, if_false]
  refine wpAny_bind (wpAny_setField_rec (k := 1) (x := rawInt ((i : Int) + 1)) hit (by simp) fun h₁ e₁ b₁ => ?_)
  have e₂ : IsKI h₁ it d (i + 1) n ep := by simpa [rawInt, IsKI] using e₁
  refine wpAny_bind (wpAny_holding (wpAny_bind (wpAny_isOneOf_keyiter (s := { s with heap := h₁ }) e₂.key.typeIs ?_)))
  show wpAny _ _ (pure e.key) _ _ _
  exact wpAny_pure (wpAny_pure ⟨_, rfl, wpAny_pure (hQ h₁ e₂ b₁)⟩)

/-- a new key at a dict's end -/
theorem dictSet_new {d : Addr} {l : List Ln} {ep : Nat} {k : Str} {t : Tok} {v : Str} {u : Tok} {Q : Unit → Shared → Prop} (hd : s.heap.get? d = some (dObj w l ep)) (hk : k ∉ l.map (·.1)) (hl : l.length < sizeLine)
    (hQ : ∀ h', h'.get? d = some (dObj w (l ++ [(k, t, v, u)]) (ep + 1)) → Heap.SameBut d s.heap h' → Q () { s with heap := h', toks := s.toks + 1 }) :
    wpAny (model prog w) A (dictSet d (.str k t) (.str v u)) Q E s := by
  have hkey := strKind_is prog w k t
  have hks : KeysOf (strKind prog w) (l.map (lnE w)).toArray := by
    intro e he
    have he' : e ∈ l.map (lnE w) := by simpa using he
    obtain ⟨x, _, rfl⟩ := List.mem_map.mp he'
    exact ⟨x.1, strKind_is prog w x.1 x.2.1, rfl⟩
  unfold dictSet
  try with_reducible refine wpAny_holding ?_
  refine wpAny_bind ((strKind prog w).pyHash hkey ?_)
  unfold dictSetHashed
  try with_reducible refine wpAny_holding ?_
  refine wpAny_bind (wpAny_dictFind_of (knd := strKind prog w) (s := { s with toks := s.toks + 1 }) hkey hd rfl hks ?_)
  have hi : ((l.map (lnE w)).toArray.findIdx? fun e => (strKind prog w).is k e.key) = none := by
    rw [Array.findIdx?_eq_none_iff]
    intro e he
    have he' : e ∈ l.map (lnE w) := by simpa using he
    obtain ⟨x, hx, rfl⟩ := List.mem_map.mp he'
    show Value.isStrOf k (.str x.1 x.2.1) = false
    cases hq : Value.isStrOf k (.str x.1 x.2.1) with
    | false => rfl
    | true =>
      obtain ⟨t', e'⟩ := Value.isStrOf_shape hq
      injection e' with e1
      exact absurd (List.mem_map.mpr ⟨x, hx, e1⟩) hk
  rw [hi]
  refine wpAny_bind (wpAny_rule (wpAny_updateDictKeys (hz := by simp; omega) (s := { s with toks := s.toks + 1 }) hd rfl (hQ _ ?_ (Heap.SameBut.update ..))))
  refine (Heap.get?_update_self _ hd rfl).trans ?_
  simp [dObj, Obj.mapDictKeys, lnE]
  rfl
end
end Mine
end

section
open PySem PySem.W PyProof.Rows PyProof.V PySem.Calls
set_option maxRecDepth 100000
namespace Mine

theorem fr_fresh {h₀ h : Heap} {L a : Addr} {m : Str → Option Value} (F : Fr h₀ L h m) (ha : h.objs.size ≤ a) : a ≠ L ∧ h₀.get? a = none := by
  have h1 := F.ns.lt
  refine ⟨Nat.ne_of_gt (Nat.lt_of_lt_of_le h1 ha), ?_⟩
  cases e : h₀.get? a with
  | none => rfl
  | some o => exact absurd (Heap.lt_size e) (Nat.not_lt.mpr (Nat.le_trans F.above (Nat.le_trans (Nat.le_of_lt h1) ha)))
theorem fr_but {h₀ h h' : Heap} {L I : Addr} {m : Str → Option Value} (F : Fr h₀ L h m) (hk : ∀ b o, b ≠ I → h.get? b = some o → h'.get? b = some o) (hL : I ≠ L) (hI : h₀.get? I = none) : Fr h₀ L h' m :=
  ⟨F.ns.at' fun o e => hk L o hL.symm e, fun b o e => hk b o (fun q => by rw [q, hI] at e; cases e) (F.keep b o e), F.above⟩
theorem news_but {h₀ h h' : Heap} {L I : Addr} {news : List (Addr × Obj)} (N : News h₀ L h news) (hk : ∀ b o, b ≠ I → h.get? b = some o → h'.get? b = some o) (hI : ∀ p ∈ news, p.1 ≠ I) : News h₀ L h' news :=
  fun p hp => ⟨hk _ _ (hI p hp) (N p hp).1, (N p hp).2⟩

section
variable {prog : Program} {w : World} {A : Around} {E : Value → Shared → Prop} {s : Shared} {h₀ : Heap} {L : Addr} {m : Str → Option Value} {env : Env} {news : List (Addr × Obj)}
  {scope : Scope} {cl : List (Str × Addr)} {x : Str} {Q : Value → Shared → Prop}

/-- {kx: vx for x in d}: d a dict of texts; each line makes one line -/
theorem comp_dict_keys {kx vx iter : Expr} {px pos : Pos} {d : Addr} {l : List Ln} {ep : Nat} (f : Ln → Ln) (hh : A.handled = none) (F : Fr h₀ L s.heap m) (N : News h₀ L s.heap news)
    (hd : (d, dObj w l ep) ∈ news) (hn : (l.map (·.1)).Nodup) (lo : (d == sysModules) = false) (hlen : l.length ≤ 1000) (hfn : ((l.map f).map (·.1)).Nodup) (hlim : h₀.NoLimit)
    (hcl : closureFor scope env = pure cl) (hcell : ∀ y ∈ scope.names, y.2 ≠ .cell) (hk : scope.kind = .function) (hloc : ∀ y ∈ scope.names, y.2 = .local → scope.names.lookup y.1 = some .local) (hx : scope.names.lookup x = some .local)
    (hs : ∀ x, foldedSetIterable iter env x = pure x)
    (hit : ∀ Q : Value → Shared → Prop, Q (.ref d) s → wpAny (model prog w) A (eval iter env) Q E s)
    (stepk : ∀ e C m₂ own s₂, e ∈ l → s₂.heap.Ns C m₂ → m₂ x = some (.str e.1 e.2.1) → Fr h₀ L s₂.heap m → News h₀ L s₂.heap (own ++ news) →
      wpAny (model prog w) A (eval kx (compEnvC scope cl C env)) (fun y s₃ => y = .str (f e).1 (f e).2.1 ∧ ∃ h' tk, s₃ = { s₂ with heap := h', toks := tk } ∧ Fr h₀ L h' m ∧ News h₀ L h' (own ++ news)) (fun _ _ => False) s₂)
    (stepv : ∀ e C m₂ own s₂, e ∈ l → s₂.heap.Ns C m₂ → m₂ x = some (.str e.1 e.2.1) → Fr h₀ L s₂.heap m → News h₀ L s₂.heap (own ++ news) →
      wpAny (model prog w) A (eval vx (compEnvC scope cl C env)) (fun y s₃ => y = .str (f e).2.2.1 (f e).2.2.2 ∧ ∃ h' tk, s₃ = { s₂ with heap := h', toks := tk } ∧ Fr h₀ L h' m ∧ News h₀ L h' (own ++ news)) (fun _ _ => False) s₂)
    (fin : ∀ D h' tk, Fr h₀ L h' m → News h₀ L h' ((D, dObj w (l.map f) l.length) :: news) → (∀ q ∈ news, q.1 ≠ D) → (D == sysModules) = false → Q (.ref D) { s with heap := h', toks := tk }) :
    wpAny (model prog w) A (eval (.DictComp kx vx [⟨.Name x px, iter, [], 0⟩] scope pos) env) Q E s := by
  rw [arm_eval_DictComp]
  have hdg := (N _ hd).1
  have hll : (lnKvs l).length = l.length := by simp [lnKvs]
  refine wpAny_comprehension_free (use := none) rfl hs hcl hk hloc (hit _ (wpAny_pyIter_dict (knd := PySem.strKind prog w) lo (dObj_at hdg hn) ?_))
  rw [hll]
  have FI := F.push { cls := .type "dict_keyiterator", data := .fields #[.ref d, .int 0 0, .int l.length 0, .int ep 0] }
  have hI := Heap.get?_push_size s.heap (o := { cls := .type "dict_keyiterator", data := .fields #[.ref d, .int 0 0, .int l.length 0, .int ep 0] }) rfl
  have NI : News h₀ L (s.heap.push { cls := .type "dict_keyiterator", data := .fields #[.ref d, .int 0 0, .int l.length 0, .int ep 0] }) news := fun q hq => ⟨Heap.get?_push_of_some _ (N q hq).1, (N q hq).2⟩
  have zI : (s.heap.push { cls := .type "dict_keyiterator", data := .fields #[.ref d, .int 0 0, .int l.length 0, .int ep 0] }).objs.size = s.heap.objs.size + 1 := Heap.size_push ..
  generalize hHI : s.heap.push { cls := .type "dict_keyiterator", data := .fields #[.ref d, .int 0 0, .int l.length 0, .int ep 0] } = HI at FI hI NI zI ⊢
  refine wpAny_newObj_type (wpAny_newFunctionEnv hcell (by intro y hy; simp at hy) (fun h₁ hns₁ hsb₁ => ?_) hk)
  dsimp only at hns₁ hsb₁ ⊢
  have FD := FI.push { cls := .type "dict", dict := none, data := .dict #[] }
  have hDg := Heap.get?_push_size HI (o := { cls := .type "dict", dict := none, data := .dict #[] }) rfl
  have hI2 := Heap.get?_push_of_some { cls := .type "dict", dict := none, data := .dict #[] } hI
  have ND : News h₀ L (HI.push { cls := .type "dict", dict := none, data := .dict #[] }) news := fun q hq => ⟨Heap.get?_push_of_some _ (NI q hq).1, (NI q hq).2⟩
  have zD : (HI.push { cls := .type "dict", dict := none, data := .dict #[] }).objs.size = s.heap.objs.size + 2 := by rw [Heap.size_push, zI]
  rw [zI] at hDg ⊢
  generalize hHD : HI.push { cls := .type "dict", dict := none, data := .dict #[] } = HD at FD hDg hI2 ND zD hns₁ hsb₁ ⊢
  rw [zD] at hns₁ hsb₁ ⊢
  have keep₁ : ∀ b o, b < s.heap.objs.size + 2 → HD.get? b = some o → h₁.get? b = some o := fun b o hb e => hsb₁.extBut b o (Nat.ne_of_lt hb) (Heap.get?_push_of_some _ e)
  have szL := F.ns.lt
  have szn : ∀ q ∈ news, q.1 < s.heap.objs.size := fun q hq => Heap.lt_size (N q hq).1
  have F₁ : Fr h₀ L h₁ m := fr_but FD (fun b o hb e => keep₁ b o (by have := Heap.lt_size e; rw [zD] at this; exact this) e) (fr_fresh F (a := s.heap.objs.size + 2) (by omega)).1 (fr_fresh F (a := s.heap.objs.size + 2) (by omega)).2
  have N₁ : News h₀ L h₁ news := fun q hq => ⟨keep₁ _ _ (Nat.lt_trans (szn q hq) (by omega)) (ND q hq).1, (ND q hq).2⟩
  have freshI := fr_fresh F (a := s.heap.objs.size) (Nat.le_refl _)
  have freshD := fr_fresh F (a := s.heap.objs.size + 1) (by omega)
  have freshC := fr_fresh F (a := s.heap.objs.size + 2) (by omega)
  have nI : ∀ q ∈ news, q.1 ≠ s.heap.objs.size := fun q hq => Nat.ne_of_lt (szn q hq)
  have nD : ∀ q ∈ news, q.1 ≠ s.heap.objs.size + 1 := fun q hq => Nat.ne_of_lt (Nat.lt_trans (szn q hq) (by omega))
  have nC : ∀ q ∈ news, q.1 ≠ s.heap.objs.size + 2 := fun q hq => Nat.ne_of_lt (Nat.lt_trans (szn q hq) (by omega))
  have loD : (s.heap.objs.size + 1 == sysModules) = false := beq_eq_false_iff_ne.mpr (Nat.ne_of_gt (Nat.lt_of_lt_of_le (modules_low hlim) (Nat.le_trans F.above (Nat.le_of_lt (Nat.lt_trans szL (Nat.lt_succ_self _))))))
  generalize s.heap.objs.size = Z at *
  have e20 : (Z + 2 : Nat) ≠ Z := by omega
  have e02 : (Z : Nat) ≠ Z + 2 := by omega
  have e12 : (Z + 1 : Nat) ≠ Z + 2 := by omega
  have e21 : (Z + 2 : Nat) ≠ Z + 1 := by omega
  have e10 : (Z + 1 : Nat) ≠ Z := by omega
  have e01 : (Z : Nat) ≠ Z + 1 := by omega
  let cenv := compEnvC scope cl (Z + 2) env
  have hkx : cenv.kindOf x = some .local := lookup_relabel_local hx
  have hpk : (cenv.scope.kind == .class || (cenv.scope.kind == .module && cenv.locals != cenv.globals)) = false := by simp [cenv, compEnvC, relabel, hk]
  have loop : ∀ s₃ : Shared, s₃ = { s with heap := h₁, toks := s.toks + ([] : List (Str × Value)).length } →
      codeAny (model prog w) A (.compLoop (.DictComp kx vx [⟨.Name x px, iter, [], 0⟩] scope pos) 0 (.ref Z) (.ref (Z + 1)) cenv) (compPost (model prog w) A E none Q (.ref (Z + 1)) (Z + 2)) s₃ := by
    rintro s₃ rfl
    refine codeAny_compLoop_testsD (fun k s' => ∃ i h' tk m', s' = { s with heap := h', toks := tk } ∧ i ≤ l.length ∧ k = l.length + 1 - i ∧ IsKI h' Z d i l.length ep ∧ h'.Ns (Z + 2) m' ∧
      h'.get? (Z + 1) = some (dObj w ((l.take i).map f) i) ∧ Fr h₀ L h' m ∧ News h₀ L h' news) ?_ (l.length + 1)
      ⟨0, h₁, _, _, rfl, Nat.zero_le _, rfl, keep₁ _ _ (by omega) hI2, hns₁, by simpa [dObj] using keep₁ _ _ (by omega) hDg, F₁, N₁⟩
    rintro k s' ⟨i, h', tk, m', rfl, hi, rfl, hit', hns', hD', F', N'⟩
    have hdg' := (N' _ hd).1
    by_cases hlt : i < l.length
    · have hle : l[i]? = some l[i] := by simp [hlt]
      have hmem : l[i] ∈ l := List.getElem_mem hlt
      refine next_key (e := lnE w l[i]) hit' hdg' rfl (by simp) (by simp [hlt]) fun h₂ hit₂ hs₂ => ?_
      have k₂ : ∀ b o, b ≠ Z → h'.get? b = some o → h₂.get? b = some o := fun b o hb e => hs₂.extBut b o hb e
      have hns₂ := hns'.sameBut hs₂ e20
      refine wpAny_assign_Name (wpAny_storeName_local hkx hns₂ (fun h₃ hns₃ hs₃ => ?_) hpk)
      have k₃ : ∀ b o, b ≠ Z + 2 → h₂.get? b = some o → h₃.get? b = some o := fun b o hb e => hs₃.extBut b o hb e
      have F₃ : Fr h₀ L h₃ m := fr_but (fr_but F' k₂ freshI.1 freshI.2) k₃ freshC.1 freshC.2
      have N₃ : News h₀ L h₃ news := news_but (news_but N' k₂ nI) k₃ nC
      have hit₃ : IsKI h₃ Z d (i + 1) l.length ep := k₃ _ _ e02 hit₂
      have hD₃ := k₃ _ _ e12 (k₂ _ _ e10 hD')
      obtain ⟨oC, esC, epC, hC, r⟩ := id hns₃
      have own : News h₀ L h₃ ([(Z, { cls := .type "dict_keyiterator", dict := none, data := .fields #[.ref d, .int (i + 1 : Nat) 0, .int l.length 0, .int ep 0], slots := #[] }), (Z + 1, dObj w ((l.take i).map f) i), (Z + 2, oC)] ++ news) := by
        intro q hq
        simp only [List.cons_append, List.nil_append, List.mem_cons] at hq
        rcases hq with rfl | rfl | rfl | hq
        · exact ⟨hit₃, freshI.1, freshI.2⟩
        · exact ⟨hD₃, freshD.1, freshD.2⟩
        · exact ⟨hC, freshC.1, freshC.2⟩
        · exact N₃ q hq
      refine wpAny_pure ?_
      simp only [if_true]
      refine wpAny_mono (stepk l[i] (Z + 2) _ _ { s with heap := h₃, toks := tk + 1 } hmem hns₃ (by simp [lnE]) F₃ own) ?_ (fun _ _ q => q.elim)
      rintro y s₄ ⟨rfl, h₄, tk₄, rfl, F₄, N₄⟩
      have hC₄ := (N₄ (Z + 2, oC) (.tail _ (.tail _ (.head _)))).1
      refine wpAny_mono (stepv l[i] (Z + 2) _ _ { s with heap := h₄, toks := tk₄ } hmem ⟨oC, esC, epC, hC₄, r⟩ (by simp [lnE]) F₄ N₄) ?_ (fun _ _ q => q.elim)
      rintro y s₅ ⟨rfl, h₅, tk₅, rfl, F₅, N₅⟩
      have hC₅ := (N₅ (Z + 2, oC) (.tail _ (.tail _ (.head _)))).1
      have hI₅ := (N₅ (Z, _) (.head _)).1
      have hD₅ := (N₅ (Z + 1, _) (.tail _ (.head _))).1
      have htk : (l.take (i + 1)).map f = (l.take i).map f ++ [f l[i]] := by rw [List.take_add_one, hle, List.map_append]; rfl
      refine dictSet_new (k := (f l[i]).1) (t := (f l[i]).2.1) (v := (f l[i]).2.2.1) (u := (f l[i]).2.2.2) hD₅ ?_ (by rw [sizeLine_eq, List.length_map, List.length_take]; omega) fun h₆ hD₆ hs₆ => ?_
      · have hsub : (((l.take (i + 1)).map f).map (·.1)).Nodup := by
          rw [List.map_take, List.map_take]
          exact hfn.sublist (List.take_sublist ..)
        rw [htk, List.map_append, List.nodup_append] at hsub
        intro hin
        exact hsub.2.2 _ hin _ (by simp) rfl
      · have k₆ : ∀ b o, b ≠ Z + 1 → h₅.get? b = some o → h₆.get? b = some o := fun b o hb e => hs₆.extBut b o hb e
        have N₅' : News h₀ L h₅ news := fun q hq => N₅ q (by simp [hq])
        exact ⟨_, by omega, i + 1, h₆, _, _, rfl, hlt, rfl, k₆ _ _ e01 hI₅, ⟨oC, esC, epC, k₆ _ _ e21 hC₅, r⟩, by rw [htk]; exact hD₆, fr_but F₅ k₆ freshD.1 freshD.2, news_but N₅' k₆ nD⟩
    · have hin : i = l.length := by omega
      subst hin
      have hit'' : h'.IsKeyIter Z d l.length (lnKvs l).length ep := by rw [hll]; exact hit'.key
      refine wpAny_pyNext_dict_end (knd := PySem.strKind prog w) (kvs := lnKvs l) hh hit'' (dObj_at hdg' hn) (by simp [lnKvs]) fun h₂ hs₂ => ?_
      refine ⟨m', hns'.extBut hs₂ e20, fun h₃ hs₃ => ?_⟩
      have k₂ : ∀ b o, b ≠ Z → h'.get? b = some o → h₂.get? b = some o := fun b o hb e => hs₂ b o hb e
      have k₃ : ∀ b o, b ≠ Z + 2 → h₂.get? b = some o → h₃.get? b = some o := fun b o hb e => hs₃.extBut b o hb e
      refine fin (Z + 1) h₃ tk (fr_but (fr_but F' k₂ freshI.1 freshI.2) k₃ freshC.1 freshC.2) ?_ nD loD
      intro q hq
      rcases List.mem_cons.mp hq with rfl | hq
      · rw [List.take_length] at hD'
        exact ⟨k₃ _ _ e12 (k₂ _ _ e10 hD'), freshD⟩
      · exact news_but (news_but N' k₂ nI) k₃ nC q hq
  have hKI : IsKI h₁ Z d 0 l.length ep := keep₁ _ _ (by omega) hI2
  exact codeAny_compStart_dict (loop _ rfl) (wpAny_pyIter_keyiter (IsKI.key hKI) (loop _ rfl))
end
end Mine
end

section
open PySem PySem.W PyProof.Rows PyProof.V PySem.Calls
set_option maxRecDepth 100000
namespace Mine

/-- written lines, their tokens drawn from t on -/
def lnFrom : Nat → List (Str × Str) → List Ln
  | _, [] => []
  | t, (k, v) :: r => (k, t, v, t + 1) :: lnFrom (t + 2) r
theorem lnFrom_length : ∀ (t : Nat) (r : List (Str × Str)), (lnFrom t r).length = r.length
  | _, [] => rfl
  | t, _ :: r => by simp [lnFrom, lnFrom_length (t + 2) r]
theorem lnFrom_ok : ∀ (t : Nat) (r : List (Str × Str)), 1 ≤ t → ∀ e ∈ lnFrom t r, LnOk e
  | _, [], _, e, he => nomatch he
  | t, (k, v) :: r, h, e, he => by
    rcases List.mem_cons.mp he with rfl | he
    · exact ⟨Nat.pos_iff_ne_zero.mp h, Nat.succ_ne_zero _, Nat.ne_of_lt (Nat.lt_succ_self _)⟩
    · exact lnFrom_ok (t + 2) r (by omega) e he
theorem lnFrom_reps : ∀ (t : Nat) (r : List (Str × Str)), lnReps (lnFrom t r) = r
  | _, [] => rfl
  | t, (k, v) :: r => by
    have := lnFrom_reps (t + 2) r
    simp only [lnReps] at this
    simp [lnFrom, lnReps, this]
theorem lnFrom_keys (t : Nat) (r : List (Str × Str)) : (lnFrom t r).map (·.1) = r.map (·.1) := by
  have := congrArg (List.map (·.1)) (lnFrom_reps t r)
  simpa [lnReps, Function.comp_def] using this
def lnVals (l : List Ln) : List (Value × Value) := l.map fun e => (.str e.1 e.2.1, .str e.2.2.1 e.2.2.2)

inductive DPairs : List (Option Expr) → List Expr → List (Str × Str) → Prop
  | nil : DPairs [] [] []
  | cons {k v : Str} {n1 n2 : Nat} {p1 p2 : Pos} {ks : List (Option Expr)} {vs : List Expr} {r : List (Str × Str)} : DPairs ks vs r → DPairs (some (.Constant (.str k) n1 p1) :: ks) (.Constant (.str v) n2 p2 :: vs) ((k, v) :: r)
theorem DPairs.some {ks : List (Option Expr)} {vs : List Expr} {r : List (Str × Str)} (h : DPairs ks vs r) : ks.all (·.isSome) = true := by induction h with | nil => rfl | cons _ ih => simpa using ih
theorem DPairs.len {ks : List (Option Expr)} {vs : List Expr} {r : List (Str × Str)} (h : DPairs ks vs r) : ks.length = vs.length ∧ ks.length = r.length := by induction h with | nil => exact ⟨rfl, rfl⟩ | cons _ ih => simp [ih.1, ← ih.2]

section
variable {prog : Program} {w : World} {A : Around} {E : Value → Shared → Prop} {env : Env}

theorem pairs_consts {ks : List (Option Expr)} {vs : List Expr} {r : List (Str × Str)} (h : DPairs ks vs r) {pos : Pos} : ∀ {s : Shared} {Q : List (Value × Value) → Shared → Prop}, Q (lnVals (lnFrom s.toks r)) { s with toks := s.toks + 2 * r.length } →
    wpAny (model prog w) A (evalPairs (pairTrees ks vs env pos)) Q E s := by
  induction h with
  | nil => intro s Q hQ; exact pairTrees_nil_walk (by simpa [lnVals, lnFrom] using hQ)
  | cons _ ih =>
    intro s Q hQ
    refine pairTrees_cons_walk (Constant_str (Constant_str (ih ?_)))
    simp only [lnVals, lnFrom, List.map_cons, List.length_cons] at hQ ⊢
    have e : s.toks + 1 + 1 = s.toks + 2 := rfl
    have e2 : ∀ n : Nat, s.toks + 2 + 2 * n = s.toks + 2 * (n + 1) := fun n => by omega
    rw [e, e2]; exact hQ

theorem store_lines {d : Addr} : ∀ (l acc : List Ln) (s : Shared) (ep : Nat) (Q : PUnit → Shared → Prop), s.heap.get? d = some (dObj w acc ep) → ((acc ++ l).map (·.1)).Nodup → acc.length + l.length ≤ 1000 →
    (∀ h', h'.get? d = some (dObj w (acc ++ l) (ep + l.length)) → Heap.SameBut d s.heap h' → Q PUnit.unit { s with heap := h', toks := s.toks + l.length }) →
    wpAny (model prog w) A (forIn (lnVals l) PUnit.unit fun (x : Value × Value) (_ : PUnit) => (do dictSet d x.1 x.2; pure (ForInStep.yield PUnit.unit) : Sem (ForInStep PUnit))) Q E s
  | [], acc, s, ep, Q, hd, _, _, hQ => by
    show wpAny _ _ (forIn [] _ _) _ _ _
    rw [List.forIn_nil]
    exact wpAny_pure (by simpa using hQ s.heap (by simpa using hd) (Heap.SameBut.refl _ _))
  | e :: r, acc, s, ep, Q, hd, hn, hl, hQ => by
    show wpAny _ _ (forIn ((Value.str e.1 e.2.1, Value.str e.2.2.1 e.2.2.2) :: lnVals r) _ _) _ _ _
    rw [List.forIn_cons]
    have hn' : e.1 ∉ acc.map (·.1) := by
      rw [List.map_append, List.nodup_append] at hn
      intro hin
      exact hn.2.2 _ hin e.1 (by simp) rfl
    refine wpAny_bind (wpAny_bind (dictSet_new hd hn' (by rw [sizeLine_eq]; simp at hl; omega) fun h₁ hd₁ hs₁ => wpAny_pure ?_))
    refine store_lines r (acc ++ [e]) _ (ep + 1) Q hd₁ (by simpa using hn) (by simp at hl ⊢; omega) fun h' hd' hs' => ?_
    have := hQ h' (by simpa [Nat.add_assoc, Nat.add_comm 1] using hd') (hs₁.trans hs')
    simpa [Nat.add_assoc, Nat.add_comm 1] using this

/-- a display of written texts -/
theorem ev_dict {ks : List (Option Expr)} {vs : List Expr} {r : List (Str × Str)} {pos : Pos} {s : Shared} {Q : Value → Shared → Prop} {h₀ : Heap} {L : Addr} {m : Str → Option Value} {news : List (Addr × Obj)}
    (F : Fr h₀ L s.heap m) (N : News h₀ L s.heap news) (hlim : h₀.NoLimit) (h : DPairs ks vs r) (h0 : r ≠ []) (hlen : r.length ≤ 15) (hn : (r.map (·.1)).Nodup)
    (hQ : ∀ h' tk, Fr h₀ L h' m → News h₀ L h' ((s.heap.objs.size, dObj w (lnFrom s.toks r) r.length) :: news) → (∀ q ∈ news, q.1 < s.heap.objs.size) → (s.heap.objs.size == sysModules) = false → s.toks ≤ tk → Q (.ref s.heap.objs.size) { s with heap := h', toks := tk }) :
    wpAny (model prog w) A (eval (.Dict ks vs pos) env) Q E s := by
  have hl := h.len
  have hpl := pairTrees_length ks vs env pos h.some hl.1
  rw [arm_eval_Dict, zip_pairTrees ks vs env pos h.some hl.1, dictDisplay_pairs _ (by intro e; rw [e] at hpl; exact h0 (List.length_eq_zero_iff.mp (by rw [← hl.2, ← hpl]; rfl))) (by rw [hpl, hl.2]; omega)]
  refine wpAny_bind (wpAny_standAt (wpAny_bind ?_))
  unfold subDict
  refine wpAny_bind (wpAny_alloc (wpAny_bind (wpAny_holding ?_)))
  rw [if_pos (by rw [hpl, hl.2]; exact hlen)]
  refine wpAny_bind (pairs_consts h (wpAny_holding (wpAny_bind ?_)))
  have hd := Heap.get?_push_size s.heap (o := { cls := .type "dict", data := .dict #[] }) rfl
  refine store_lines (lnFrom s.toks r) [] _ 0 _ hd (by rw [List.nil_append, lnFrom_keys]; exact hn) (by simp [lnFrom_length]; omega) fun h' hd' hs' => ?_
  refine wpAny_pure (wpAny_pure (wpAny_pure ?_))
  rw [List.nil_append, Nat.zero_add, lnFrom_length] at hd'
  rw [lnFrom_length]
  have szn : ∀ q ∈ news, q.1 < s.heap.objs.size := fun q hq => Heap.lt_size (N q hq).1
  have hfr := fr_fresh F (a := s.heap.objs.size) (Nat.le_refl _)
  have kp : ∀ b o, b ≠ s.heap.objs.size → (s.heap.push { cls := .type "dict", data := .dict #[] }).get? b = some o → h'.get? b = some o := fun b o hb e => hs'.extBut b o hb e
  refine hQ h' _ (fr_but (F.push _) kp hfr.1 hfr.2) ?_ szn ((F.notModules (modules_low hlim))) (by show s.toks ≤ s.toks + 2 * r.length + r.length; omega)
  intro q hq
  rcases List.mem_cons.mp hq with rfl | hq
  · exact ⟨hd', hfr⟩
  · exact ⟨kp _ _ (Nat.ne_of_lt (szn q hq)) (Heap.get?_push_of_some _ (N q hq).1), (N q hq).2⟩
end
end Mine
end

section
open PySem PySem.W PyProof.Rows PyProof.V PySem.Calls
set_option maxRecDepth 100000
namespace Mine

theorem upd_ne {m : Str → Option Value} {x y : Str} {v : Value} (h : y ≠ x) : upd m x v y = m y := by simp [upd, h]

def strVals : Nat → List Str → List Value
  | _, [] => []
  | t, x :: r => .str x t :: strVals (t + 1) r
theorem strVals_length : ∀ (t : Nat) (r : List Str), (strVals t r).length = r.length
  | _, [] => rfl
  | t, _ :: r => by simp [strVals, strVals_length (t + 1) r]
theorem strVals_at : ∀ (r : List Str) (t i : Nat) (x : Str), r[i]? = some x → (strVals t r)[i]? = some (.str x (t + i))
  | _ :: r, t, 0, x, h => by simp at h; subst h; rfl
  | _ :: r, t, i + 1, x, h => by
    have := strVals_at r (t + 1) i x (by simpa using h)
    simp only [strVals, List.getElem?_cons_succ]
    rw [this, show (t + 1 + i : Nat) = t + (i + 1) by omega]
inductive SConsts : List Expr → List Str → Prop
  | nil : SConsts [] []
  | cons {x : Str} {n : Nat} {p : Pos} {es : List Expr} {xs : List Str} : SConsts es xs → SConsts (.Constant (.str x) n p :: es) (x :: xs)

section
variable {prog : Program} {w : World} {M : Model} {A : Around} {E : Value → Shared → Prop} {env : Env} {h₀ : Heap} {L : Addr} {m : Str → Option Value} {news : List (Addr × Obj)}

theorem spliced_consts {es : List Expr} {xs : List Str} (h : SConsts es xs) {pos : Pos} : ∀ {s : Shared} {Q : List Value → Shared → Prop}, Q (strVals s.toks xs) { s with toks := s.toks + xs.length } → wpAny M A (spliced (backTo pos (starEach es env))) Q E s := by
  induction h with
  | nil => intro s Q hQ; exact spliced_none (by simpa [strVals] using hQ)
  | cons _ ih =>
    intro s Q hQ
    refine spliced_more (Constant_str (ih ?_)) rfl
    simp only [strVals, List.length_cons] at hQ ⊢
    have e : ∀ n : Nat, s.toks + 1 + n = s.toks + (n + 1) := fun n => by omega
    rw [e]; exact hQ

/-- ['a', 'b', ..] -/
theorem ev_strs {es : List Expr} {xs : List Str} {pos : Pos} {s : Shared} {Q : Value → Shared → Prop} (F : Fr h₀ L s.heap m) (N : News h₀ L s.heap news) (h : SConsts es xs) (hl : xs.length ≤ 1000)
    (hQ : ∀ h' tk, Fr h₀ L h' m → News h₀ L h' ((s.heap.objs.size, ({ cls := .type "list", data := .seq (strVals s.toks xs).toArray } : Obj)) :: news) → s.toks ≤ tk → Q (.ref s.heap.objs.size) { s with heap := h', toks := tk }) :
    wpAny M A (eval (.List es pos) env) Q E s := by
  refine List_ (spliced_consts h ?_)
  refine newList_N (s := { s with toks := s.toks + xs.length }) F N (fun h' F' N' => hQ h' _ F' N' (Nat.le_add_right _ _)) ?_
  rw [strVals_length, sizeLine_eq]; omega

/-- an item of a list -/
theorem tail_list {l : Addr} {vs : List Value} {k : Int} {t : Tok} {v : Value} {value slice : Expr} {s : Shared} {Q : Value → Shared → Prop} (hl : s.heap.IsList l vs.toArray) (h0 : 0 ≤ k) (hk : k < 2 ^ 63) (hx : vs[k.toNat]? = some v)
    (hs : subscripted slice false (.ref l) (.int k t) = operate [.ref l, .int k t] (getItem (.ref l) (.int k t))) (h : Q v s) :
    wpAny (model prog w) A (subscriptTail value slice (.ref l) (.int k t)) Q E s :=
  tail_any hl.typeIs slot_list_getitem.lookup (wpAny_getItem_list hl h0 hk (by simpa using hx) h) hs
end
end Mine
end

section
open PySem PySem.W PyProof.Rows PyProof.V PySem.Calls
set_option maxRecDepth 100000
namespace Mine
section
variable {prog : Program} {w : World} {M : Model} {A : Around} {E : Value → Shared → Prop} {s : Shared} {h₀ : Heap} {L a : Addr} {m : Str → Option Value}
  {cn : Str} {cs : Scope} {ccd : Value} {cl : List (Str × Addr)} {news : List (Addr × Obj)} {Q : Flow → Shared → Prop} {env : Env} {rest : List Stmt}

/-- x = value, and what follows -/
theorem seq_let {x : Str} {px pos : Pos} {value : Expr} (hs : swapsWith value (some (.Name x px)) pos.line (envX cn cs L a ccd cl) = pure false)
    (hk : cs.kind = .function) (hx : (envX cn cs L a ccd cl).kindOf x = some .local)
    (h : wpAny M A (eval value (envX cn cs L a ccd cl)) (fun v s₁ => ∃ m news, Fr h₀ L s₁.heap m ∧ News h₀ L s₁.heap news ∧ ∀ h', Fr h₀ L h' (upd m x v) → News h₀ L h' news →
      wpAny M A (execs rest (envX cn cs L a ccd cl)) Q E { s₁ with heap := h', toks := s₁.toks + 1 }) E s) :
    wpAny M A (execs (.Assign [.Name x px] value pos :: rest) (envX cn cs L a ccd cl)) Q E s := by
  refine wpAny_execs_cons ?_
  refine wpAny_Assign_Name (wpAny_mono h ?_ fun _ _ x => x) hs
  rintro v s₁ ⟨m, news, F, N, k⟩
  exact storeX_L F N (fun h' F' N' => k h' F' N') hk hx

theorem seq_ret {e : Expr} {pos : Pos} (h : wpAny M A (eval e env) (fun v s₁ => Q (.ret v) s₁) E s) : wpAny M A (execs (.Return (some e) pos :: rest) env) Q E s :=
  wpAny_execs_cons (wpAny_Return_some h)
theorem seq_if {test : Expr} {body orelse : List Stmt} {pos : Pos} (h : wpAny M A (PySem.isTrue test env (eval test env)) (fun b s₂ => if b = true then
      wpAny M A (execs body env) (fun f s' => match f with | .next => wpAny M A (execs rest env) Q E s' | f => Q f s') E s₂
      else wpAny M A (execs orelse env) (fun f s' => match f with | .next => wpAny M A (execs rest env) Q E s' | f => Q f s') E s₂) E s) :
    wpAny M A (execs (.If test body orelse pos :: rest) env) Q E s :=
  wpAny_execs_cons (wpAny_If h)

/-- x += value: texts -/
theorem seq_aug_str {x X : Str} {t : Tok} {px pos : Pos} {value : Expr} (F : Fr h₀ L s.heap m) (hm : m x = some (.str X t))
    (hk : cs.kind = .function) (hx : (envX cn cs L a ccd cl).kindOf x = some .local)
    (h : wpAny (model prog w) A (eval value (envX cn cs L a ccd cl)) (fun v s₁ => ∃ Y u m news, v = .str Y u ∧ X.length + Y.length ≤ sizeLine ∧ Fr h₀ L s₁.heap m ∧ News h₀ L s₁.heap news ∧ ∀ h' t' tk, Fr h₀ L h' (upd m x (.str (X ++ Y) t')) → News h₀ L h' news →
      wpAny (model prog w) A (execs rest (envX cn cs L a ccd cl)) Q E { s₁ with heap := h', toks := tk }) E s) :
    wpAny (model prog w) A (execs (.AugAssign (.Name x px) .Add value pos :: rest) (envX cn cs L a ccd cl)) Q E s := by
  refine wpAny_execs_cons ?_
  refine wpAny_AugAssign_Name (wpAny_loadName_local hk hx F.ns hm (wpAny_mono h ?_ fun _ _ x => x))
  rintro v s₁ ⟨Y, u, m, news, rfl, hsz, F₁, N₁, k⟩
  refine iadd_str (fun t' tk => ?_) hsz
  exact storeX_L (s := { s₁ with toks := tk }) F₁ N₁ (fun h' F' N' => k h' t' (tk + 1) F' N') hk hx

/-- a frame's name -/
theorem nm_L {x : Str} {pos : Pos} {v : Value} {Q : Value → Shared → Prop} (F : Fr h₀ L s.heap m) (hv : m x = some v) (hk : cs.kind = .function) (hx : (envX cn cs L a ccd cl).kindOf x = some .local) (hd : (x == ("__debug__" : Str)) = false) (h : Q v s) :
    wpAny M A (eval (.Name x pos) (envX cn cs L a ccd cl)) Q E s := nameX_L F hv h hk hx hd

/-- for x in xl: a list that stands; no turn leaves the loop early -/
theorem for_list_name {x xl : Str} {px pl pos : Pos} {body : List Stmt} {l : Addr} {vs : List Value} (J : Nat → (Str → Option Value) → List (Addr × Obj) → Prop)
    (hh : A.handled = none) (F : Fr h₀ L s.heap m) (N : News h₀ L s.heap news) (hm : m xl = some (.ref l)) (hl : ListAt h₀ news l vs) (h0 : J 0 m news)
    (hk : cs.kind = .function) (hx : (envX cn cs L a ccd cl).kindOf x = some .local) (hxl : (envX cn cs L a ccd cl).kindOf xl = some .local) (hd : (xl == ("__debug__" : Str)) = false)
    (hs : ∀ v, foldedSetIterable (.Name xl pl) (envX cn cs L a ccd cl) v = pure v)
    (step : ∀ i v m₁ news₁ s₁ own I, vs[i]? = some v → J i m₁ news₁ → (∀ p ∈ news₁, p.1 ≠ I) → (∀ p ∈ own, p.1 = I ∨ p.1 = l) → Fr h₀ L s₁.heap (upd m₁ x v) → News h₀ L s₁.heap (own ++ news₁) → 1 ≤ s₁.toks →
      wpAny (model prog w) A (execs body (envX cn cs L a ccd cl)) (fun fl s₂ => fl = .next ∧ ∃ h' tk m' news', s₂ = { s₁ with heap := h', toks := tk } ∧ Fr h₀ L h' m' ∧ News h₀ L h' (own ++ news') ∧ (∀ p ∈ news', p.1 ≠ I) ∧ J (i + 1) m' news') (fun _ _ => False) s₁)
    (done : ∀ h' tk m' news', Fr h₀ L h' m' → News h₀ L h' news' → J vs.length m' news' → s.toks ≤ tk → wpAny (model prog w) A (execs rest (envX cn cs L a ccd cl)) Q (fun _ _ => False) { s with heap := h', toks := tk }) :
    wpAny (model prog w) A (execs (.For (.Name x px) (.Name xl pl) body [] pos :: rest) (envX cn cs L a ccd cl)) Q (fun _ _ => False) s := by
  refine wpAny_execs_cons (toksQ ?_)
  refine For_turns (h₀ := h₀) (m := m) F ?_ hs PassesOwn.never
  refine nameX_L F hm ?_ hk hxl hd
  refine iter_list J hh F N hl h0 ?_ done
  intro i v m₁ news₁ h₁ tk₁ own I hv hJ hoff hown F₁ N₁
  refine assign_Name (storeX_L (s := { s with heap := h₁, toks := tk₁ }) F₁ N₁ (fun h₂ F₂ N₂ => ?_) hk hx)
  refine wpAny_mono (step i v m₁ news₁ { s with heap := h₂, toks := tk₁ + 1 } own I hv hJ hoff hown F₂ N₂ (by show 1 ≤ tk₁ + 1; omega)) ?_ (fun _ _ x => x)
  rintro fl s₂ ⟨rfl, h₃, tk₃, m₃, news₃, rfl, F₃, N₃, hoff₃, hJ₃⟩
  exact .next ⟨rfl, h₃, tk₃, m₃, news₃, rfl, F₃, N₃, fun p hp hI => hoff₃ p hp (List.mem_singleton.mp hI), hJ₃⟩

/-- a frame's name, the sides closed where it stands -/
theorem nm {x : Str} {pos : Pos} {v : Value} {Q : Value → Shared → Prop} (F : Fr h₀ L s.heap m) (hv : m x = some v) (h : Q v s)
    (hk : cs.kind = .function := by rfl) (hx : (envX cn cs L a ccd cl).kindOf x = some .local := by kernel_rfl) (hd : (x == ("__debug__" : Str)) = false := by decide +kernel) :
    wpAny M A (eval (.Name x pos) (envX cn cs L a ccd cl)) Q E s := nameX_L F hv h hk hx hd
theorem lt {x : Str} {px pos : Pos} {value : Expr} (h₀ : Heap)
    (h : wpAny M A (eval value (envX cn cs L a ccd cl)) (fun v s₁ => ∃ m news, Fr h₀ L s₁.heap m ∧ News h₀ L s₁.heap news ∧ ∀ h', Fr h₀ L h' (upd m x v) → News h₀ L h' news →
      wpAny M A (execs rest (envX cn cs L a ccd cl)) Q E { s₁ with heap := h', toks := s₁.toks + 1 }) E s)
    (hs : swapsWith value (some (.Name x px)) pos.line (envX cn cs L a ccd cl) = pure false := by rfl)
    (hk : cs.kind = .function := by rfl) (hx : (envX cn cs L a ccd cl).kindOf x = some .local := by kernel_rfl) :
    wpAny M A (execs (.Assign [.Name x px] value pos :: rest) (envX cn cs L a ccd cl)) Q E s := seq_let hs hk hx h
theorem ev_fdiv {l : Expr} {c : Int} {n : Nat} {p pos : Pos} {Q : Value → Shared → Prop} (h : wpAny (model prog w) A (eval l env) (fun v s₁ => ∃ i t, v = .int i t ∧ ∀ t', Q (.int (i.fdiv c) t') { s₁ with toks := s₁.toks + 1 + 1 }) E s)
    (hc : c ≠ 0 := by decide) (hp : c.natAbs.log2 < 9000 := by decide +kernel) : wpAny (model prog w) A (eval (.BinOp l .FloorDiv (.Constant (.int c) n p) pos) env) Q E s := by
  refine wpAny_BinOp (wpAny_mono h ?_ fun _ _ x => x)
  rintro v s₁ ⟨i, t, rfl, k⟩
  exact wpAny_Constant_int (floordiv_int hc (k _) (.inl (PyProof.noPylong_of_log2 hp)))
theorem ev_fmod {l : Expr} {c : Int} {n : Nat} {p pos : Pos} {Q : Value → Shared → Prop} (h : wpAny (model prog w) A (eval l env) (fun v s₁ => ∃ i t, v = .int i t ∧ ∀ t', Q (.int (i.fmod c) t') { s₁ with toks := s₁.toks + 1 + 1 }) E s)
    (hc : c ≠ 0 := by decide) : wpAny (model prog w) A (eval (.BinOp l .Mod (.Constant (.int c) n p) pos) env) Q E s := by
  refine wpAny_BinOp (wpAny_mono h ?_ fun _ _ x => x)
  rintro v s₁ ⟨i, t, rfl, k⟩
  exact wpAny_Constant_int (mod_int hc (k _))

/-- a built-in of one argument, called by its name -/
theorem call_b1 {K : Frag} {p : Program} {loose : List Str} {mean : ExcName → Option Value} {mg mb : Str → Option Value} {A₀ : Around} {base : Heap} {outer : List Env} {env' : Env} {x : Str} {px pos : Pos} {id : String} {e : Expr} {Q : Value → Shared → Prop}
    (S : Site K p loose mean mg mb A env' A₀ base outer h₀ L) (F : Fr h₀ L s.heap m) (he : nsIn K mainGlobals x = some none) (hv : bootBuiltins x = some (.builtin id))
    (h : wpAny (model prog w) A (eval e (envX cn cs L a ccd cl)) (fun v s₁ => wpAny (model prog w) A (call (.builtin id) [v]) Q E s₁) E s)
    (hn : x ≠ "__name__" := by decide +kernel) (hk : cs.kind = .function := by rfl) (hx : (envX cn cs L a ccd cl).kindOf x = some .globalImplicit := by kernel_rfl) (hd : (x == ("__debug__" : Str)) = false := by decide +kernel)
    (he1 : starEach [e] (envX cn cs L a ccd cl) = [(false, eval e (envX cn cs L a ccd cl))] := by rfl) :
    wpAny (model prog w) A (eval (.Call (.Name x px) [e] [] pos) (envX cn cs L a ccd cl)) Q E s := by
  refine Call_ (nameX_B F S.X (topRead_of S.T) he hv hn ?_ hk hx hd)
  exact PyProof.Rows.callWith_builtin1 (spliced_more (wpAny_mono h (fun v s₁ h₁ => spliced_none h₁) fun _ _ x => x) he1) he1 rfl
end
end Mine
end

section
open PySem PySem.W PyProof.Rows PyProof.V PySem.Calls
set_option maxRecDepth 100000
namespace Mine

/-- a law's end -/
def LawEnd (g : Heap) (L : Addr) (s : Shared) (fl : Flow) (s' : Shared) : Prop := ∃ h' tk m', fl = .ret (.bool true) ∧ s' = { s with heap := h', toks := tk } ∧ Fr g L h' m'
/-- what a law's walk has to show of its end -/
theorem law_out {M : Model} {A : Around} {t : Sem Flow} {Q : Flow → Shared → Prop} {E : Value → Shared → Prop} {s : Shared} {h₀ : Heap} {L : Addr} {m : Str → Option Value} (_F : Fr h₀ L s.heap m)
    (h : wpAny M A t (LawEnd h₀ L s) (fun _ _ => False) s)
    (k : ∀ h' tk m', Fr h₀ L h' m' → Q (.ret (.bool true)) { s with heap := h', toks := tk }) : wpAny M A t Q E s := by
  refine wpAny_mono h ?_ (fun _ _ x => x.elim)
  rintro fl s' ⟨h', tk, m', rfl, rfl, F⟩
  exact k h' tk m' F

/-- texts of which each is told -/
theorem strs_told {f : Str → Str} : ∀ {ys : List Value} {ps : List Str}, ys.length = ps.length → (∀ (i : Nat) (y : Value) (p : Str), ys[i]? = some y → ps[i]? = some p → ∃ t, y = Value.str (f p) t) →
    ∃ l : List (Str × Tok), ys = strValues l ∧ l.map (·.1) = ps.map f
  | [], [], _, _ => ⟨[], rfl, rfl⟩
  | y :: ys, p :: ps, hl, h => by
    obtain ⟨t, rfl⟩ := h 0 y p rfl rfl
    obtain ⟨l, rfl, e⟩ := strs_told (f := f) (ys := ys) (ps := ps) (by simpa using hl) fun i y p hy hp => h (i + 1) y p (by simpa using hy) (by simpa using hp)
    exact ⟨(f p, t) :: l, rfl, by simp [e]⟩

section
variable {prog : Program} {w : World} {M : Model} {A : Around} {E : Value → Shared → Prop} {s : Shared} {h₀ : Heap} {L a : Addr} {m : Str → Option Value}
  {cn : Str} {cs : Scope} {ccd : Value} {cl : List (Str × Addr)} {news : List (Addr × Obj)}

theorem ev_dict0 {ks : List (Option Expr)} {vs : List Expr} {r : List (Str × Str)} {pos : Pos} {env : Env} {Q : Value → Shared → Prop}
    (F : Fr h₀ L s.heap m) (N : News h₀ L s.heap news) (hlim : h₀.NoLimit) (h : DPairs ks vs r) (hlen : r.length ≤ 15) (hn : (r.map (·.1)).Nodup)
    (hQ : ∀ h' tk, Fr h₀ L h' m → News h₀ L h' ((s.heap.objs.size, dObj w (lnFrom s.toks r) r.length) :: news) → (∀ q ∈ news, q.1 < s.heap.objs.size) → (s.heap.objs.size == sysModules) = false → s.toks ≤ tk → Q (.ref s.heap.objs.size) { s with heap := h', toks := tk }) :
    wpAny (model prog w) A (eval (.Dict ks vs pos) env) Q E s := by
  by_cases h0 : r = []
  · subst h0
    cases h
    refine wpAny_Dict_empty (hQ _ _ (F.push _) (N.push F _) (fun q hq => Heap.lt_size (N q hq).1) (F.notModules (modules_low hlim)) (Nat.le_refl _))
  · exact ev_dict F N hlim h h0 hlen hn hQ

def tupO (vs : List Value) : Obj := { cls := .type "tuple", data := .seq vs.toArray }
def lstO (vs : List Value) : Obj := { cls := .type "list", data := .seq vs.toArray }

/-- for TARGET in xl: a list that stands; a turn may come back with True -/
theorem for_list_t {target : Expr} {xl : Str} {pl pos : Pos} {body rest : List Stmt} {l : Addr} {vs : List Value} {Q : Flow → Shared → Prop} (J : Nat → (Str → Option Value) → List (Addr × Obj) → Prop)
    (hh : A.handled = none) (F : Fr h₀ L s.heap m) (N : News h₀ L s.heap news) (hm : m xl = some (.ref l)) (hl : ListAt h₀ news l vs) (h0 : J 0 m news)
    (hk : cs.kind = .function) (hxl : (envX cn cs L a ccd cl).kindOf xl = some .local) (hd : (xl == ("__debug__" : Str)) = false)
    (hs : ∀ v, foldedSetIterable (.Name xl pl) (envX cn cs L a ccd cl) v = pure v)
    (step : ∀ i v m₁ news₁ h₁ tk₁ own I, vs[i]? = some v → J i m₁ news₁ → (∀ p ∈ news₁, p.1 ≠ I) → (∀ p ∈ own, p.1 = I ∨ p.1 = l) → Fr h₀ L h₁ m₁ → News h₀ L h₁ (own ++ news₁) →
      wpAny (model prog w) A (assign target (envX cn cs L a ccd cl) v) (fun _ s₂ => wpAny (model prog w) A (execs body (envX cn cs L a ccd cl))
        (fun fl s₃ => fl = .next ∧ ∃ h' tk m' news', s₃ = { s with heap := h', toks := tk } ∧ Fr h₀ L h' m' ∧ News h₀ L h' (own ++ news') ∧ (∀ p ∈ news', p.1 ≠ I) ∧ J (i + 1) m' news') (fun _ _ => False) s₂) (fun _ _ => False) { s with heap := h₁, toks := tk₁ })
    (done : ∀ h' tk m' news', Fr h₀ L h' m' → News h₀ L h' news' → J vs.length m' news' → s.toks ≤ tk → wpAny (model prog w) A (execs rest (envX cn cs L a ccd cl)) Q (fun _ _ => False) { s with heap := h', toks := tk }) :
    wpAny (model prog w) A (execs (.For target (.Name xl pl) body [] pos :: rest) (envX cn cs L a ccd cl)) Q (fun _ _ => False) s := by
  have hm0 : m = m := rfl
  refine wpAny_execs_cons (toksQ ?_)
  refine For_turns (h₀ := h₀) (m := m) F ?_ hs PassesOwn.never
  refine nameX_L F hm ?_ hk hxl hd
  refine iter_list J hh F N hl h0 ?_ done
  intro i v m₁ news₁ h₁ tk₁ own I hv hJ hoff hown F₁ N₁
  refine wpAny_mono (step i v m₁ news₁ h₁ tk₁ own I hv hJ hoff hown F₁ N₁) ?_ (fun _ _ x => x)
  intro _ s₂ h₂
  refine wpAny_mono h₂ ?_ (fun _ _ x => x)
  rintro fl s₃ ⟨rfl, h₃, tk₃, m₃, news₃, rfl, F₃, N₃, hoff₃, hJ₃⟩
  exact .next ⟨rfl, h₃, tk₃, m₃, news₃, rfl, F₃, N₃, fun p hp hI => hoff₃ p hp (List.mem_singleton.mp hI), hJ₃⟩

/-- an item of a dict of texts -/
theorem tail_line {d : Addr} {l : List Ln} {ep : Nat} {e : Ln} {t : Tok} {value slice : Expr} {Q : Value → Shared → Prop} (hd : s.heap.get? d = some (dObj w l ep)) (hn : (l.map (·.1)).Nodup) (he : e ∈ l)
    (hs : subscripted slice false (.ref d) (.str e.1 t) = operate [.ref d, .str e.1 t] (getItem (.ref d) (.str e.1 t)))
    (h : Q (.str e.2.2.1 e.2.2.2) { s with toks := s.toks + 1 }) : wpAny (model prog w) A (subscriptTail value slice (.ref d) (.str e.1 t)) Q E s := by
  have hD := dObj_at (prog := prog) hd hn
  refine tail_any hD.dictOf.mapOf.typeIs slot_dict_getitem.lookup (wpAny_getItem_of (strKind_is prog w e.1 t) hD.dictOf.mapOf ?_ h) hs
  clear hD hd
  unfold valueAt lnKvs
  induction l with
  | nil => nomatch he
  | cons q r ih =>
    rw [List.map_cons, List.nodup_cons] at hn
    rcases List.mem_cons.mp he with rfl | he
    · simp
    · have : ¬ q.1 = e.1 := fun hq => hn.1 (hq ▸ List.mem_map.mpr ⟨e, he, rfl⟩)
      rw [List.map_cons, List.find?_cons_of_neg (by simpa using this)]
      exact ih hn.2 he
end
end Mine
namespace Mine
theorem law_in0 {prog : Program} {w : World} {K : Frag} {p : Program} {loose : List Str} {mean : ExcName → Option Value} {mg mb : Str → Option Value} {env : Env} {cn : Str} {cs : Scope} {L a l : Addr} {ccd : Value} {body : List Stmt} {s : Shared} {g : Heap} {m : Str → Option Value} {vs : List Value}
    (F : Fr g L s.heap m) (N : News g L s.heap []) (hl : g.IsList l vs.toArray) (x : Str) (henv : env = envX cn cs L a ccd []) 
    (hk : cs.kind = .function) (hm : m x = some (.ref l)) (B : Below callerA g [] g) (X : K.In g) (T : Top p loose mean mg mb g)
    (H : ∀ A A₀ outer g L m s, Site K p loose mean mg mb A (envX cn cs L a ccd []) A₀ g outer g L → Room A 40 → Fr g L s.heap m → News g L s.heap [] → m x = some (.ref l) → g.IsList l vs.toArray →
      wpAny (model prog w) A (execs body (envX cn cs L a ccd [])) (LawEnd g L s) (fun _ _ => False) s) :
    wpAny (model prog w) (callerA.deeper env) (execs body env) (LawEnd g L s) (fun _ _ => False) s := by
  subst henv
  refine H _ callerA [] g L m s ⟨B, X, T, ?_, rfl, hk, rfl⟩ ⟨Nat.le_of_ble_eq_true rfl, Nat.le_of_ble_eq_true rfl⟩ F N hm hl
  show callerA.frames.map _ = _
  rfl
theorem law_in1 {prog : Program} {w : World} {K : Frag} {p : Program} {loose : List Str} {mean : ExcName → Option Value} {mg mb : Str → Option Value} {env : Env} {cn : Str} {cs : Scope} {L a l : Addr} {ccd : Value} {body : List Stmt} {s : Shared} {g : Heap} {m : Str → Option Value} {o : Obj} {v₀ : Option Value} {vs : List Value}
    (F : Fr g L s.heap m) (N : News g L s.heap [(L + 1, o)]) (hd : o.data = .cell v₀) (hl : g.IsList l vs.toArray) (x c : Str) (henv : env = envX cn cs L a ccd [(c, L + 1)]) 
    (hk : cs.kind = .function) (hm : m x = some (.ref l)) (B : Below callerA g [] g) (X : K.In g) (T : Top p loose mean mg mb g)
    (H : ∀ A A₀ outer g L m s o v₀, Site K p loose mean mg mb A (envX cn cs L a ccd [(c, L + 1)]) A₀ g outer g L → Room A 40 → Fr g L s.heap m → News g L s.heap [(L + 1, o)] → o.data = .cell v₀ → m x = some (.ref l) → g.IsList l vs.toArray →
      wpAny (model prog w) A (execs body (envX cn cs L a ccd [(c, L + 1)])) (LawEnd g L s) (fun _ _ => False) s) :
    wpAny (model prog w) (callerA.deeper env) (execs body env) (LawEnd g L s) (fun _ _ => False) s := by
  subst henv
  refine H _ callerA [] g L m s o v₀ ⟨B, X, T, ?_, rfl, hk, rfl⟩ ⟨Nat.le_of_ble_eq_true rfl, Nat.le_of_ble_eq_true rfl⟩ F N hd hm hl
  show callerA.frames.map _ = _
  rfl
end Mine
end

section
open PySem PySem.W PyProof.Rows PyProof.V PySem.Calls
set_option maxRecDepth 100000
namespace Mine
section
variable {prog : Program} {w : World} {A : Around} {E : Value → Shared → Prop} {s : Shared}

/-- a new key at a dict's end, its hash known -/
theorem dictPut_new {d : Addr} {l : List Ln} {ep : Nat} {e : Ln} {Q : Unit → Shared → Prop} (hd : s.heap.get? d = some (dObj w l ep)) (hk : e.1 ∉ l.map (·.1)) (hl : l.length < sizeLine)
    (hQ : ∀ h', h'.get? d = some (dObj w (l ++ [e]) (ep + 1)) → Heap.SameBut d s.heap h' → Q () { s with heap := h' }) :
    wpAny (model prog w) A (dictPut d (lnE w e).hash (lnE w e).key (lnE w e).val) Q E s := by
  have hkey := strKind_is prog w e.1 e.2.1
  have hks : KeysOf (PySem.strKind prog w) (l.map (lnE w)).toArray := by
    intro e he
    have he' : e ∈ l.map (lnE w) := by simpa using he
    obtain ⟨x, _, rfl⟩ := List.mem_map.mp he'
    exact ⟨x.1, strKind_is prog w x.1 x.2.1, rfl⟩
  unfold dictPut
  refine wpAny_bind (wpAny_dictFind_of (knd := PySem.strKind prog w) hkey hd rfl hks ?_)
  have hi : ((l.map (lnE w)).toArray.findIdx? fun e' => (PySem.strKind prog w).is e.1 e'.key) = none := by
    rw [Array.findIdx?_eq_none_iff]
    intro e' he
    have he' : e' ∈ l.map (lnE w) := by simpa using he
    obtain ⟨x, hx, rfl⟩ := List.mem_map.mp he'
    show Value.isStrOf e.1 (.str x.1 x.2.1) = false
    cases hq : Value.isStrOf e.1 (.str x.1 x.2.1) with
    | false => rfl
    | true =>
      obtain ⟨t', e'⟩ := Value.isStrOf_shape hq
      injection e' with e1
      exact absurd (List.mem_map.mpr ⟨x, hx, e1⟩) hk
  rw [hi]
  refine wpAny_updateDictKeys (hz := by simp; omega) hd rfl (hQ _ ?_ (Heap.SameBut.update ..))
  refine (Heap.get?_update_self _ hd rfl).trans ?_
  simp [dObj, Obj.mapDictKeys, lnE]

theorem forIn_idle {α : Type} (f : α → PUnit → Sem (ForInStep PUnit)) : ∀ (l : List α), (∀ e ∈ l, f e PUnit.unit = pure (.yield PUnit.unit)) → forIn l PUnit.unit f = pure PUnit.unit
  | [], _ => by rw [List.forIn_nil]
  | e :: r, h => by
    rw [List.forIn_cons, h e (List.mem_cons_self ..), pure_bind]
    exact forIn_idle f r fun x hx => h x (List.mem_cons_of_mem _ hx)

theorem forIn_steps {M : Model} {f : Nat → PUnit → Sem (ForInStep PUnit)} {Q : PUnit → Shared → Prop} (P : Nat → Shared → Prop) : ∀ (k i : Nat) (s : Shared), P i s → (∀ j s, i ≤ j → j < i + k → P j s → wpAny M A (f j PUnit.unit) (fun r s' => r = .yield PUnit.unit ∧ P (j + 1) s') E s) → (∀ s', P (i + k) s' → Q PUnit.unit s') →
    wpAny M A (forIn (List.range' i k) PUnit.unit f) Q E s
  | 0, i, s, h, _, hQ => by
    show wpAny _ _ (forIn [] _ _) _ _ _
    rw [List.forIn_nil]
    exact wpAny_pure (hQ s h)
  | k + 1, i, s, h, hs, hQ => by
    rw [List.range'_succ, List.forIn_cons]
    refine wpAny_bind (wpAny_mono (hs i s (Nat.le_refl _) (by omega) h) ?_ fun _ _ x => x)
    rintro r s' ⟨rfl, h'⟩
    exact forIn_steps P k (i + 1) s' h' (fun j s'' h1 h2 => hs j s'' (by omega) (by omega)) fun s'' h'' => hQ s'' (by rw [show i + (k + 1) = i + 1 + k by omega]; exact h'')

/-- a dict's lines laid into another -/
theorem merge_lines {D d : Addr} {acc l : List Ln} {ep ep' : Nat} {Q : Unit → Shared → Prop} (hne : D ≠ d) (lo : (d == sysModules) = false) (hD : s.heap.get? D = some (dObj w acc ep)) (hd : s.heap.get? d = some (dObj w l ep'))
    (hn : ((acc ++ l).map (·.1)).Nodup) (hl : acc.length + l.length ≤ 1000)
    (hQ : ∀ h', h'.get? D = some (dObj w (acc ++ l) (ep + l.length)) → Heap.SameBut D s.heap h' → Q () { s with heap := h' }) :
    wpAny (model prog w) A (mergeMapping D (.ref d) false) Q E s := by
  have hT : s.TypeIs (.ref d) "dict" := ⟨_, hd, rfl⟩
  have hes : ∀ e ∈ (l.map (lnE w)), ∃ x : Ln, x ∈ l ∧ e = lnE w x := fun e he => by
    obtain ⟨x, hx, rfl⟩ := List.mem_map.mp he
    exact ⟨x, hx, rfl⟩
  unfold mergeMapping
  refine wpAny_bind (wpAny_isInstance hT PySem.F.sub_dict_dict ?_)
  rw [if_pos rfl]
  refine wpAny_bind (wpAny_specialOf hT F.slot_dict_iter.lookup ?_)
  refine wpAny_bind (wpAny_pure ?_)
  simp only [beq_self_eq_true, lo, Bool.false_eq_true, if_false]
  refine wpAny_bind (wpAny_dictEntries hD rfl ?_)
  have loop : wpAny (model prog w) A (do
      let size := (← dictEntries d).size
      let epoch ← dictEpoch d
      for i in List.range size do
        let some e := (← dictEntries d)[i]? | unsupported "dict.changed-during-merge"
        holding [e.key, e.val] do
          if false = true then
            if (← dictFind D e.key e.hash).isSome then rule "dict.merge.duplicate-key"; raiseNew (← newExc (.type "KeyError") [e.key])
          dictPut D e.hash e.key e.val
        if (← dictEpoch d) != epoch then unsupported "dict.changed-during-merge") Q E s := by
    refine wpAny_bind (wpAny_dictEntries hd rfl ?_)
    refine wpAny_bind (wpAny_dictEpoch hd rfl ?_)
    have hsz : (List.map (lnE w) l).toArray.size = l.length := by simp
    rw [hsz, List.range_eq_range']
    refine wpAny_bind (forIn_steps (P := fun i s' => ∃ h', s' = { s with heap := h' } ∧ h'.get? D = some (dObj w (acc ++ l.take i) (ep + i)) ∧ Heap.SameBut D s.heap h') l.length 0 s ⟨s.heap, rfl, by simpa using hD, Heap.SameBut.refl _ _⟩ ?_ ?_)
    · rintro i s' _ hi ⟨h', rfl, hD', hs'⟩
      rw [Nat.zero_add] at hi
      have hd' : h'.get? d = some (dObj w l ep') := (hs'.2 d (Ne.symm hne)).trans hd
      refine wpAny_bind (wpAny_dictEntries hd' rfl ?_)
      have he : (List.map (lnE w) l).toArray[i]? = some (lnE w l[i]) := by simp [hi]
      rw [he]
      have htk : l.take (i + 1) = l.take i ++ [l[i]] := by rw [List.take_add_one]; simp [hi]
      refine wpAny_bind (wpAny_holding ?_)
      simp only [Bool.false_eq_true, if_false]
      refine dictPut_new hD' ?_ ?_ fun h₂ hD₂ hs₂ => ?_
      · have hsub : ((acc ++ l.take (i + 1)).map (·.1)).Nodup := by
          refine hn.sublist ?_
          rw [List.map_append, List.map_append]
          exact List.Sublist.append_left ((List.take_sublist ..).map _) _
        rw [htk, ← List.append_assoc, List.map_append, List.nodup_append] at hsub
        intro hin
        exact hsub.2.2 _ hin _ (by simp) rfl
      · rw [sizeLine_eq, List.length_append, List.length_take]; omega
      · have hd₂ : h₂.get? d = some (dObj w l ep') := (hs₂.2 d (Ne.symm hne)).trans hd'
        refine wpAny_bind (wpAny_dictEpoch hd₂ rfl ?_)
        rw [if_neg (by simp)]
        refine wpAny_pure ⟨rfl, h₂, rfl, ?_, hs'.trans hs₂⟩
        rw [htk, ← List.append_assoc]; exact hD₂
    · rintro s' ⟨h', rfl, hD', hs'⟩
      rw [Nat.zero_add, List.take_length] at hD'
      exact wpAny_pure (hQ h' hD' hs')
  simp only [Bool.false_eq_true, if_false] at loop
  split
  · refine wpAny_bind (wpAny_dictEntries hd rfl ?_)
    rw [List.forIn_toArray, forIn_idle]
    · exact wpAny_bind (wpAny_pure loop)
    · intro e he
      obtain ⟨x, _, rfl⟩ := hes e he
      rfl
  · exact loop
end
end Mine
end

section
open PySem PySem.W PyProof.Rows PyProof.V PySem.Calls
set_option maxRecDepth 100000
namespace Mine
theorem gather_some (D : Addr) (f : (Option (Sem Value) × Sem Value) → (Option Addr × List (Sem Value × Sem Value)) → Sem (ForInStep (Option Addr × List (Sem Value × Sem Value))))
    (hf : ∀ (p : Sem Value × Sem Value) (run : List (Sem Value × Sem Value)), run.length + 1 < 17 → f (some p.1, p.2) (some D, run) = pure (.yield (some D, run ++ [p]))) :
    ∀ (items run : List (Sem Value × Sem Value)), run.length + items.length < 17 → forIn (items.map fun p => (some p.1, p.2)) (some D, run) f = pure (some D, run ++ items)
  | [], run, _ => by simp
  | p :: rest, run, h => by
    rw [List.map_cons, List.forIn_cons, hf p run (by simp at h; omega), pure_bind]
    have := gather_some D f hf rest (run ++ [p]) (by simp at h ⊢; omega)
    simpa using this
section
variable {prog : Program} {w : World} {A : Around} {E : Value → Shared → Prop} {s : Shared} {env : Env} {h₀ : Heap} {L : Addr} {m : Str → Option Value} {news : List (Addr × Obj)}

/-- {**x, 'k': 'v', ..} -/
theorem wp_star {pairs : List (Sem Value × Sem Value)} {v : Sem Value} {Q : Value → Shared → Prop} (h0 : pairs ≠ []) (hlen : pairs.length < 17)
    (h : ∀ D, D = s.heap.objs.size → wpAny (model prog w) A v (fun x s₁ => ∃ d, x = .ref d ∧ wpAny (model prog w) A (mergeMapping D (.ref d) false) (fun _ s₂ => wpAny (model prog w) A (subDict pairs) (fun sub s₃ =>
      wpAny (model prog w) A (mergeMapping D (.ref sub) false) (fun _ s₄ => Q (.ref D) s₄) (fun _ _ => False) s₃) (fun _ _ => False) s₂) (fun _ _ => False) s₁) (fun _ _ => False) { s with heap := s.heap.push { cls := .type "dict", data := .dict #[] } }) :
    wpAny (model prog w) A (dictDisplay ((none, v) :: pairs.map fun p => (some p.1, p.2))) Q E s := by
  unfold dictDisplay
  dsimp only
  rw [List.forIn_cons]
  refine wpAny_bind (wpAny_bind ?_)
  dsimp only
  simp only [List.isEmpty_nil, if_true]
  refine wpAny_bind (wpAny_pure ?_)
  dsimp only
  refine wpAny_bind (wpAny_alloc (wpAny_bind (wpAny_holding ?_)))
  refine wpAny_mono (h _ rfl) ?_ (fun _ _ x => x.elim)
  rintro x s₁ ⟨d, rfl, h₁⟩
  refine wpAny_bind (wpAny_onRaise (wpAny_tryCatch (wpAny_onRaise (wpAny_holding ?_))))
  refine wpAny_mono h₁ ?_ (fun _ _ x => x.elim)
  rintro _ s₂ h₂
  refine wpAny_pure ?_
  dsimp only
  rw [gather_some s.heap.objs.size _ (fun p run h => by
    have hne : ((run ++ [(p.1, p.2)]).length == 17) = false := by simp; omega
    simp only [hne, Bool.false_eq_true, if_false]) pairs [] (by simpa using hlen)]
  refine wpAny_bind (wpAny_pure ?_)
  have he : pairs.isEmpty = false := by cases pairs with | nil => exact absurd rfl h0 | cons _ _ => rfl
  refine wpAny_pure ?_
  simp only [List.nil_append, he, Bool.false_eq_true, if_false]
  refine wpAny_bind (wpAny_bind (wpAny_holding (wpAny_mono h₂ ?_ (fun _ _ x => x.elim))))
  rintro sub s₃ h₃
  refine wpAny_bind (wpAny_onRaise (wpAny_holding (wpAny_mono h₃ ?_ (fun _ _ x => x.elim))))
  rintro _ s₄ h₄
  exact wpAny_pure (wpAny_pure h₄)

/-- {**e, 'k': 'v', ..}: e a dict of texts -/
theorem ev_star {e : Expr} {ks : List (Option Expr)} {vs : List Expr} {r : List (Str × Str)} {pos : Pos} {d : Addr} {l : List Ln} {ep : Nat} {Q : Value → Shared → Prop}
    (F : Fr h₀ L s.heap m) (N : News h₀ L s.heap news) (hlim : h₀.NoLimit) (h : DPairs ks vs r) (h0 : r ≠ []) (hlen : r.length ≤ 15) (hll : l.length ≤ 900) (hn : (l.map (·.1) ++ r.map (·.1)).Nodup) (lo : (d == sysModules) = false)
    (hd : ∀ h', Fr h₀ L h' m → News h₀ L h' news → h'.get? d = some (dObj w l ep))
    (he : ∀ (s : Shared) (Q : Value → Shared → Prop), Fr h₀ L s.heap m → Q (.ref d) s → wpAny (model prog w) A (eval e env) Q (fun _ _ => False) s)
    (hQ : ∀ h' tk t, s.toks ≤ t → Fr h₀ L h' m → News h₀ L h' ((s.heap.objs.size, dObj w (l ++ lnFrom t r) (l.length + r.length)) :: news) → (∀ q ∈ news, q.1 < s.heap.objs.size) → (s.heap.objs.size == sysModules) = false → t ≤ tk → Q (.ref s.heap.objs.size) { s with heap := h', toks := tk }) :
    wpAny (model prog w) A (eval (.Dict (none :: ks) (e :: vs) pos) env) Q E s := by
  have hl := h.len
  have hpl := pairTrees_length ks vs env pos h.some hl.1
  have hz := zip_pairTrees ks vs env pos h.some hl.1
  rw [arm_eval_Dict]
  have hshape : (evalEachOpt (none :: ks) env).zip ((evalEach (e :: vs) env).map fun v => do let x ← v; standAt pos; pure x) = (none, do let x ← eval e env; standAt pos; pure x) :: ((pairTrees ks vs env pos).map fun p => (some p.1, p.2)) := by
    rw [← hz]; rfl
  rw [hshape]
  refine wpAny_bind (wpAny_standAt (wp_star (fun q => h0 (List.length_eq_zero_iff.mp (by rw [← hl.2, ← hpl, q]; rfl))) (by rw [hpl, hl.2]; omega) ?_))
  rintro D rfl
  have hfr := fr_fresh F (a := s.heap.objs.size) (Nat.le_refl _)
  have szn : ∀ q ∈ news, q.1 < s.heap.objs.size := fun q hq => Heap.lt_size (N q hq).1
  have F₁ : Fr h₀ L (s.heap.push { cls := .type "dict", data := .dict #[] }) m := F.push _
  have N₁ : News h₀ L (s.heap.push { cls := .type "dict", data := .dict #[] }) news := fun q hq => ⟨Heap.get?_push_of_some _ (N q hq).1, (N q hq).2⟩
  have hD₁ : (s.heap.push { cls := .type "dict", data := .dict #[] }).get? s.heap.objs.size = some (dObj w [] 0) := Heap.get?_push_size _ rfl
  have hdz : d < s.heap.objs.size := Heap.lt_size (hd _ F N)
  refine wpAny_bind (he _ _ F₁ (wpAny_bind (wpAny_standAt (wpAny_pure ⟨d, rfl, ?_⟩))))
  refine merge_lines (Nat.ne_of_gt hdz) lo hD₁ (hd _ F₁ N₁) (by rw [List.nil_append]; rw [List.nodup_append] at hn; exact hn.1) (by simp; omega) fun h₂ hD₂ hs₂ => ?_
  have kp₂ : ∀ b o, b ≠ s.heap.objs.size → (s.heap.push { cls := .type "dict", data := .dict #[] }).get? b = some o → h₂.get? b = some o := fun b o hb e => hs₂.extBut b o hb e
  have F₂ := fr_but F₁ kp₂ hfr.1 hfr.2
  have N₂ := news_but N₁ kp₂ (fun q hq => Nat.ne_of_lt (szn q hq))
  have hDz : s.heap.objs.size < h₂.objs.size := Heap.lt_size hD₂
  have hfr2 := fr_fresh F₂ (a := h₂.objs.size) (Nat.le_refl _)
  have szn2 : ∀ q ∈ news, q.1 < h₂.objs.size := fun q hq => Heap.lt_size (N₂ q hq).1
  unfold subDict
  refine wpAny_bind (wpAny_alloc (wpAny_bind (wpAny_holding ?_)))
  rw [if_pos (by rw [hpl, hl.2]; exact hlen)]
  refine wpAny_bind (pairs_consts h (wpAny_holding (wpAny_bind ?_)))
  have hS := Heap.get?_push_size h₂ (o := { cls := .type "dict", data := .dict #[] }) rfl
  have hD₃ := Heap.get?_push_of_some { cls := .type "dict", data := .dict #[] } hD₂
  refine store_lines (lnFrom s.toks r) [] _ 0 _ hS (by rw [List.nil_append, lnFrom_keys]; rw [List.nodup_append] at hn; exact hn.2.1) (by simp [lnFrom_length]; omega) fun h₃ hS₃ hs₃ => ?_
  refine wpAny_pure (wpAny_pure ?_)
  rw [List.nil_append, Nat.zero_add, lnFrom_length] at hS₃
  have kp₃ : ∀ b o, b ≠ h₂.objs.size → (h₂.push { cls := .type "dict", data := .dict #[] }).get? b = some o → h₃.get? b = some o := fun b o hb e => hs₃.extBut b o hb e
  have F₃ := fr_but (F₂.push _) kp₃ hfr2.1 hfr2.2
  have N₃ : News h₀ L h₃ news := news_but (fun q hq => ⟨Heap.get?_push_of_some _ (N₂ q hq).1, (N₂ q hq).2⟩) kp₃ (fun q hq => Nat.ne_of_lt (szn2 q hq))
  have hD₃' := kp₃ _ _ (Nat.ne_of_lt hDz) hD₃
  have loS : (h₂.objs.size == sysModules) = false := F₂.notModules (modules_low hlim)
  refine merge_lines (Nat.ne_of_lt hDz) loS hD₃' hS₃ (by rw [List.nil_append, List.map_append, lnFrom_keys]; exact hn) (by rw [List.nil_append, lnFrom_length]; omega) fun h₄ hD₄ hs₄ => ?_
  have kp₄ : ∀ b o, b ≠ s.heap.objs.size → h₃.get? b = some o → h₄.get? b = some o := fun b o hb e => hs₄.extBut b o hb e
  rw [lnFrom_length] at hD₄ ⊢
  simp only [List.nil_append, Nat.zero_add] at hD₄
  refine hQ h₄ _ s.toks (Nat.le_refl _) (fr_but F₃ kp₄ hfr.1 hfr.2) ?_ szn (F.notModules (modules_low hlim)) (by show s.toks ≤ s.toks + 2 * r.length + r.length; omega)
  intro q hq
  rcases List.mem_cons.mp hq with rfl | hq
  · exact ⟨hD₄, hfr⟩
  · exact ⟨kp₄ _ _ (Nat.ne_of_lt (szn q hq)) (N₃ q hq).1, (N q hq).2⟩
end
end Mine
end

section
open PySem PySem.W PyProof.Rows PyProof.V PySem.Calls
set_option maxRecDepth 100000
namespace Mine
section
variable {prog : Program} {w : World} {A : Around} {E : Value → Shared → Prop} {s : Shared}
theorem pct_dq {y : Str} {t u : Tok} {Q : Value → Shared → Prop} (hy : y.length ≤ 1000000) (h : ∀ t' k, Q (.str (Str.ofString "\"" ++ y ++ Str.ofString "\"") t') { s with toks := k }) :
    wpAny (model prog w) A (binaryOp .Mod (.str (Str.ofString "\"%s\"") t) (.str y u)) Q E s := by
  refine' KPc.mod_str (T := fun y => Str.ofString "\"" ++ y ++ Str.ofString "\"") ?kpcF hy ?kpcm ?_
  case kpcF => kpc_eq
  case kpcm => kpc_run_s
  exact h
theorem pct_sq {y : Str} {t u : Tok} {Q : Value → Shared → Prop} (hy : y.length ≤ 1000000) (h : ∀ t' k, Q (.str (Str.ofString "'" ++ y ++ Str.ofString "'") t') { s with toks := k }) :
    wpAny (model prog w) A (binaryOp .Mod (.str (Str.ofString "'%s'") t) (.str y u)) Q E s := by
  refine' KPc.mod_str (T := fun y => Str.ofString "'" ++ y ++ Str.ofString "'") ?kpcF hy ?kpcm ?_
  case kpcF => kpc_eq
  case kpcm => kpc_run_s
  exact h
end
end Mine
end

section
open PySem PySem.W PyProof.Rows PyProof.V PySem.Calls
set_option maxRecDepth 100000
namespace Mine
def hasT (Y c : Str) : Bool := !(Builtin.Str.occurrences Y c 0 Y.length 1).isEmpty
abbrev dq : Str := Str.ofString "\""
abbrev sq : Str := Str.ofString "'"
/-- what quoteattr lays round a text -/
def quoted (Y : Str) : Str := if hasT Y dq = true then (if hasT Y sq = true then dq ++ Txt.replace Y dq (Str.ofString "&quot;") ++ dq else sq ++ Y ++ sq) else dq ++ Y ++ dq
section
variable {prog : Program} {w : World} {K : Frag} {p : Program} {loose : List Str} {mean : ExcName → Option Value} {mg mb : Str → Option Value}

theorem body_quoteattr {n : Nat} {f g : Addr} {qual : Str} {scope : Scope} {cdv : Value} {m : Str → Option Value} {x xe xg X Y : Str} {t : Tok} {d : Addr} {l : List Ln} {ep : Nat} {r : List (Str × Str)} {ks : List (Option Expr)} {vs : List Expr}
    {k1 k2 k3 k4 k5 k6 k7 : Nat} {a1 a2 a3 a4 b1 b2 b3 b4 b5 b6 c1 c2 c3 c4 d1 d2 d3 d4 e1 e2 e3 e4 e5 e6 e7 e8 e9 f1 f2 f3 f4 f5 g1 g2 g3 g4 g5 r1 r2 : Pos}
    (h : DPairs ks vs r) (h0 : r ≠ []) (hlen : r.length ≤ 15) (hll : l.length ≤ 900) (hn : (l.map (·.1) ++ r.map (·.1)).Nodup) (lo : (d == sysModules) = false)
    (hm : m x = some (.str X t)) (hme : m xe = some (.ref d)) (hxe : xe ≠ x)
    (hg : ∀ t D tk, 1 ≤ tk → (D == sysModules) = false → Gives prog w K p loose mean mg mb n g [.str X t, .ref D] (fun _ news => (D, dObj w (l ++ lnFrom tk r) (l.length + r.length)) ∈ news) (fun v ex => ex = [] ∧ ∃ t', v = .str Y t'))
    (hY : Y.length ≤ 1000000) (hYr : (Txt.replace Y dq (Str.ofString "&quot;")).length ≤ 1000000)
    (hp : (e6.endLine == e9.line) = true)
    (hgn : nsIn K mainGlobals xg = some (some (.ref g))) (hkp : keepIn K (.ref g) = true) (hk : scope.kind = .function)
    (hkx : ∀ L, (envOf qual scope L f cdv).kindOf x = some .local) (hke : ∀ L, (envOf qual scope L f cdv).kindOf xe = some .local) (hkg : ∀ L, (envOf qual scope L f cdv).kindOf xg = some .globalImplicit)
    (hsw : ∀ L, swapsWith (.Dict (none :: ks) (.Name xe a2 :: vs) a3) (some (.Name xe a1)) a4.line (envOf qual scope L f cdv) = pure false)
    (hdx : (x == ("__debug__" : Str)) = false) (hde : (xe == ("__debug__" : Str)) = false) (hdg : (xg == ("__debug__" : Str)) = false) :
    BodyGives prog w K p loose mean mg mb n f qual scope cdv
      [.Assign [.Name xe a1] (.Dict (none :: ks) (.Name xe a2 :: vs) a3) a4,
       .Assign [.Name x b1] (.Call (.Name xg b2) [.Name x b3, .Name xe b4] [] b5) b6,
       .If (.Compare (.Constant (.str dq) k1 c1) [.In] [.Name x c2] c3)
         [.If (.Compare (.Constant (.str sq) k2 d1) [.In] [.Name x d2] d3)
           [.Assign [.Name x e1] (.BinOp (.Constant (.str (Str.ofString "\"%s\"")) k3 e2) .Mod (.Call (.Attribute (.Name x e5) (Str.ofString "replace") e6) [.Constant (.str dq) k4 e7, .Constant (.str (Str.ofString "&quot;")) k5 e8] [] e9) e3) e4]
           [.Assign [.Name x f1] (.BinOp (.Constant (.str (Str.ofString "'%s'")) k6 f2) .Mod (.Name x f3) f4) f5] d4]
         [.Assign [.Name x g1] (.BinOp (.Constant (.str (Str.ofString "\"%s\"")) k7 g2) .Mod (.Name x g3) g4) g5] c4,
       .Return (some (.Name x r1)) r2] m
      (fun _ news => Stands K news d (dObj w l ep)) (fun v ex => ex = [] ∧ ∃ t', v = .str (quoted Y) t') := by
  intro A A₀ base outer g' L news s Q S F N h1 hr hpre hQ
  refine seq_let (h₀ := g') (cl := []) (hsw L) hk (hke L) ?_
  refine ev_star F N S.T.nolimit h h0 hlen hll hn lo (fun h' F' N' => hpre.at N' F' S.X) (fun s Q F' hq => nameX_L F' hme hq hk (hke L) hde) ?_
  intro h₁ tk₁ t₁ ht₁ F₁ N₁ hlt loD htk₁
  refine ⟨_, _, F₁, N₁, fun h₂ F₂ N₂ => ?_⟩
  generalize hDe : s.heap.objs.size = D at N₁ N₂ F₂ loD hlt
  have hneq : ∀ v, upd m xe v x = some (.str X t) := fun v => (upd_ne hxe.symm).trans hm
  refine wpAny_execs_cons (wpAny_Assign_Name (call_name (cl := []) (s := { s with heap := h₂, toks := tk₁ + 1 }) S F₂ hgn hkp (hkg L) hdg ?_ rfl rfl))
  refine spliced_more (nameX_L (s := { s with heap := h₂, toks := tk₁ + 1 }) F₂ (hneq _) (spliced_more (nameX_L (s := { s with heap := h₂, toks := tk₁ + 1 }) F₂ (upd_at ..) (spliced_none ⟨S.X.keeps F₂.keep, ?_⟩) hk (hke L) hde) rfl) hk (hkx L) hdx) rfl
  refine hg t D t₁ (Nat.le_trans h1 ht₁) loD A _ A₀ base outer g' L _ _ { s with heap := h₂, toks := tk₁ + 1 } _ _ S F₂ N₂ hr (.head _) ?_
  rintro v ex h₃ tk₃ F₃ N₃ _ htk₃ ⟨rfl, t₃, rfl⟩
  refine storeX_L (s := { s with heap := h₃, toks := tk₃ }) F₃ N₃ (fun h₄ F₄ N₄ => ?_) hk (hkx L)
  have N₅ : News g' L h₄ news := news_sub N₄ fun q hq => .tail _ hq
  have F₅ : Fr g' L h₄ (upd (upd m xe (.ref D)) x (.str Y t₃)) := F₄
  clear F₄ N₄ F₃ N₃
  have last : ∀ h' tk tz, Fr g' L h' (upd (upd m xe (.ref D)) x (.str (quoted Y) tz)) → News g' L h' news → 1 ≤ tk → wpAny (model prog w) A (execs [.Return (some (.Name x r1)) r2] (envOf qual scope L f cdv)) Q (fun _ _ => False) { s with heap := h', toks := tk } := by
    intro h' tk tz F' N' htk
    refine wpAny_execs_cons (st_return (cl := []) (s := { s with heap := h', toks := tk }) F' (upd_at ..) hk (hkx L) hdx ?_)
    exact hQ _ [] h' tk _ F' N' (fun _ _ _ hx => nomatch hx) htk ⟨rfl, tz, rfl⟩
  have set : ∀ (Z : Str) (t' : Tok) (k : Nat) (Q : Unit → Shared → Prop), (∀ h' , Fr g' L h' (upd (upd m xe (.ref D)) x (.str Z t')) → News g' L h' news → Q () { s with heap := h', toks := k + 1 }) →
      ∀ (px : Pos), wpAny (model prog w) A (storeName (envOf qual scope L f cdv) x (.str Z t')) Q (fun _ _ => False) { s with heap := h₄, toks := k } := by
    intro Z t' k Q hq px
    refine storeX_L (s := { s with heap := h₄, toks := k }) F₅ N₅ (fun h' F' N' => hq h' ?_ N') hk (hkx L)
    have := upd_upd (upd m xe (.ref D)) x (.str Y t₃) (.str Z t')
    rw [← this]; exact F'
  refine wpAny_execs_cons (wpAny_If (wpAny_isTrue_Compare1 (Calls.Constant_str (nameX_L (s := { s with heap := h₄, toks := tk₃ + 1 + 1 }) F₅ (upd_at ..) (in_str (wpAny_truthy_bool ?_)) hk (hkx L) hdx))))
  split
  · rename_i hq1
    have hq1 : hasT Y dq = true := hq1
    refine wpAny_execs_cons (wpAny_If (wpAny_isTrue_Compare1 (Calls.Constant_str (nameX_L (s := { s with heap := h₄, toks := tk₃ + 1 + 1 + 1 }) F₅ (upd_at ..) (in_str (wpAny_truthy_bool ?_)) hk (hkx L) hdx))))
    split
    · rename_i hq2
      have hq2 : hasT Y sq = true := hq2
      refine wpAny_execs_cons (wpAny_Assign_Name (wpAny_BinOp (Calls.Constant_str ?_)))
      refine ev_replace (cl := []) (s := { s with heap := h₄, toks := tk₃ + 1 + 1 + 1 + 1 }) F₅ (upd_at ..) (Nat.le_add_left _ _) hp (by decide +kernel) ?_ hk (hkx L) hdx fun t₆ k₆ hk₆ => ?_
      · have : (Str.ofString "&quot;").length = 6 := by decide +kernel
        rw [this]; omega
      refine pct_dq (s := { s with heap := h₄, toks := k₆ }) hYr fun t₇ k₇ => ?_
      refine set _ t₇ k₇ _ (fun h' F' N' => ?_) e1
      refine wpAny_execs_nil (wpAny_execs_nil (last h' (k₇ + 1) t₇ ?_ N' (Nat.le_add_left _ _)))
      unfold quoted
      rw [if_pos hq1, if_pos hq2]; exact F'
    · rename_i hq2
      have hq2 : ¬ hasT Y sq = true := hq2
      refine wpAny_execs_cons (wpAny_Assign_Name (wpAny_BinOp (Calls.Constant_str ?_)))
      refine nameX_L (s := { s with heap := h₄, toks := tk₃ + 1 + 1 + 1 + 1 }) F₅ (upd_at ..) ?_ hk (hkx L) hdx
      refine pct_sq (s := { s with heap := h₄, toks := tk₃ + 1 + 1 + 1 + 1 }) hY fun t₇ k₇ => ?_
      refine set _ t₇ k₇ _ (fun h' F' N' => ?_) f1
      refine wpAny_execs_nil (wpAny_execs_nil (last h' (k₇ + 1) t₇ ?_ N' (Nat.le_add_left _ _)))
      unfold quoted
      rw [if_pos hq1, if_neg hq2]; exact F'
  · rename_i hq1
    have hq1 : ¬ hasT Y dq = true := hq1
    refine wpAny_execs_cons (wpAny_Assign_Name (wpAny_BinOp (Calls.Constant_str ?_)))
    refine nameX_L (s := { s with heap := h₄, toks := tk₃ + 1 + 1 + 1 }) F₅ (upd_at ..) ?_ hk (hkx L) hdx
    refine pct_dq (s := { s with heap := h₄, toks := tk₃ + 1 + 1 + 1 }) hY fun t₇ k₇ => ?_
    refine set _ t₇ k₇ _ (fun h' F' N' => ?_) g1
    refine wpAny_execs_nil (last h' (k₇ + 1) t₇ ?_ N' (Nat.le_add_left _ _))
    unfold quoted
    rw [if_neg hq1]; exact F'
end
end Mine
end

section
open PySem PySem.W PyProof.Rows PyProof.V PySem.Calls
set_option maxRecDepth 100000
namespace Mine
/-- no token is booked in any state that the top leaves -/
theorem none_booked_K {K : Frag} {c : Value} {d : Option Addr} {es : Array DictEntry} {n : Nat} {sl : Array (Option Value)} (ho : K.lookup cStatics = some ⟨c, d, .dict es n, sl⟩) (hk : StrKeys es) (e : nsFind es sharingNotToldKey = none) : ∀ h, K.In h → NoneBooked h :=
  fun _ X => ⟨fun x => nsFind es x, ⟨_, es, n, X _ _ ho, rfl, hk, fun _ => rfl⟩, e⟩
end Mine
end

section
open PySem PySem.W PyProof.Rows PyProof.V PySem.Calls
set_option maxRecDepth 100000
namespace Mine
/-- Gives, with keywords -/
def GivesA (prog : Program) (w : World) (K : Frag) (p : Program) (loose : List Str) (mean : ExcName → Option Value) (mg mb : Str → Option Value) (n : Nat) (f : Addr) (vs : List Value) (kw : List (Str × Value))
    (pre : Heap → List (Addr × Obj) → Prop) (R : Value → List (Addr × Obj) → Prop) : Prop :=
  ∀ (A : Around) (env : Env) (A₀ : Around) (base : Heap) (outer : List Env) (h₀ : Heap) (L : Addr) (m : Str → Option Value) (news : List (Addr × Obj)) (s : Shared) (Q E : Value → Shared → Prop),
    Site K p loose mean mg mb A env A₀ base outer h₀ L → Fr h₀ L s.heap m → News h₀ L s.heap news → Room A n → pre base news →
    (∀ v ex h' tk', Fr h₀ L h' m → News h₀ L h' (ex ++ news) → (∀ q ∈ news, ∀ x ∈ ex, q.1 ≠ x.1) → 1 ≤ tk' → R v ex → Q v { s with heap := h', toks := tk' }) →
    wpAny (model prog w) A (call (.ref f) vs kw) Q E s
section
variable {prog : Program} {w : World} {K : Frag} {p : Program} {loose : List Str} {mean : ExcName → Option Value} {mg mb : Str → Option Value}
theorem gives_defA {n : Nat} {f : Addr} {vs : List Value} {kw : List (Str × Value)} {pre : Heap → List (Addr × Obj) → Prop} {R : Value → List (Addr × Obj) → Prop}
    {name qual : Str} {params : Arguments} {body : List Stmt} {scope : Scope} {dV kV doc pm cdv ct oc : Value} {an od : Option Addr} {osl : Array (Option Value)} {binds : List (Str × Value)}
    (ho : K.lookup f = some ⟨oc, od, .func (fnOf name qual params body scope dV kV doc pm an cdv ct), osl⟩) (hcd : codeIn K cdv qual = true)
    (hbind : ∀ s : Shared, K.In s.heap → BindsTo s (fnOf name qual params body scope dV kV doc pm an cdv ct) ⟨vs, kw⟩ binds) (hloc : ∀ y ∈ binds, scope.names.lookup y.1 = some .local)
    (hco : scope.isCoroutine = false) (hgen : scope.isGenerator = false) (hk : scope.kind = .function) (hcell : ∀ x ∈ scope.names, x.2 ≠ .cell)
    (hb : BodyGives prog w K p loose mean mg mb n f qual scope cdv body (fun y => binds.reverse.lookup y) pre R) (hne : 1 ≤ binds.length := by exact Nat.succ_le_succ (Nat.zero_le _)) :
    GivesA prog w K p loose mean mg mb (n + 1) f vs kw pre R := by
  intro A env A₀ base outer h₀ L m news s Q E S F N hr hpre hQ
  refine wpAny_call (code_def S.B F S.X N S.T S.hA S.hf S.hk ho hcd (by have := hr.1; omega) (hbind s (S.X.keeps F.keep)) hloc (fun g L' h₁ FG F' N' B' X' T' => ?_) hco hgen hk hcell)
  refine wpAny_mono (hb (A.deeper (envOf qual scope L' f cdv)) A base (env :: outer) g L' news _ _ ⟨B', X', T', ?_, rfl, hk, S.hh⟩ F' N' ?_ hr.deeper hpre (fun v ex h' tk' m' F₂ N₂ hne htk hR => ?_)) (fun _ _ x => x) (fun _ _ x => x.elim)
  · show A.frames.map _ = _
    rw [S.hA]; rfl
  · show 1 ≤ s.toks + binds.length; omega
  · exact leaveK_ F₂ N₂ fun F₃ N₃ => hQ v ex h' tk' F₃ N₃ hne htk hR

/-- what a thing says in an if -/
def TruthAt (prog : Program) (w : World) (news : List (Addr × Obj)) (v : Value) (b : Bool) : Prop :=
  ∀ (A : Around) (h₀ : Heap) (L : Addr) (m : Str → Option Value) (s : Shared) (Q : Bool → Shared → Prop) (E : Value → Shared → Prop), Fr h₀ L s.heap m → News h₀ L s.heap news → h₀.NoLimit → (∀ tk, s.toks ≤ tk → Q b { s with toks := tk }) → wpAny (model prog w) A (truthy v) Q E s

/-- html's escape -/
theorem body_html {n : Nat} {f : Addr} {qual : Str} {scope : Scope} {cdv : Value} {m : Str → Option Value} {x xq X : Str} {t : Tok} {v : Value} {b : Bool} {reps reps2 : List (Str × Str)} {sts sts2 : List Stmt} {q1 q2 r1 r2 : Pos}
    (hc : Chain x reps sts [.If (.Name xq q1) sts2 [] q2, .Return (some (.Name x r1)) r2]) (hc2 : Chain x reps2 sts2 [])
    (hm : m x = some (.str X t)) (hmq : m xq = some v) (hxq : xq ≠ x) (hf : Fits X reps) (hf2 : Fits (repls X reps) reps2)
    (hk : scope.kind = .function) (hkx : ∀ L, (envOf qual scope L f cdv).kindOf x = some .local) (hkq : ∀ L, (envOf qual scope L f cdv).kindOf xq = some .local)
    (hdx : (x == ("__debug__" : Str)) = false) (hdq : (xq == ("__debug__" : Str)) = false) :
    BodyGives prog w K p loose mean mg mb n f qual scope cdv sts m (fun _ news => TruthAt prog w news v b) (fun u ex => ex = [] ∧ ∃ t', u = .str (if b = true then repls (repls X reps) reps2 else repls X reps) t') := by
  intro A A₀ base outer g' L news s Q S F N h1 hr hpre hQ
  rw [← upd_same hm] at F
  refine exec_chain (cl := []) hk (hkx L) hdx hc hf F N h1 fun h' t' k F' N' hk' => ?_
  have hm2 : upd m x (.str (repls X reps) t') xq = some v := (upd_ne hxq).trans hmq
  refine wpAny_execs_cons (wpAny_If (isTrue_plain (nameX_L (s := { s with heap := h', toks := k }) F' hm2 ?_ hk (hkq L) hdq) rfl))
  refine hpre A g' L _ { s with heap := h', toks := k } _ _ F' N' S.T.nolimit fun tk htk => ?_
  have htk : k ≤ tk := htk
  cases b with
  | true =>
    simp only [if_true] at hQ ⊢
    refine exec_chain (cl := []) (s := { s with heap := h', toks := tk }) hk (hkx L) hdx hc2 hf2 F' N' (Nat.le_trans hk' htk) fun h₂ t₂ k₂ F₂ N₂ hk₂ => ?_
    refine wpAny_execs_nil (wpAny_execs_cons (st_return (cl := []) (s := { s with heap := h₂, toks := k₂ }) F₂ (upd_at ..) hk (hkx L) hdx ?_))
    exact hQ _ [] h₂ k₂ _ F₂ N₂ (fun _ _ _ hx => nomatch hx) hk₂ ⟨rfl, t₂, rfl⟩
  | false =>
    simp only [Bool.false_eq_true, if_false] at hQ ⊢
    refine wpAny_execs_nil (wpAny_execs_cons (st_return (cl := []) (s := { s with heap := h', toks := tk }) F' (upd_at ..) hk (hkx L) hdx ?_))
    exact hQ _ [] h' tk _ F' N' (fun _ _ _ hx => nomatch hx) (Nat.le_trans hk' htk) ⟨rfl, t', rfl⟩
end
end Mine
end

section
open PySem PySem.W PyProof.Rows PyProof.V PySem.Calls
set_option maxRecDepth 100000
namespace Mine
section
variable {prog : Program} {w : World} {A : Around} {E : Value → Shared → Prop} {s : Shared} {h₀ : Heap} {L : Addr} {m : Str → Option Value} {env : Env}
  {scope : Scope} {cl : List (Str × Addr)} {x : Str} {pos : Pos} {Q : Value → Shared → Prop}

/-- [elt for x in iter if ct]: iter a list -/
theorem comp_list_sel {α : Type} {ct elt iter : Expr} {px : Pos} (xs : List α) (g : α → Value) (ok : α → Bool) (g2 : α → Value) (hh : A.handled = none) (F : Fr h₀ L s.heap m)
    (hcl : closureFor scope env = pure cl) (hcell : ∀ y ∈ scope.names, y.2 ≠ .cell) (hk : scope.kind = .function) (hloc : ∀ y ∈ scope.names, y.2 = .local → scope.names.lookup y.1 = some .local) (hx : scope.names.lookup x = some .local)
    (hs : ∀ x, foldedSetIterable iter env x = pure x)
    (h : wpAny (model prog w) A (eval iter env) (fun xv s₁ => ∃ ax news, xv = .ref ax ∧ Fr h₀ L s₁.heap m ∧ News h₀ L s₁.heap news ∧ ListAt h₀ news ax (xs.map g) ∧ xs.length ≤ sizeLine ∧
      (∀ e C m₂ own s₂, e ∈ xs → s₂.heap.Ns C m₂ → m₂ x = some (g e) → Fr h₀ L s₂.heap m → News h₀ L s₂.heap (own ++ news) →
        wpAny (model prog w) A (isTrue ct (compEnvC scope cl C env) (eval ct (compEnvC scope cl C env))) (fun b s₃ => b = ok e ∧ ∃ h' tk, s₃ = { s₂ with heap := h', toks := tk } ∧ Fr h₀ L h' m ∧ News h₀ L h' (own ++ news)) (fun _ _ => False) s₂) ∧
      (∀ e C m₂ own s₂, e ∈ xs → ok e = true → s₂.heap.Ns C m₂ → m₂ x = some (g e) → Fr h₀ L s₂.heap m → News h₀ L s₂.heap (own ++ news) →
        wpAny (model prog w) A (eval elt (compEnvC scope cl C env)) (fun y s₃ => y = g2 e ∧ ∃ h' tk, s₃ = { s₂ with heap := h', toks := tk } ∧ Fr h₀ L h' m ∧ News h₀ L h' (own ++ news)) (fun _ _ => False) s₂) ∧
      (∀ D h' tk, Fr h₀ L h' m → News h₀ L h' ((D, LCg.lst ((xs.filter ok).map g2)) :: news) → (∀ q ∈ news, q.1 ≠ D) → Q (.ref D) { s₁ with heap := h', toks := tk })) E s) :
    wpAny (model prog w) A (eval (.ListComp elt [⟨.Name x px, iter, [ct], 0⟩] scope pos) env) Q E s := by
  refine LCt.ListComp_T (F₀ := F) hcl hcell hk hloc hx (wpAny_mono h ?_ fun _ _ x => x) hs
  rintro xv s₁ ⟨ax, news, rfl, F₁, N₁, hl, hlen, stept, step, fin⟩
  have hsrc : LCg.SrcAt h₀ ax (xs.map g).toArray news := by
    rcases hl with ⟨n, hm⟩ | hl
    · exact .inr ⟨_, hm, rfl, n, rfl⟩
    · exact .inl hl
  refine .inl ⟨ax, (xs.map g).toArray, news, rfl, hh, F₁, N₁, hsrc, by rw [List.size_toArray, List.length_map]; exact hlen, ?_⟩
  rintro s₂ ⟨hp₂, rfl⟩
  rw [List.size_toArray, List.length_map]
  have key : ∀ (j i : Nat), i + j = xs.length →
      LCt.CompRestT prog w A h₀ L m env ct elt x scope cl { s₁ with heap := hp₂ } (LCg.SrcAt h₀ ax (xs.map g).toArray) (fun i v => (xs.map g).toArray[i]? = some v) (LCg.FinE h₀ L m { s₁ with heap := hp₂ } Q) j i (((xs.take i).filter ok).map g2) news := by
    intro j
    induction j with
    | zero =>
      intro i hi
      refine LCt.CompRestT.zero fun D h' tk F' N' off => ?_
      rw [List.take_of_length_le (by omega)] at N'
      refine fin D h' tk F' N' ?_
      clear fin step stept N' N₁ hl hsrc
      induction news with
      | nil => intro q hq; nomatch hq
      | cons r rs ih =>
        intro q hq
        rcases List.mem_cons.mp hq with rfl | hq
        · exact off.1
        · exact ih off.2 q hq
    | succ j ih =>
      intro i hi
      refine LCt.CompRestT.succ fun v I oI C oC D m₂ h' tk E' hv hC hxv F' N' off ne => ?_
      have hi' : i < xs.length := by omega
      have hv' : v = g xs[i] := by
        have q : (xs.map g).toArray[i]? = some v := hv
        simp [hi'] at q
        exact q.symm
      subst hv'
      have hmem : xs[i] ∈ xs := List.getElem_mem hi'
      have htk : xs.take (i + 1) = xs.take i ++ [xs[i]] := by rw [List.take_add_one]; simp [hi']
      refine wpAny_mono (stept xs[i] C m₂ [(I, oI), (C, oC), (D, LCg.lst (((xs.take i).filter ok).map g2))] _ hmem (nsObj_ns hC (N' _ (.tail _ (.head _))).1) hxv F' N') ?_ (fun _ _ x => x.elim)
      rintro b s₃ ⟨rfl, h₃, tk₃, rfl, F₃, N₃⟩
      have ih' := ih (i + 1) (by omega)
      rw [htk, List.filter_append, List.map_append] at ih'
      cases hok : ok xs[i] with
      | true =>
        simp only [if_true]
        refine wpAny_mono (step xs[i] C m₂ [(I, oI), (C, oC), (D, LCg.lst (((xs.take i).filter ok).map g2))] _ hmem hok (nsObj_ns hC (N₃ _ (.tail _ (.head _))).1) hxv F₃ N₃) ?_ (fun _ _ x => x.elim)
        rintro y s₄ ⟨rfl, h₄, tk₄, rfl, F₄, N₄⟩
        refine ⟨h₄, tk₄, news, rfl, F₄, N₄, off, hsrc, ?_⟩
        simpa [List.filter_cons, hok] using ih'
      | false =>
        simp only [Bool.false_eq_true, if_false]
        refine ⟨h₃, tk₃, news, rfl, F₃, N₃, off, hsrc, ?_⟩
        simpa [List.filter_cons, hok] using ih'
  simpa using key xs.length 0 (by omega)
end
end Mine
end

section
open PySem PySem.W PyProof.Rows PyProof.V PySem.Calls
set_option maxRecDepth 100000
namespace Mine
section
variable {prog : Program} {w : World} {news : List (Addr × Obj)}
theorem truthAt_int {i : Int} {t : Tok} : TruthAt prog w news (.int i t) (i != 0) := fun _ _ _ _ _ _ _ _ _ _ h => P.truthy_int (h _ (Nat.le_refl _))
theorem truthAt_str {x : Str} {t : Tok} (hx : x.length ≤ 1000000) : TruthAt prog w news (.str x t) ((x.length : Int) != 0) := fun _ _ _ _ s _ _ _ _ _ h => P.truthy_str (by omega) (h (s.toks + 1 + 1) (Nat.le_add_right _ 2))
theorem truthAt_none : TruthAt prog w news .none false := fun _ _ _ _ _ _ _ _ _ _ h => truthy_none (h _ (Nat.le_refl _))
theorem truthAt_list {a : Addr} {vs : List Value} (h : (a, lstO vs) ∈ news) (hl : vs.length ≤ 1000) : TruthAt prog w news (.ref a) (!vs.toArray.isEmpty) :=
  fun _ _ _ _ s _ _ _ N _ k => wpAny_truthy_list ⟨_, (N _ h).1, rfl, _, rfl⟩ (by rw [List.size_toArray]; omega) (k (s.toks + 1 + 1) (Nat.le_add_right _ 2))
theorem truthAt_tup {a : Addr} {vs : List Value} (h : (a, tupO vs) ∈ news) (hl : vs.length ≤ 1000) : TruthAt prog w news (.ref a) (!vs.toArray.isEmpty) :=
  fun _ _ _ _ s _ _ _ N _ k => truthy_tuple (items := vs.toArray) ⟨_, (N _ h).1, rfl, _, rfl⟩ (by rw [List.size_toArray]; omega) (k (s.toks + 1 + 1) (Nat.le_add_right _ 2))
theorem truthAt_dict {a : Addr} {o : Obj} {kvs : List (Int × Value)} (h : (a, o) ∈ news) (ho : o.IsDictOf (intKind prog w) kvs) (lo : (a == sysModules) = false) (hl : kvs.length ≤ 1000) : TruthAt prog w news (.ref a) (!kvs.isEmpty) :=
  fun _ _ _ _ s _ _ _ N _ k => wpAny_truthy_dict lo (Heap.dictOf_iff.mpr ⟨o, (N _ h).1, ho⟩) (by omega) (k (s.toks + 1 + 1) (Nat.le_add_right _ 2))

/-- {i: j} -/
theorem ev_dict_int1 {A : Around} {E : Value → Shared → Prop} {s : Shared} {env : Env} {h₀ : Heap} {L : Addr} {m : Str → Option Value} {i j : Int} {n1 n2 : Nat} {p1 p2 pos : Pos} {Q : Value → Shared → Prop}
    (F : Fr h₀ L s.heap m) (N : News h₀ L s.heap news) (hlim : h₀.NoLimit)
    (hQ : ∀ h' tk o kvs, Fr h₀ L h' m → News h₀ L h' ((s.heap.objs.size, o) :: news) → o.IsDictOf (intKind prog w) kvs → kvs.length = 1 → (s.heap.objs.size == sysModules) = false → s.toks ≤ tk → Q (.ref s.heap.objs.size) { s with heap := h', toks := tk }) :
    wpAny (model prog w) A (eval (.Dict [some (.Constant (.int i) n1 p1)] [.Constant (.int j) n2 p2] pos) env) Q E s := by
  have hpl := pairTrees_length [some (.Constant (.int i) n1 p1)] [.Constant (.int j) n2 p2] env pos rfl rfl
  have hz := zip_pairTrees [some (.Constant (.int i) n1 p1)] [.Constant (.int j) n2 p2] env pos rfl rfl
  refine wpAny_Dict_pairs (knd := intKind prog w) hz (by intro h; rw [h] at hpl; cases hpl) (by rw [hpl]; exact Nat.le_of_ble_eq_true rfl) ?_
  refine pairTrees_cons_walk (wpAny_Constant_int (wpAny_Constant_int (pairTrees_nil_walk ?_)))
  refine ⟨[(i, .int j (s.toks + 1))], ⟨intKind_is prog w i _, rfl, trivial⟩, Heap.DictOf.new _, fun h' hd hs => ?_⟩
  obtain ⟨o, ho, hod⟩ := Heap.dictOf_iff.mp hd
  have hfr := fr_fresh F (a := s.heap.objs.size) (Nat.le_refl _)
  have szn : ∀ q ∈ news, q.1 < s.heap.objs.size := fun q hq => Heap.lt_size (N q hq).1
  have kp : ∀ b o, b ≠ s.heap.objs.size → (s.heap.push { cls := .type "dict", data := .dict #[] }).get? b = some o → h'.get? b = some o := fun b o hb e => hs.extBut b o hb e
  refine hQ h' _ o _ (fr_but (F.push _) kp hfr.1 hfr.2) ?_ hod rfl (F.notModules (modules_low hlim)) (by show s.toks ≤ s.toks + 1 + 1 + 1; omega)
  intro q hq
  rcases List.mem_cons.mp hq with rfl | hq
  · exact ⟨ho, hfr⟩
  · exact ⟨kp _ _ (Nat.ne_of_lt (szn q hq)) (Heap.get?_push_of_some _ (N q hq).1), (N q hq).2⟩
end
end Mine
end

section
open PySem PySem.W PyProof.Rows PyProof.V PySem.Calls
set_option maxRecDepth 100000
namespace Mine
theorem TruthAt.mono {prog : Program} {w : World} {news nx : List (Addr × Obj)} {v : Value} {b : Bool} (h : TruthAt prog w news v b) (hs : ∀ q ∈ news, q ∈ nx) : TruthAt prog w nx v b :=
  fun A h₀ L m s Q E F N hl k => h A h₀ L m s Q E F (news_sub N hs) hl k

/-- a thing of a display: its expression, what it says in an if -/
inductive Thing : Expr → Bool → Prop
  | bool {b : Bool} {n : Nat} {p : Pos} : Thing (.Constant (.bool b) n p) b
  | int {i : Int} {n : Nat} {p : Pos} : Thing (.Constant (.int i) n p) (i != 0)
  | str {x : Str} {n : Nat} {p : Pos} (hx : x.length ≤ 1000000) : Thing (.Constant (.str x) n p) ((x.length : Int) != 0)
  | none {n : Nat} {p : Pos} : Thing (.Constant .none n p) false
  | neg {i : Int} {n : Nat} {p q : Pos} : Thing (.UnaryOp .USub (.Constant (.int i) n p) q) (-i != 0)
  | list0 {p : Pos} : Thing (.List [] p) false
  | list1 {i : Int} {n : Nat} {p q : Pos} : Thing (.List [.Constant (.int i) n p] q) true
  | tup0 {k : Nat} {p : Pos} : Thing (.Tuple [] k p) false
  | tup1 {i : Int} {n k : Nat} {p q : Pos} : Thing (.Tuple [.Constant (.int i) n p] k q) true
  | dict1 {i j : Int} {n1 n2 : Nat} {p1 p2 p : Pos} : Thing (.Dict [some (.Constant (.int i) n1 p1)] [.Constant (.int j) n2 p2] p) true

section
variable {prog : Program} {w : World} {A : Around} {env : Env} {h₀ : Heap} {L : Addr} {m : Str → Option Value}
theorem ev_thing {e : Expr} {b : Bool} (ht : Thing e b) {s : Shared} {news : List (Addr × Obj)} {Q E : Value → Shared → Prop} (F : Fr h₀ L s.heap m) (N : News h₀ L s.heap news) (hlim : h₀.NoLimit)
    (hQ : ∀ v h' tk nx, Fr h₀ L h' m → News h₀ L h' nx → (∀ q ∈ news, q ∈ nx) → TruthAt prog w nx v b → Q v { s with heap := h', toks := tk }) :
    wpAny (model prog w) A (eval e env) Q E s := by
  cases ht with
  | bool => exact wpAny_Constant_bool (hQ _ s.heap s.toks news F N (fun _ h => h) (fun _ _ _ _ _ _ _ _ _ _ h => wpAny_truthy_bool (h _ (Nat.le_refl _))))
  | int => exact wpAny_Constant_int (hQ _ s.heap (s.toks + 1) news F N (fun _ h => h) truthAt_int)
  | str hx => exact wpAny_Constant_str (hQ _ s.heap (s.toks + 1) news F N (fun _ h => h) (truthAt_str hx))
  | none => exact Constant_none (hQ _ s.heap s.toks news F N (fun _ h => h) truthAt_none)
  | neg => exact UnaryOp_ (wpAny_Constant_int (P.neg_int (hQ _ s.heap (s.toks + 1 + 1) news F N (fun _ h => h) truthAt_int)))
  | list0 => exact List_ (spliced_none (newList_N F N (fun h' F' N' => hQ _ h' s.toks _ F' N' (fun _ h => .tail _ h) (truthAt_list (vs := []) (.head _) (Nat.zero_le _))) (Nat.le_of_ble_eq_true rfl)))
  | list1 =>
    refine List_ (spliced_more (wpAny_Constant_int (spliced_none ?_)) rfl)
    exact newList_N (s := { s with toks := s.toks + 1 }) F N (fun h' F' N' => hQ _ h' (s.toks + 1) _ F' N' (fun _ h => .tail _ h) (truthAt_list (vs := [_]) (.head _) (Nat.le_of_ble_eq_true rfl))) (Nat.le_of_ble_eq_true rfl)
  | tup0 => exact Tuple_ (spliced_none (newTuple_N F N (fun h' F' N' => hQ _ h' s.toks _ F' N' (fun _ h => .tail _ h) (truthAt_tup (vs := []) (.head _) (Nat.zero_le _))) (Nat.le_of_ble_eq_true rfl)))
  | tup1 =>
    refine Tuple_ (spliced_more (wpAny_Constant_int (spliced_none ?_)) rfl)
    exact newTuple_N (s := { s with toks := s.toks + 1 }) F N (fun h' F' N' => hQ _ h' (s.toks + 1) _ F' N' (fun _ h => .tail _ h) (truthAt_tup (vs := [_]) (.head _) (Nat.le_of_ble_eq_true rfl))) (Nat.le_of_ble_eq_true rfl)
  | dict1 =>
    exact ev_dict_int1 F N hlim fun h' tk o kvs F' N' ho hk lo _ => hQ _ h' tk _ F' N' (fun _ h => .tail _ h) (by
      have := truthAt_dict (prog := prog) (w := w) (news := (s.heap.objs.size, o) :: news) (.head _) ho lo (by omega)
      cases kvs with
      | nil => simp at hk
      | cons a r => exact this)

inductive Things : List Expr → List Bool → Prop
  | nil : Things [] []
  | cons {e : Expr} {b : Bool} {es : List Expr} {bs : List Bool} (h : Thing e b) (hr : Things es bs) : Things (e :: es) (b :: bs)
theorem Thing.star {e : Expr} {b : Bool} (h : Thing e b) (es : List Expr) (env : Env) : starEach (e :: es) env = (false, eval e env) :: starEach es env := by cases h <;> rfl

theorem ev_things {es : List Expr} {bs : List Bool} (ht : Things es bs) {pos : Pos} (hlim : h₀.NoLimit) : ∀ {s : Shared} {news : List (Addr × Obj)} {Q : List Value → Shared → Prop} {E : Value → Shared → Prop}, Fr h₀ L s.heap m → News h₀ L s.heap news →
    (∀ vs h' tk nx, Fr h₀ L h' m → News h₀ L h' nx → (∀ q ∈ news, q ∈ nx) → vs.length = bs.length → (∀ (k : Nat) (v : Value) (b : Bool), vs[k]? = some v → bs[k]? = some b → TruthAt prog w nx v b) → Q vs { s with heap := h', toks := tk }) →
    wpAny (model prog w) A (spliced (backTo pos (starEach es env))) Q E s := by
  induction ht with
  | nil => intro s news Q E F N hQ; exact spliced_none (hQ [] s.heap s.toks news F N (fun _ h => h) rfl (fun k v b h => by simp at h))
  | cons h _ ih =>
    intro s news Q E F N hQ
    refine spliced_more (ev_thing h F N hlim fun v h' tk nx F' N' hs hT => ?_) (h.star _ _)
    refine ih F' N' fun vs h'' tk' nx' F'' N'' hs' hl hT' => ?_
    refine hQ (v :: vs) h'' tk' nx' F'' N'' (fun q hq => hs' q (hs q hq)) (by simp [hl]) fun k v' b' hv hb => ?_
    cases k with
    | zero => simp at hv hb; subst hv; subst hb; exact hT.mono hs'
    | succ k => exact hT' k v' b' (by simpa using hv) (by simpa using hb)

/-- a list display of things -/
theorem ev_thing_list {es : List Expr} {bs : List Bool} (ht : Things es bs) {pos : Pos} {s : Shared} {news : List (Addr × Obj)} {Q E : Value → Shared → Prop} (F : Fr h₀ L s.heap m) (N : News h₀ L s.heap news) (hlim : h₀.NoLimit) (hlen : bs.length ≤ 1000)
    (hQ : ∀ h' tk a vs nx, Fr h₀ L h' m → News h₀ L h' nx → (a, lstO vs) ∈ nx → (∀ q ∈ news, q ∈ nx) → vs.length = bs.length → (∀ (k : Nat) (v : Value) (b : Bool), vs[k]? = some v → bs[k]? = some b → TruthAt prog w nx v b) → Q (.ref a) { s with heap := h', toks := tk }) :
    wpAny (model prog w) A (eval (.List es pos) env) Q E s := by
  refine List_ (ev_things ht hlim F N fun vs h' tk nx F' N' hs hl hT => ?_)
  exact newList_N (s := { s with heap := h', toks := tk }) F' N' (fun h₂ F₂ N₂ => hQ h₂ tk _ vs _ F₂ N₂ (.head _) (fun q hq => .tail _ (hs q hq)) hl (fun k v b hv hb => (hT k v b hv hb).mono fun _ h => .tail _ h)) (by rw [sizeLine_eq]; omega)
end
end Mine
end

section
open PySem PySem.W PyProof.Rows PyProof.V PySem.Calls
set_option maxRecDepth 100000
namespace Mine
section
variable {prog : Program} {w : World} {A : Around} {E : Value → Shared → Prop}

/-- a dict comprehension's turns, the target a pair -/
theorem dcomp_loop {kx vx target iter : Expr} {scope : Scope} {pos : Pos} {it : Value} {D : Addr} {env : Env} {R : Result → Shared → Prop} {s : Shared} (I : Nat → Shared → Prop)
    (turn : ∀ n s, I n s → wpAny (model prog w) A (pyNext it) (fun r s₁ => match r with
      | none => R (.ok .next) s₁
      | some v => wpAny (model prog w) A (letOwnedTupleGo target it v) (fun _ s₀ => wpAny (model prog w) A (assign target env v) (fun _ s₃ =>
          wpAny (model prog w) A (eval kx env) (fun kv s₄ => wpAny (model prog w) A (eval vx env) (fun vv s₅ =>
              wpAny (model prog w) A (dictSet D kv vv) (fun _ s₆ => ∃ m, m < n ∧ I m s₆) (notedBy (model prog w) A env fun e s' => R (.error e) s') s₅) (notedBy (model prog w) A env fun e s' => R (.error e) s') s₄) (notedBy (model prog w) A env fun e s' => R (.error e) s') s₃)
            (notedBy (model prog w) A env fun e s' => R (.error e) s') s₀) (notedBy (model prog w) A env fun e s' => R (.error e) s') s₁) (notedBy (model prog w) A env fun e s' => R (.error e) s') s)
    (n : Nat) (h : I n s) :
    codeAny (model prog w) A (.compLoop (.DictComp kx vx [⟨target, iter, [], 0⟩] scope pos) 0 it (.ref D) env) R s := by
  refine codeAny_loop rfl I (fun n s hI => ?_) n h
  show wpAny _ A ((compTurn (.DictComp kx vx [⟨target, iter, [], 0⟩] scope pos) 0 it (.ref D) env).onRaise (fun x => do noteFrame x env; theTreesLotGoes x)) _ _ s
  refine wpAny_noted ?_
  rw [compTurn_dict]
  refine wpAny_bind (wpAny_standAt (wpAny_bind (wpAny_mono (turn n s hI) (fun r s₁ h₁ => ?_) fun _ _ h' => h')))
  cases r with
  | none => exact wpAny_pure h₁
  | some v =>
    refine wpAny_bind (wpAny_mono h₁ (fun _ s₀ h₀ => ?_) fun _ _ h' => h')
    refine wpAny_bind (wpAny_mono h₀ (fun _ s₃ h₃ => ?_) fun _ _ h' => h')
    refine wpAny_bind (wpAny_tests_nil ?_)
    exact wpAny_bind (wpAny_bind (wpAny_mono h₃ (fun kv s₄ h₄ => wpAny_bind (wpAny_holding (wpAny_mono h₄ (fun vv s₅ h₅ => wpAny_bind (wpAny_standAt (wpAny_holding (wpAny_mono h₅ (fun _ s₆ h₆ => wpAny_pure ⟨rfl, h₆⟩) fun _ _ h' => h')))) fun _ _ h' => h'))) fun _ _ h' => h'))

variable {s : Shared} {h₀ : Heap} {L : Addr} {m : Str → Option Value} {env : Env} {news : List (Addr × Obj)} {scope : Scope} {cl : List (Str × Addr)} {Q : Value → Shared → Prop}

theorem fr_less {h₀ h h' : Heap} {L I : Addr} {m : Str → Option Value} (F : Fr h₀ L h m) (hs : Heap.SameBut I h h') (hI : I ≠ L ∧ h₀.get? I = none) : Fr h₀ L h' m := fr_but F (fun b o hb e => hs.extBut b o hb e) hI.1 hI.2

/-- {x1: x2 for x1, x2 in xl}: xl a list of pairs of texts -/
theorem comp_dict_pairs {iter : Expr} {x1 x2 : Str} {p1 p2 pt pos q1 q2 : Pos} {kk : Nat} {B : Addr} {es : List (Addr × Ln)} (hh : A.handled = none) (F : Fr h₀ L s.heap m) (N : News h₀ L s.heap news)
    (hB : ListAt h₀ news B (es.map fun e => Value.ref e.1)) (hes : ∀ e ∈ es, (e.1, tupO [.str e.2.1 e.2.2.1, .str e.2.2.2.1 e.2.2.2.2]) ∈ news) (hlen : es.length ≤ 1000) (hn : ((es.map (·.2)).map (·.1)).Nodup) (hlim : h₀.NoLimit)
    (hcl : closureFor scope env = pure cl) (hcell : ∀ y ∈ scope.names, y.2 ≠ .cell) (hk : scope.kind = .function) (hloc : ∀ y ∈ scope.names, y.2 = .local → scope.names.lookup y.1 = some .local) (hx1 : scope.names.lookup x1 = some .local) (hx2 : scope.names.lookup x2 = some .local)
    (hne : x1 ≠ x2) (hd1 : (x1 == ("__debug__" : Str)) = false) (hd2 : (x2 == ("__debug__" : Str)) = false)
    (hs : ∀ x, foldedSetIterable iter env x = pure x)
    (hit : ∀ Q : Value → Shared → Prop, Q (.ref B) s → wpAny (model prog w) A (eval iter env) Q E s)
    (fin : ∀ D h' tk, Fr h₀ L h' m → News h₀ L h' ((D, dObj w (es.map (·.2)) es.length) :: news) → (∀ q ∈ news, q.1 ≠ D) → (D == sysModules) = false → Q (.ref D) { s with heap := h', toks := tk }) :
    wpAny (model prog w) A (eval (.DictComp (.Name x1 q1) (.Name x2 q2) [⟨.Tuple [.Name x1 p1, .Name x2 p2] kk pt, iter, [], 0⟩] scope pos) env) Q E s := by
  rw [arm_eval_DictComp]
  have hls : s.heap.IsList B (es.map fun e => Value.ref e.1).toArray := hB.at F N
  refine wpAny_comprehension_free (use := none) rfl hs hcl hk hloc (hit _ (wpAny_pyIter_list hls ?_))
  have FI := F.push { cls := .type "list_iterator", data := .fields #[.ref B, .int 0 0] }
  have hI : (s.heap.push { cls := .type "list_iterator", data := .fields #[.ref B, .int 0 0] }).IsListIter s.heap.objs.size B 0 := ⟨_, Heap.get?_push_size s.heap (o := { cls := .type "list_iterator", data := .fields #[.ref B, .int 0 0] }) rfl, rfl, rfl⟩
  have NI : News h₀ L (s.heap.push { cls := .type "list_iterator", data := .fields #[.ref B, .int 0 0] }) news := fun q hq => ⟨Heap.get?_push_of_some _ (N q hq).1, (N q hq).2⟩
  have zI : (s.heap.push { cls := .type "list_iterator", data := .fields #[.ref B, .int 0 0] }).objs.size = s.heap.objs.size + 1 := Heap.size_push ..
  generalize hHI : s.heap.push { cls := .type "list_iterator", data := .fields #[.ref B, .int 0 0] } = HI at FI hI NI zI ⊢
  refine wpAny_newObj_type (wpAny_newFunctionEnv hcell (by intro y hy; simp at hy) (fun h₁ hns₁ hsb₁ => ?_) hk)
  dsimp only at hns₁ hsb₁ ⊢
  have FD := FI.push { cls := .type "dict", dict := none, data := .dict #[] }
  have hDg := Heap.get?_push_size HI (o := { cls := .type "dict", dict := none, data := .dict #[] }) rfl
  have hI2 : (HI.push { cls := .type "dict", dict := none, data := .dict #[] }).IsListIter s.heap.objs.size B 0 := hI.at fun o e => Heap.get?_push_of_some _ e
  have ND : News h₀ L (HI.push { cls := .type "dict", dict := none, data := .dict #[] }) news := fun q hq => ⟨Heap.get?_push_of_some _ (NI q hq).1, (NI q hq).2⟩
  have zD : (HI.push { cls := .type "dict", dict := none, data := .dict #[] }).objs.size = s.heap.objs.size + 2 := by rw [Heap.size_push, zI]
  rw [zI] at hDg ⊢
  generalize hHD : HI.push { cls := .type "dict", dict := none, data := .dict #[] } = HD at FD hDg hI2 ND zD hns₁ hsb₁ ⊢
  rw [zD] at hns₁ hsb₁ ⊢
  have keep₁ : ∀ b o, b < s.heap.objs.size + 2 → HD.get? b = some o → h₁.get? b = some o := fun b o hb e => hsb₁.extBut b o (Nat.ne_of_lt hb) (Heap.get?_push_of_some _ e)
  have szL := F.ns.lt
  have szn : ∀ q ∈ news, q.1 < s.heap.objs.size := fun q hq => Heap.lt_size (N q hq).1
  have F₁ : Fr h₀ L h₁ m := fr_but FD (fun b o hb e => keep₁ b o (by have := Heap.lt_size e; rw [zD] at this; exact this) e) (fr_fresh F (a := s.heap.objs.size + 2) (by omega)).1 (fr_fresh F (a := s.heap.objs.size + 2) (by omega)).2
  have N₁ : News h₀ L h₁ news := fun q hq => ⟨keep₁ _ _ (Nat.lt_trans (szn q hq) (by omega)) (ND q hq).1, (ND q hq).2⟩
  have freshI := fr_fresh F (a := s.heap.objs.size) (Nat.le_refl _)
  have freshD := fr_fresh F (a := s.heap.objs.size + 1) (by omega)
  have freshC := fr_fresh F (a := s.heap.objs.size + 2) (by omega)
  have nI : ∀ q ∈ news, q.1 ≠ s.heap.objs.size := fun q hq => Nat.ne_of_lt (szn q hq)
  have nD : ∀ q ∈ news, q.1 ≠ s.heap.objs.size + 1 := fun q hq => Nat.ne_of_lt (Nat.lt_trans (szn q hq) (by omega))
  have nC : ∀ q ∈ news, q.1 ≠ s.heap.objs.size + 2 := fun q hq => Nat.ne_of_lt (Nat.lt_trans (szn q hq) (by omega))
  have loD : (s.heap.objs.size + 1 == sysModules) = false := beq_eq_false_iff_ne.mpr (Nat.ne_of_gt (Nat.lt_of_lt_of_le (modules_low hlim) (Nat.le_trans F.above (Nat.le_of_lt (Nat.lt_trans szL (Nat.lt_succ_self _))))))
  generalize s.heap.objs.size = Z at *
  have e20 : (Z + 2 : Nat) ≠ Z := by omega
  have e02 : (Z : Nat) ≠ Z + 2 := by omega
  have e12 : (Z + 1 : Nat) ≠ Z + 2 := by omega
  have e21 : (Z + 2 : Nat) ≠ Z + 1 := by omega
  have e10 : (Z + 1 : Nat) ≠ Z := by omega
  have e01 : (Z : Nat) ≠ Z + 1 := by omega
  let cenv := compEnvC scope cl (Z + 2) env
  have hkx1 : cenv.kindOf x1 = some .local := lookup_relabel_local hx1
  have hkx2 : cenv.kindOf x2 = some .local := lookup_relabel_local hx2
  have hfk : cenv.scope.kind = .function := by simp [cenv, compEnvC, relabel, hk]
  have hpk : (cenv.scope.kind == .class || (cenv.scope.kind == .module && cenv.locals != cenv.globals)) = false := by simp [cenv, compEnvC, relabel, hk]
  have loop : ∀ s₃ : Shared, s₃ = { s with heap := h₁, toks := s.toks + ([] : List (Str × Value)).length } →
      codeAny (model prog w) A (.compLoop (.DictComp (.Name x1 q1) (.Name x2 q2) [⟨.Tuple [.Name x1 p1, .Name x2 p2] kk pt, iter, [], 0⟩] scope pos) 0 (.ref Z) (.ref (Z + 1)) cenv) (compPost (model prog w) A E none Q (.ref (Z + 1)) (Z + 2)) s₃ := by
    rintro s₃ rfl
    refine dcomp_loop (fun k s' => ∃ i h' tk m', s' = { s with heap := h', toks := tk } ∧ i ≤ es.length ∧ k = es.length + 1 - i ∧ h'.IsListIter Z B i ∧ h'.Ns (Z + 2) m' ∧
      h'.get? (Z + 1) = some (dObj w ((es.take i).map (·.2)) i) ∧ Fr h₀ L h' m ∧ News h₀ L h' news) ?_ (es.length + 1)
      ⟨0, h₁, _, _, rfl, Nat.zero_le _, rfl, hI2.at fun o e => keep₁ _ _ (by omega) e, hns₁, by simpa [dObj] using keep₁ _ _ (by omega) hDg, F₁, N₁⟩
    rintro k s' ⟨i, h', tk, m', rfl, hi, rfl, hit', hns', hD', F', N'⟩
    have hls' : h'.IsList B (es.map fun e => Value.ref e.1).toArray := hB.at F' N'
    by_cases hlt : i < es.length
    · have hle : es[i]? = some es[i] := by simp [hlt]
      have hmem : es[i] ∈ es := List.getElem_mem hlt
      refine wpAny_pyNext_list_item (x := .ref es[i].1) hit' hls' (by simp [hlt]) fun h₂ hit₂ hs₂ => ?_
      have k₂ : ∀ b o, b ≠ Z → h'.get? b = some o → h₂.get? b = some o := fun b o hb e => hs₂.extBut b o hb e
      have hns₂ := hns'.sameBut hs₂ e20
      have F₂ : Fr h₀ L h₂ m := fr_but F' k₂ freshI.1 freshI.2
      have N₂ : News h₀ L h₂ news := news_but N' k₂ nI
      have hT₂ : h₂.IsTuple es[i].1 #[.str es[i].2.1 es[i].2.2.1, .str es[i].2.2.2.1 es[i].2.2.2.2] := ⟨_, (N₂ _ (hes _ hmem)).1, rfl, _, rfl⟩
      refine wpAny_letOwnedTupleGo_listiter (s := { s with heap := h₂, toks := tk }) hit₂ ?_
      have hD₂ := k₂ _ _ e10 hD'
      refine kcp_assign (s := { s with heap := h₂, toks := tk }) hh hT₂ hkx1 hkx2 hpk hns₂ fun h₃ tk₃ hns₃ k₃ => ?_
      have F₃ : Fr h₀ L h₃ m := fr_but F₂ k₃ freshC.1 freshC.2
      have N₃ : News h₀ L h₃ news := news_but N₂ k₃ nC
      have hD₃ := k₃ _ _ e12 hD₂
      refine wpAny_Name (wpAny_loadName_local (s := { s with heap := h₃, toks := tk₃ }) (v := .str es[i].2.1 es[i].2.2.1) hfk hkx1 hns₃ (by simp [hne]) ?_) hd1
      refine wpAny_Name (wpAny_loadName_local (s := { s with heap := h₃, toks := tk₃ }) (v := .str es[i].2.2.2.1 es[i].2.2.2.2) hfk hkx2 hns₃ (by simp) ?_) hd2
      have htk : (es.take (i + 1)).map (·.2) = (es.take i).map (·.2) ++ [es[i].2] := by rw [List.take_add_one, hle, List.map_append]; rfl
      refine dictSet_new (s := { s with heap := h₃, toks := tk₃ }) (k := es[i].2.1) (t := es[i].2.2.1) (v := es[i].2.2.2.1) (u := es[i].2.2.2.2) hD₃ ?_ (by rw [sizeLine_eq, List.length_map, List.length_take]; omega) fun h₆ hD₆ hs₆ => ?_
      · have hsub : (((es.take (i + 1)).map (·.2)).map (·.1)).Nodup := by
          rw [List.map_take, List.map_take]
          exact hn.sublist (List.take_sublist ..)
        rw [htk, List.map_append, List.nodup_append] at hsub
        intro hin
        exact hsub.2.2 _ hin _ (by simp) rfl
      · have k₆ : ∀ b o, b ≠ Z + 1 → h₃.get? b = some o → h₆.get? b = some o := fun b o hb e => hs₆.extBut b o hb e
        exact ⟨_, by omega, i + 1, h₆, _, _, rfl, hlt, rfl, hit₂.at fun o e => k₆ _ _ e01 (k₃ _ _ e02 e), hns₃.sameBut hs₆ e21, by rw [htk]; exact hD₆, fr_but F₃ k₆ freshD.1 freshD.2, news_but N₃ k₆ nD⟩
    · have hin : i = es.length := by omega
      subst hin
      refine wpAny_pyNext_list_end hh hit' hls' (by simp) fun h₂ hs₂ => ?_
      refine ⟨m', hns'.extBut hs₂ e20, fun h₃ hs₃ => ?_⟩
      have k₂ : ∀ b o, b ≠ Z → h'.get? b = some o → h₂.get? b = some o := fun b o hb e => hs₂ b o hb e
      have k₃ : ∀ b o, b ≠ Z + 2 → h₂.get? b = some o → h₃.get? b = some o := fun b o hb e => hs₃.extBut b o hb e
      refine fin (Z + 1) h₃ tk (fr_but (fr_but F' k₂ freshI.1 freshI.2) k₃ freshC.1 freshC.2) ?_ nD loD
      intro q hq
      rcases List.mem_cons.mp hq with rfl | hq
      · rw [List.take_length] at hD'
        exact ⟨k₃ _ _ e12 (k₂ _ _ e10 hD'), freshD⟩
      · exact news_but (news_but N' k₂ nI) k₃ nC q hq
  have hKI : h₁.IsListIter Z B 0 := hI2.at fun o e => keep₁ _ _ (by omega) e
  exact codeAny_compStart_dict (loop _ rfl) (wpAny_pyIter_listiter hKI (loop _ rfl))
end
end Mine
end

section
open PySem PySem.W PyProof.Rows PyProof.V PySem.Calls
set_option maxRecDepth 100000
namespace Mine

/-- what a frame's map knows -/
def Kn (l : List (Str × Value)) (m : Str → Option Value) : Prop := ∀ p ∈ l, m p.1 = some p.2
theorem Kn.nil {m : Str → Option Value} : Kn [] m := fun _ h => nomatch h
theorem Kn.cons {l : List (Str × Value)} {m : Str → Option Value} {x : Str} {v : Value} (h : m x = some v) (k : Kn l m) : Kn ((x, v) :: l) m := by
  intro p hp
  rcases List.mem_cons.mp hp with rfl | hp
  · exact h
  · exact k p hp
theorem Kn.get {l : List (Str × Value)} {m : Str → Option Value} (k : Kn l m) (i : Nat) {x : Str} {v : Value} (h : l[i]? = some (x, v) := by rfl) : m x = some v := k (x, v) (List.mem_of_getElem? h)
theorem Kn.put {l : List (Str × Value)} {m : Str → Option Value} (k : Kn l m) {x : Str} {v : Value} (hx : (l.map (·.1)).contains x = false) : Kn l (upd m x v) := by
  intro p hp
  refine (upd_ne ?_).trans (k p hp)
  intro e
  have : (l.map (·.1)).contains x = true := by
    rw [List.contains_iff_mem]
    exact List.mem_map.mpr ⟨p, hp, e⟩
  rw [hx] at this; cases this
theorem Kn.add {l : List (Str × Value)} {m : Str → Option Value} (k : Kn l m) {x : Str} {v : Value} (hx : (l.map (·.1)).contains x = false) : Kn ((x, v) :: l) (upd m x v) := (k.put hx).cons (upd_at ..)
theorem Kn.sub {l l' : List (Str × Value)} {m : Str → Option Value} (k : Kn l m) (hs : ∀ p ∈ l', p ∈ l) : Kn l' m := fun p hp => k p (hs p hp)
theorem Kn.tail {l : List (Str × Value)} {m : Str → Option Value} {p : Str × Value} (k : Kn (p :: l) m) : Kn l m := fun q hq => k q (.tail _ hq)

theorem beq_str (a b : Str) : (a.cps.toList == b.cps.toList) = (a == b) := by
  rw [Bool.eq_iff_iff, beq_iff_eq, beq_iff_eq]
  constructor
  · intro h
    have := congrArg List.toArray h
    simp at this
    cases a; cases b; simp at this; exact congrArg Str.mk this
  · rintro rfl; rfl

/-- a pair of texts that stands -/
abbrev PEnt := Addr × Ln
def pentO (e : PEnt) : Obj := tupO [.str e.2.1 e.2.2.1, .str e.2.2.2.1 e.2.2.2.2]
def pentKV (e : PEnt) : Str × Str := (e.2.1, e.2.2.2.1)
theorem pent_tup {h₀ h : Heap} {L : Addr} {news : List (Addr × Obj)} {e : PEnt} (N : News h₀ L h news) (he : (e.1, pentO e) ∈ news) : IsTup h e.1 #[.str e.2.1 e.2.2.1, .str e.2.2.2.1 e.2.2.2.2] := ⟨_, (N _ he).1, rfl, _, rfl⟩

inductive PPairs : List Expr → List (Str × Str) → Prop
  | nil : PPairs [] []
  | cons {k v : Str} {n1 n2 kk : Nat} {p1 p2 p : Pos} {es : List Expr} {r : List (Str × Str)} (hr : PPairs es r) : PPairs (.Tuple [.Constant (.str k) n1 p1, .Constant (.str v) n2 p2] kk p :: es) ((k, v) :: r)

section
variable {prog : Program} {w : World} {M : Model} {A : Around} {s : Shared} {h₀ : Heap} {L a : Addr} {m : Str → Option Value} {env : Env}
  {cn : Str} {cs : Scope} {ccd : Value} {cl : List (Str × Addr)} {news : List (Addr × Obj)}

theorem spliced_pairs {es : List Expr} {r : List (Str × Str)} (hp : PPairs es r) {pos : Pos} : ∀ {s : Shared} {news : List (Addr × Obj)} {Q : List Value → Shared → Prop} {E : Value → Shared → Prop}, Fr h₀ L s.heap m → News h₀ L s.heap news → 1 ≤ s.toks →
    (∀ (ps : List PEnt) h' tk nx, Fr h₀ L h' m → News h₀ L h' nx → (∀ q ∈ news, q ∈ nx) → (∀ e ∈ ps, (e.1, pentO e) ∈ nx ∧ LnOk e.2) → ps.map pentKV = r → s.toks ≤ tk → Q (ps.map fun e => Value.ref e.1) { s with heap := h', toks := tk }) →
    wpAny M A (spliced (backTo pos (starEach es env))) Q E s := by
  induction hp with
  | nil => intro s news Q E F N _ hQ; exact spliced_none (hQ [] s.heap s.toks news F N (fun _ h => h) (fun _ h => nomatch h) rfl (Nat.le_refl _))
  | cons _ ih =>
    rename_i k v n1 n2 kk p1 p2 p es r _
    intro s news Q E F N h1 hQ
    refine spliced_more (Tuple_ (spliced_more (Constant_str (spliced_more (Constant_str (spliced_none ?_)) rfl)) rfl)) rfl
    refine newTuple_N (s := { s with toks := s.toks + 1 + 1 }) F N (fun h' F' N' => ?_) (Nat.le_of_ble_eq_true rfl)
    refine ih (s := { s with heap := h', toks := s.toks + 1 + 1 }) F' N' (Nat.le_trans h1 (Nat.le_add_right s.toks 2)) fun ps h'' tk nx F'' N'' hs he hr htk => ?_
    refine hQ ((s.heap.objs.size, k, s.toks, v, s.toks + 1) :: ps) h'' tk nx F'' N'' (fun q hq => hs q (.tail _ hq)) ?_ ?_ (Nat.le_trans (Nat.le_add_right s.toks 2) htk)
    · intro e hx
      rcases List.mem_cons.mp hx with rfl | hx
      · exact ⟨hs _ (.head _), Nat.pos_iff_ne_zero.mp h1, Nat.succ_ne_zero _, Nat.ne_of_lt (Nat.lt_succ_self _)⟩
      · exact he e hx
    · rw [List.map_cons, hr]; rfl

/-- a display of pairs of texts -/
theorem ev_pairs {es : List Expr} {r : List (Str × Str)} (hp : PPairs es r) {pos : Pos} {Q E : Value → Shared → Prop} (F : Fr h₀ L s.heap m) (N : News h₀ L s.heap news) (h1 : 1 ≤ s.toks) (hl : r.length ≤ 1000)
    (hQ : ∀ a (ps : List PEnt) h' tk nx, Fr h₀ L h' m → News h₀ L h' nx → (a, lstO (ps.map fun e => Value.ref e.1)) ∈ nx → (∀ q ∈ news, q ∈ nx) → (∀ e ∈ ps, (e.1, pentO e) ∈ nx ∧ LnOk e.2) → ps.map pentKV = r → s.toks ≤ tk → Q (.ref a) { s with heap := h', toks := tk }) :
    wpAny M A (eval (.List es pos) env) Q E s := by
  refine List_ (spliced_pairs hp F N h1 fun ps h' tk nx F' N' hs he hr htk => ?_)
  refine newList_N (s := { s with heap := h', toks := tk }) F' N' (fun h₂ F₂ N₂ => hQ _ ps h₂ tk _ F₂ N₂ (.head _) (fun q hq => .tail _ (hs q hq)) (fun e hx => ⟨.tail _ (he e hx).1, (he e hx).2⟩) hr htk) ?_
  have : ps.length = r.length := by rw [← hr, List.length_map]
  rw [List.length_map, this, sizeLine_eq]; omega

/-- x = value, and what follows; the state flat -/
theorem letf {s₀ : Shared} {hp : Heap} {tk : Tok} {x : Str} {px pos : Pos} {value : Expr} {rest : List Stmt} {Q : Flow → Shared → Prop} {E : Value → Shared → Prop}
    (h : wpAny M A (eval value (envX cn cs L a ccd cl)) (fun v s₁ => ∃ m news h₁ tk₁, s₁ = { s₀ with heap := h₁, toks := tk₁ } ∧ Fr h₀ L h₁ m ∧ News h₀ L h₁ news ∧ ∀ h' tk', 1 ≤ tk' → Fr h₀ L h' (upd m x v) → News h₀ L h' news →
      wpAny M A (execs rest (envX cn cs L a ccd cl)) Q E { s₀ with heap := h', toks := tk' }) E { s₀ with heap := hp, toks := tk })
    (hs : swapsWith value (some (.Name x px)) pos.line (envX cn cs L a ccd cl) = pure false := by rfl)
    (hk : cs.kind = .function := by rfl) (hx : (envX cn cs L a ccd cl).kindOf x = some .local := by kernel_rfl) :
    wpAny M A (execs (.Assign [.Name x px] value pos :: rest) (envX cn cs L a ccd cl)) Q E { s₀ with heap := hp, toks := tk } := by
  refine seq_let (h₀ := h₀) hs hk hx (wpAny_mono h ?_ fun _ _ x => x)
  rintro v s₁ ⟨m, news, h₁, tk₁, rfl, F, N, k⟩
  exact ⟨m, news, F, N, fun h' F' N' => k h' (tk₁ + 1) (Nat.le_add_left _ _) F' N'⟩

/-- an if whose test says no -/
theorem if_nof {s₀ : Shared} {hp : Heap} {tk : Tok} {test : Expr} {body : List Stmt} {pos : Pos} {rest : List Stmt} {Q : Flow → Shared → Prop} {E : Value → Shared → Prop}
    (h : wpAny M A (PySem.isTrue test env (eval test env)) (fun b s₂ => b = false ∧ ∃ h₁ tk₁, s₂ = { s₀ with heap := h₁, toks := tk₁ } ∧ wpAny M A (execs rest env) Q E { s₀ with heap := h₁, toks := tk₁ }) E { s₀ with heap := hp, toks := tk }) :
    wpAny M A (execs (.If test body [] pos :: rest) env) Q E { s₀ with heap := hp, toks := tk } := by
  refine seq_if (wpAny_mono h ?_ fun _ _ x => x)
  rintro b s₂ ⟨rfl, h₁, tk₁, rfl, k⟩
  rw [if_neg Bool.false_ne_true]
  exact wpAny_execs_nil k

/-- for TARGET in ITER: a list; no turn leaves the loop early -/
theorem for_list_e {s₀ : Shared} {hp : Heap} {tk : Tok} {target iter : Expr} {pos : Pos} {body rest : List Stmt} {Q : Flow → Shared → Prop}
    (hh : A.handled = none) (F : Fr h₀ L hp m) (hs : ∀ v, foldedSetIterable iter (envX cn cs L a ccd cl) v = pure v)
    (h : wpAny (model prog w) A (eval iter (envX cn cs L a ccd cl)) (fun v s₁ => ∃ (J : Nat → (Str → Option Value) → List (Addr × Obj) → Prop) (l : Addr) (vs : List Value) (m₁ : Str → Option Value) (news₁ : List (Addr × Obj)) (h₁ : Heap) (tk₁ : Tok), v = .ref l ∧ s₁ = { s₀ with heap := h₁, toks := tk₁ } ∧ Fr h₀ L h₁ m₁ ∧ News h₀ L h₁ news₁ ∧ ListAt h₀ news₁ l vs ∧ J 0 m₁ news₁ ∧
      (∀ i v m₁ news₁ h₁ tk₁ own I, vs[i]? = some v → J i m₁ news₁ → (∀ p ∈ news₁, p.1 ≠ I) → (∀ p ∈ own, p.1 = I ∨ p.1 = l) → Fr h₀ L h₁ m₁ → News h₀ L h₁ (own ++ news₁) →
        wpAny (model prog w) A (assign target (envX cn cs L a ccd cl) v) (fun _ s₂ => wpAny (model prog w) A (execs body (envX cn cs L a ccd cl))
          (fun fl s₃ => fl = .next ∧ ∃ h' tk m' news', s₃ = { s₀ with heap := h', toks := tk } ∧ Fr h₀ L h' m' ∧ News h₀ L h' (own ++ news') ∧ (∀ p ∈ news', p.1 ≠ I) ∧ J (i + 1) m' news') (fun _ _ => False) s₂) (fun _ _ => False) { s₀ with heap := h₁, toks := tk₁ }) ∧
      (∀ h' tk' m' news', Fr h₀ L h' m' → News h₀ L h' news' → J vs.length m' news' → tk ≤ tk' → wpAny (model prog w) A (execs rest (envX cn cs L a ccd cl)) Q (fun _ _ => False) { s₀ with heap := h', toks := tk' })) (fun _ _ => False) { s₀ with heap := hp, toks := tk }) :
    wpAny (model prog w) A (execs (.For target iter body [] pos :: rest) (envX cn cs L a ccd cl)) Q (fun _ _ => False) { s₀ with heap := hp, toks := tk } := by
  refine wpAny_execs_cons (toksQ ?_)
  refine For_turns (s := { s₀ with heap := hp, toks := tk }) (h₀ := h₀) (m := m) F ?_ hs PassesOwn.never
  refine wpAny_mono h ?_ (fun _ _ x => x)
  rintro v s₁ ⟨J, l, vs, m₁, news₁, h₁, tk₁, rfl, rfl, F₁, N₁, hl, h0, step, done⟩
  refine iter_list (s := { s₀ with heap := h₁, toks := tk₁ }) J hh F₁ N₁ hl h0 ?_ (fun h' tk m' news' F' N' hJ => ?_)
  · intro i v m₁ news₁ h₁ tk₁ own I hv hJ hoff hown F₁ N₁
    refine wpAny_mono (step i v m₁ news₁ h₁ tk₁ own I hv hJ hoff hown F₁ N₁) ?_ (fun _ _ x => x)
    intro _ s₂ h₂
    refine wpAny_mono h₂ ?_ (fun _ _ x => x)
    rintro fl s₃ ⟨rfl, h₃, tk₃, m₃, news₃, rfl, F₃, N₃, hoff₃, hJ₃⟩
    exact .next ⟨rfl, h₃, tk₃, m₃, news₃, rfl, F₃, N₃, fun p hp hI => hoff₃ p hp (List.mem_singleton.mp hI), hJ₃⟩
  · exact fun htk => done h' tk m' news' F' N' hJ htk

/-- EXPR.replace(y, z), y and z written -/
theorem ev_replE {o : Expr} {y z : Str} {k1 k2 : Nat} {p2 p3 p4 p5 : Pos} {Q E : Value → Shared → Prop}
    (h : wpAny (model prog w) A (eval o env) (fun v s₁ => ∃ X t, v = .str X t ∧ 1 ≤ s₁.toks ∧ X.length + (X.length + 1) * z.length ≤ 16777216 ∧ ∀ t' k, 1 ≤ k → Q (.str (Txt.replace X y z) t') { s₁ with toks := k }) E s)
    (ho : attributeBase o (Str.ofString "replace") env (eval o env) = eval o env) (hp : (p2.endLine == p5.line) = true) (hyz : (y == z) = false) :
    wpAny (model prog w) A (eval (.Call (.Attribute o (Str.ofString "replace") p2) [.Constant (.str y) k1 p3, .Constant (.str z) k2 p4] [] p5) env) Q E s := by
  refine mcall (env := env) hp rfl ho (wpAny_mono h ?_ fun _ _ x => x)
  rintro v s₁ ⟨X, t, rfl, h1, hb, k⟩
  refine GM.replace ?_
  refine callWith_method1 (spliced_more (Calls.Constant_str (spliced_more (Calls.Constant_str (spliced_none ?_)) rfl)) rfl) rfl rfl
  refine toks_le (SC.replace ?_ ?_ ?_ hyz hb ?_)
  · show s₁.toks ≠ 0; omega
  · show s₁.toks + 1 ≠ 0; omega
  · exact Nat.ne_of_lt (Nat.lt_succ_self s₁.toks)
  · intro t' k' hk'
    exact k t' k' (by have : s₁.toks + 1 + 1 ≤ k' := hk'; omega)

/-- a def of the text's called with a keyword -/
theorem call_name_kw {K : Frag} {p : Program} {loose : List Str} {mean : ExcName → Option Value} {mg mb : Str → Option Value} {A₀ : Around} {base : Heap} {outer : List Env} {E : Value → Shared → Prop}
    {x : Str} {f : Addr} {e : Expr} {rest : List Expr} {kws : List Keyword} {px pos : Pos} {Q : Value → Shared → Prop}
    (S : Site K p loose mean mg mb A (envX cn cs L a ccd cl) A₀ base outer h₀ L) (F : Fr h₀ L s.heap m) (he : nsIn K mainGlobals x = some (some (.ref f))) (hkp : keepIn K (.ref f) = true)
    (hx : (envX cn cs L a ccd cl).kindOf x = some .globalImplicit) (hd : (x == ("__debug__" : Str)) = false)
    (hall : (backToKw pos (keywordEach kws (envX cn cs L a ccd cl))).all (·.1.isSome) = true)
    (h : wpAny (model prog w) A (spliced (backTo pos (starEach (e :: rest) (envX cn cs L a ccd cl)))) (fun vs s₁ => wpAny (model prog w) A (evalAll ((backToKw pos (keywordEach kws (envX cn cs L a ccd cl))).map (·.2)))
      (fun ks s₂ => K.In s₂.heap ∧ wpAny (model prog w) A (call (.ref f) vs (((backToKw pos (keywordEach kws (envX cn cs L a ccd cl))).filterMap (·.1)).zip ks)) Q E s₂) E s₁) E s)
    (hplain : ((backTo pos (starEach (e :: rest) (envX cn cs L a ccd cl))).any (·.1) || (backToKw pos (keywordEach kws (envX cn cs L a ccd cl))).any (·.1.isNone)) = false) (he1 : starEach (e :: rest) (envX cn cs L a ccd cl) = (false, eval e (envX cn cs L a ccd cl)) :: starEach rest (envX cn cs L a ccd cl)) :
    wpAny (model prog w) A (eval (.Call (.Name x px) (e :: rest) kws pos) (envX cn cs L a ccd cl)) Q E s := by
  have hev : eval (.Call (.Name x px) (e :: rest) kws pos) (envX cn cs L a ccd cl) = (do callWith pos (← eval (.Name x px) (envX cn cs L a ccd cl)) [] (backTo pos (starEach (e :: rest) (envX cn cs L a ccd cl))) (backToKw pos (keywordEach kws (envX cn cs L a ccd cl)))) := rfl
  rw [hev]
  refine wpAny_bind (nameX_K F S.X (topRead_of S.T) he ?_ S.hk hx hd)
  exact callWith_KW (first := []) S.X hkp hall h hplain he1
end
end Mine
end

section
open PySem PySem.W PyProof.Rows
set_option maxRecDepth 100000
set_option maxHeartbeats 8000000
open_top hd02 for PySem.Challenge.rw_dn0034_02
end

section
open PySem PySem.W PyProof.Rows PyProof.V PySem.Calls Mine
set_option maxRecDepth 100000
set_option maxHeartbeats 400000
namespace Mine.L02
abbrev o (s : String) : Str := Str.ofString s
def S : List (Str × Str) := [(o "&", o "&amp;"), (o ">", o "&gt;"), (o "<", o "&lt;")]
def H : List (Str × Str) := [(o "&", o "&amp;"), (o "<", o "&lt;"), (o ">", o "&gt;")]
def M2 : List (Str × Str) := [(o "\"", o "&quot;"), (o "'", o "&#x27;")]
def W3 : List (Str × Str) := [(o "\n", o "&#10;"), (o "\x0d", o "&#13;"), (o "\t", o "&#9;")]
def V : List (Str × Str) := [(o "&lt;", o "<"), (o "&gt;", o ">")]
section
variable (w : World) (p : Program) (loose : List Str) (mean : ExcName → Option Value) (mg mb : Str → Option Value)

theorem clear02 (l : List Ln) : Clear (hd02.heap_39 w.params) l := .inr (by
  have : PySem.Challenge.rw_dn0034_02 = PySem.Challenge.rw_dn0034_02 := rfl
  revert this
  k_fill
  intro _
  exact none_booked_K (by k_is) (by intro e he; simp at he) (by decide +kernel))

theorem c29 {X : Str} {t : Tok} {d : Addr} {l : List Ln} {ep : Nat} (hf : Fits X (lnReps l)) (hn : (l.map (·.1)).Nodup) (hok : ∀ e ∈ l, LnOk e) (lo : (d == sysModules) = false) :
    Mine.Gives PySem.Challenge.rw_dn0034_02.row.prog w (hd02.heap_39 w.params) p loose mean mg mb 3 29 [.str X t, .ref d] (fun _ news => (d, dObj w l ep) ∈ news) (fun v ex => ex = [] ∧ ∃ t', v = .str (repls X (lnReps l)) t') := by
  have hc := clear02 w l
  revert hc
  k_fill
  intro hc
  refine gives_def (binds := [(Str.ofString "s", .str X t), (Str.ofString "d", .ref d)]) (by k_is) (by k_is) (fun s _ => BindsTo.of_eq (by kernel_rfl)) (locs (by kernel_rfl)) rfl rfl rfl (by decide) ?_
  exact body_dictrep (xs := Str.ofString "s") (xd := Str.ofString "d") (xk := Str.ofString "key") (xv := Str.ofString "value") (X := X) (t := t) (d := d) (l := l) (ep := ep) (by kernel_rfl) (by kernel_rfl) hf hn hok hc lo rfl rfl rfl
    (fun _ => by kernel_rfl) (fun _ => by kernel_rfl) (fun _ => by kernel_rfl) (fun _ => by kernel_rfl) (by decide +kernel) (by decide +kernel) (by decide +kernel) (by decide +kernel) (by decide +kernel) (by decide +kernel) (by decide +kernel)

theorem c38 {X : Str} {t : Tok} {d : Addr} {l : List Ln} {ep : Nat} (hf0 : Fits X S) (hf : Fits (repls X S) (lnReps l)) (hn : (l.map (·.1)).Nodup) (hok : ∀ e ∈ l, LnOk e) (lo : (d == sysModules) = false) (hlen : l.length < 100) :
    Mine.Gives PySem.Challenge.rw_dn0034_02.row.prog w (hd02.heap_39 w.params) p loose mean mg mb 4 38 [.str X t, .ref d] (fun _ news => Stands (hd02.heap_39 w.params) news d (dObj w l ep) ∧ (l ≠ [] → (d, dObj w l ep) ∈ news)) (fun v ex => ex = [] ∧ ∃ t', v = .str (repls (repls X S) (lnReps l)) t') := by
  have c := fun (t : Tok) => c29 (X := repls X S) (t := t) w p loose mean mg mb (ep := ep) hf hn hok lo
  revert c
  k_fill
  intro c
  refine gives_def (binds := [(Str.ofString "data", .str X t), (Str.ofString "entities", .ref d)]) (by k_is) (by k_is) (fun s hK => binds_K hK rfl (by k_is) rfl rfl rfl) (locs (by kernel_rfl)) rfl rfl rfl (by decide) ?_
  exact body_esc (x := Str.ofString "data") (xe := Str.ofString "entities") (xg := Str.ofString "dict_replace_saxutils") (g := 29) (X := X) (t := t) (d := d) (l := l) (ep := ep) (reps := S) (by repeat (first | exact Chain.nil | (refine Chain.cons (.iff rfl) (by decide) ?_) | (refine Chain.cons (.plain rfl) (by decide) ?_))) (by kernel_rfl) (by kernel_rfl) (by decide +kernel) hf0 hn lo hlen (fun _ => c) (by k_is) (by k_is) rfl
    (fun _ => by kernel_rfl) (fun _ => by kernel_rfl) (fun _ => by kernel_rfl) (by decide +kernel) (by decide +kernel) (by decide +kernel)

theorem c47 {X : Str} {t : Tok} {d : Addr} {l : List Ln} {ep : Nat} (hf0 : Fits X V) (hf : Fits (repls X V) (lnReps l)) (hf2 : Fits (repls (repls X V) (lnReps l)) [(o "&amp;", o "&")]) (hn : (l.map (·.1)).Nodup) (hok : ∀ e ∈ l, LnOk e) (lo : (d == sysModules) = false) (hlen : l.length < 100) :
    Mine.Gives PySem.Challenge.rw_dn0034_02.row.prog w (hd02.heap_39 w.params) p loose mean mg mb 4 47 [.str X t, .ref d] (fun _ news => Stands (hd02.heap_39 w.params) news d (dObj w l ep) ∧ (l ≠ [] → (d, dObj w l ep) ∈ news)) (fun v ex => ex = [] ∧ ∃ t', v = .str (Txt.replace (repls (repls X V) (lnReps l)) (o "&amp;") (o "&")) t') := by
  have c := fun (t : Tok) => c29 (X := repls X V) (t := t) w p loose mean mg mb (ep := ep) hf hn hok lo
  revert c
  k_fill
  intro c
  refine gives_def (binds := [(Str.ofString "data", .str X t), (Str.ofString "entities", .ref d)]) (by k_is) (by k_is) (fun s hK => binds_K hK rfl (by k_is) rfl rfl rfl) (locs (by kernel_rfl)) rfl rfl rfl (by decide) ?_
  exact body_unesc (x := Str.ofString "data") (xe := Str.ofString "entities") (xg := Str.ofString "dict_replace_saxutils") (g := 29) (X := X) (t := t) (d := d) (l := l) (ep := ep) (reps := V) (by repeat (first | exact Chain.nil | (refine Chain.cons (.iff rfl) (by decide) ?_) | (refine Chain.cons (.plain rfl) (by decide) ?_))) rfl (by decide +kernel) (by kernel_rfl) (by kernel_rfl) (by decide +kernel) hf0 hf2 hn lo hlen (fun _ => c) (by k_is) (by k_is) rfl
    (fun _ => by kernel_rfl) (fun _ => by kernel_rfl) (fun _ => by kernel_rfl) (by decide +kernel) (by decide +kernel) (by decide +kernel)

/-- unescape(data) -/
theorem c47d {X : Str} {t : Tok} (hf0 : Fits X V) (hf2 : Fits (repls X V) [(o "&amp;", o "&")]) :
    Mine.Gives PySem.Challenge.rw_dn0034_02.row.prog w (hd02.heap_39 w.params) p loose mean mg mb 4 47 [.str X t] (fun _ _ => True) (fun v ex => ex = [] ∧ ∃ t', v = .str (Txt.replace (repls X V) (o "&amp;") (o "&")) t') := by
  k_fill
  refine gives_def (binds := [(Str.ofString "data", .str X t), (Str.ofString "entities", .ref 39)]) (by k_is) (by k_is) (fun s hK => binds_K hK rfl (by k_is) rfl rfl rfl) (locs (by kernel_rfl)) rfl rfl rfl (by decide) ?_
  intro A A₀ base outer g L news s Q SS F N h1 hr hpre hQ
  refine body_unesc (w := w) (x := Str.ofString "data") (xe := Str.ofString "entities") (xg := Str.ofString "dict_replace_saxutils") (g := 29) (X := X) (t := t) (d := 39) (l := []) (ep := 0) (reps := V) (by repeat (first | exact Chain.nil | (refine Chain.cons (.iff rfl) (by decide) ?_) | (refine Chain.cons (.plain rfl) (by decide) ?_))) rfl (by decide +kernel) (by kernel_rfl) (by kernel_rfl) (by decide +kernel) hf0 hf2 List.nodup_nil (by decide +kernel) (by decide) (fun h => absurd rfl h) (by k_is) (by k_is) rfl
    (fun _ => by kernel_rfl) (fun _ => by kernel_rfl) (fun _ => by kernel_rfl) (by decide +kernel) (by decide +kernel) (by decide +kernel) A A₀ base outer g L news s Q SS F N h1 hr ⟨.inr fun h X => X _ _ (by k_is), fun h => absurd rfl h⟩ hQ

theorem c22 {X : Str} {t : Tok} {v : Value} {b : Bool} (hf : Fits X H) (hf2 : Fits (repls X H) M2) :
    GivesA PySem.Challenge.rw_dn0034_02.row.prog w (hd02.heap_39 w.params) p loose mean mg mb 3 22 [.str X t] [(Str.ofString "quote", v)] (fun _ news => TruthAt PySem.Challenge.rw_dn0034_02.row.prog w news v b) (fun u ex => ex = [] ∧ ∃ t', u = .str (if b = true then repls (repls X H) M2 else repls X H) t') := by
  k_fill
  refine gives_defA (binds := [(Str.ofString "s", .str X t), (Str.ofString "quote", v)]) (by k_is) (by k_is) (fun s hK => binds_K hK rfl (by k_is) rfl rfl rfl) (locs (by kernel_rfl)) rfl rfl rfl (by decide) ?_
  exact body_html (x := Str.ofString "s") (xq := Str.ofString "quote") (X := X) (t := t) (by repeat (first | exact Chain.nil | (refine Chain.cons (.iff rfl) (by decide) ?_) | (refine Chain.cons (.plain rfl) (by decide) ?_))) (by repeat (first | exact Chain.nil | (refine Chain.cons (.iff rfl) (by decide) ?_) | (refine Chain.cons (.plain rfl) (by decide) ?_))) (by kernel_rfl) (by kernel_rfl) (by decide +kernel) hf hf2 rfl (fun _ => by kernel_rfl) (fun _ => by kernel_rfl) (by decide +kernel) (by decide +kernel)
end
end Mine.L02
end

section
open PySem PySem.W PyProof.Rows PyProof.V PySem.Calls Mine
set_option maxRecDepth 100000
set_option maxHeartbeats 400000
namespace Mine.L02
theorem truthAt_bool {prog : Program} {w : World} {news : List (Addr × Obj)} {b : Bool} : TruthAt prog w news (.bool b) b :=
  fun _ _ _ _ _ _ _ _ _ _ h => wpAny_truthy_bool (h _ (Nat.le_refl _))
section
variable (w : World) (p : Program) (loose : List Str) (mean : ExcName → Option Value) (mg mb : Str → Option Value)
/-- escape_html(s) -/
theorem c22d {X : Str} {t : Tok} (hf : Fits X H) (hf2 : Fits (repls X H) M2) :
    Mine.Gives PySem.Challenge.rw_dn0034_02.row.prog w (hd02.heap_39 w.params) p loose mean mg mb 3 22 [.str X t] (fun _ _ => True) (fun u ex => ex = [] ∧ ∃ t', u = .str (repls (repls X H) M2) t') := by
  k_fill
  refine gives_def (binds := [(Str.ofString "s", .str X t), (Str.ofString "quote", .bool true)]) (by k_is) (by k_is) (fun s hK => binds_K hK rfl (by k_is) rfl rfl rfl) (locs (by kernel_rfl)) rfl rfl rfl (by decide) ?_
  intro A A₀ base outer g L news s Q SS F N h1 hr hpre hQ
  exact body_html (b := true) (x := Str.ofString "s") (xq := Str.ofString "quote") (X := X) (t := t) (by repeat (first | exact Chain.nil | (refine Chain.cons (.iff rfl) (by decide) ?_) | (refine Chain.cons (.plain rfl) (by decide) ?_))) (by repeat (first | exact Chain.nil | (refine Chain.cons (.iff rfl) (by decide) ?_) | (refine Chain.cons (.plain rfl) (by decide) ?_))) (by kernel_rfl) (by kernel_rfl) (by decide +kernel) hf hf2 rfl (fun _ => by kernel_rfl) (fun _ => by kernel_rfl) (by decide +kernel) (by decide +kernel)
    A A₀ base outer g L news s Q SS F N h1 hr truthAt_bool hQ

/-- quoteattr(data, entities) -/
theorem c56 {X : Str} {t : Tok} {d : Addr} {l : List Ln} {ep : Nat} (hf0 : Fits X S) (hf : Fits (repls X S) (lnReps l ++ W3)) (hn : (l.map (·.1) ++ W3.map (·.1)).Nodup) (hok : ∀ e ∈ l, LnOk e) (lo : (d == sysModules) = false) (hlen : l.length < 50)
    (hY : (repls (repls X S) (lnReps l ++ W3)).length ≤ 1000000) (hYr : (Txt.replace (repls (repls X S) (lnReps l ++ W3)) dq (Str.ofString "&quot;")).length ≤ 1000000) :
    Mine.Gives PySem.Challenge.rw_dn0034_02.row.prog w (hd02.heap_39 w.params) p loose mean mg mb 5 56 [.str X t, .ref d] (fun _ news => Stands (hd02.heap_39 w.params) news d (dObj w l ep)) (fun v ex => ex = [] ∧ ∃ t', v = .str (quoted (repls (repls X S) (lnReps l ++ W3))) t') := by
  have hreps : ∀ tk, lnReps (l ++ lnFrom tk W3) = lnReps l ++ W3 := fun tk => by
    have := lnFrom_reps tk W3
    simp only [lnReps, List.map_append] at this ⊢
    rw [this]
  have hkeys : ∀ tk, ((l ++ lnFrom tk W3).map (·.1)).Nodup := fun tk => by rw [List.map_append, lnFrom_keys]; exact hn
  have c : ∀ (t : Tok) (D : Addr) (tk : Nat), 1 ≤ tk → (D == sysModules) = false → Mine.Gives PySem.Challenge.rw_dn0034_02.row.prog w (hd02.heap_39 w.params) p loose mean mg mb 4 38 [.str X t, .ref D] (fun _ news => (D, dObj w (l ++ lnFrom tk W3) (l.length + W3.length)) ∈ news) (fun v ex => ex = [] ∧ ∃ t', v = .str (repls (repls X S) (lnReps l ++ W3)) t') := by
    intro t D tk htk loD A env A₀ base outer h₀ L m news s Q E SS F N hr hpre hQ
    have hl : l ++ lnFrom tk W3 ≠ [] := by intro h; have := congrArg List.length h; simp [lnFrom_length, W3] at this
    refine c38 (X := X) (t := t) (d := D) (l := l ++ lnFrom tk W3) (ep := l.length + W3.length) w p loose mean mg mb hf0 (by rw [hreps]; exact hf) (hkeys tk) (fun e he => ?_) loD (by rw [List.length_append, lnFrom_length]; have : W3.length = 3 := rfl; omega) A env A₀ base outer h₀ L m news s Q E SS F N hr ⟨.inl hpre, fun _ => hpre⟩ ?_
    · rcases List.mem_append.mp he with he | he
      · exact hok e he
      · exact lnFrom_ok tk W3 htk e he
    · rw [hreps]; exact hQ
  revert c
  k_fill
  intro c
  refine gives_def (binds := [(Str.ofString "data", .str X t), (Str.ofString "entities", .ref d)]) (by k_is) (by k_is) (fun s hK => binds_K hK rfl (by k_is) rfl rfl rfl) (locs (by kernel_rfl)) rfl rfl rfl (by decide) ?_
  exact body_quoteattr (x := Str.ofString "data") (xe := Str.ofString "entities") (xg := Str.ofString "escape_saxutils") (g := 38) (X := X) (t := t) (d := d) (l := l) (ep := ep) (r := W3) (by repeat (first | exact DPairs.nil | refine DPairs.cons ?_)) (by decide) (by decide) (by omega) hn lo (by kernel_rfl) (by kernel_rfl) (by decide +kernel) c hY hYr rfl (by k_is) (by k_is) rfl
    (fun _ => by kernel_rfl) (fun _ => by kernel_rfl) (fun _ => by kernel_rfl) (fun _ => rfl) (by decide +kernel) (by decide +kernel) (by decide +kernel)
end
end Mine.L02
end

section
open PySem PySem.W PyProof.Rows PyProof.V PySem.Calls Mine
set_option maxRecDepth 100000
set_option maxHeartbeats 200000
namespace Mine.L02
def pcs02 : List Str := [Str.ofString "&", Str.ofString "<", Str.ofString ">", Str.ofString "\"", Str.ofString "'", Str.ofString "\n", Str.ofString "\x0d", Str.ofString "\t", Str.ofString " ", Str.ofString "é", Str.ofString "&quot;", Str.ofString "&#x27;", Str.ofString "&lt;", Str.ofString "amp;", Str.ofString "quot;", Str.ofString "#x27;", Str.ofString "&#34;", Str.ofString "&apos;", Str.ofString "&amp;", Str.ofString "x", Str.ofString ";", Str.ofString "#", Str.ofString "&#39;", Str.ofString "𝄞"]
theorem c63 (w : World) (p : Program) (loose : List Str) (mean : ExcName → Option Value) (mg mb : Str → Option Value) (l : Addr) (vs : List Value) (ns : List Int) (hi : IntsAre vs ns) (hlen : ns.length ≤ 63) :
    Mine.Gives PySem.Challenge.rw_dn0034_02.row.prog w (hd02.heap_39 w.params) p loose mean mg mb 8 63 [.ref l] (fun base _ => base.IsList l vs.toArray) (fun v ex => ex = [] ∧ ∃ X t, v = .str X t ∧ X.length ≤ 400) := by
  k_fill
  refine gives_def (binds := [(Str.ofString "script", .ref l)]) (by k_is) (by k_is) (fun s _ => BindsTo.of_eq (by kernel_rfl)) (locs (by kernel_rfl)) rfl rfl rfl (by decide) ?_
  intro A A₀ base outer g L news s Q S F N h1 hr hpre hQ
  refine seq_let (h₀ := g) (cl := []) ?a1 ?a2 ?a3 ?_
  case a1 => rfl
  case a2 => rfl
  case a3 => kernel_rfl
  refine (ev_strs (xs := pcs02) F N ?hc ?hl ?k :)
  case hc => repeat (first | exact SConsts.nil | refine SConsts.cons ?_)
  case hl => exact Nat.le_of_ble_eq_true rfl
  intro h₁ tk₁ F₁ N₁ _
  refine ⟨_, _, F₁, N₁, fun h₂ F₂ N₂ => ?_⟩
  have hm2 : upd (fun y => List.lookup y [(Str.ofString "script", Value.ref l)].reverse) (Str.ofString "pieces") (.ref s.heap.objs.size) (Str.ofString "script") = some (.ref l) := (upd_ne (by decide +kernel)).trans rfl
  have hl : ListAt g ((s.heap.objs.size, ({ cls := .type "list", data := .seq (strVals s.toks pcs02).toArray } : Obj)) :: news) l vs := .inr (hpre.at fun o e => S.B.stays l o e)
  refine seq_if ?_
  refine wpAny_isTrue_Compare1 ?_
  refine nm (cl := []) F₂ hm2 ?_
  refine List_ (spliced_none ?_)
  refine newList_N (s := { s with heap := h₂, toks := tk₁ + 1 }) F₂ N₂ (fun h₃ F₃ N₃ => ?_) (Nat.zero_le _)
  refine eq_intsK (us := []) (ms := []) (hl.at F₃ (news_sub N₃ fun q hq => .tail _ hq)) hi ⟨_, (N₃ _ (.head _)).1, rfl, _, rfl⟩ .nil (by have := hr.2; omega) (wpAny_truthy_bool ?_)
  have N₃' := news_sub N₃ (news' := (s.heap.objs.size, ({ cls := .type "list", data := .seq (strVals s.toks pcs02).toArray } : Obj)) :: news) fun q hq => .tail _ hq
  split
  · refine seq_ret ?_
    refine wpAny_Constant_str ?_
    refine hQ _ [] _ _ _ F₃ (news_sub N₃' fun q hq => .tail _ hq) (fun _ _ _ hx => nomatch hx) ?_ ⟨rfl, _, _, rfl, ?_⟩
    · show 1 ≤ tk₁ + 1 + 1; omega
    · have : (Str.ofString "&\"'<").length = 4 := by decide +kernel
      rw [this]; omega
  refine wpAny_execs_nil ?_
  dsimp only
  refine seq_let (h₀ := g) (cl := []) ?b1 ?b2 ?b3 (Constant_str ⟨_, _, F₃, N₃', fun h₄ F₄ N₄ => ?_⟩)
  case b1 => rfl
  case b2 => rfl
  case b3 => kernel_rfl
  refine (for_list_name (cl := []) (s := { s with heap := h₄, toks := tk₁ + 1 + 1 + 1 }) (fun i m₁ n₁ => n₁ = (s.heap.objs.size, ({ cls := .type "list", data := .seq (strVals s.toks pcs02).toArray } : Obj)) :: news ∧ m₁ (Str.ofString "pieces") = some (.ref s.heap.objs.size) ∧ ∃ X t, m₁ (Str.ofString "text") = some (.str X t) ∧ X.length ≤ 6 * i)
    S.hh F₄ N₄ ?m1 hl ?j0 ?d0 ?d1 ?d2 ?d3 ?d4 ?step ?done :)
  case m1 => exact (upd_ne (by decide +kernel)).trans hm2
  case j0 => exact ⟨rfl, (upd_ne (by decide +kernel)).trans (upd_at ..), _, _, upd_at .., Nat.zero_le _⟩
  case d0 => rfl
  case d4 => exact fun _ => rfl
  case d1 => kernel_rfl
  case d2 => kernel_rfl
  case d3 => decide +kernel
  case done =>
    rintro h' tk m' news' F' N' ⟨rfl, _, X, t, hX, hlX⟩ htk
    refine seq_ret ?_
    refine nm (cl := []) (s := { s with heap := h', toks := tk }) F' hX ?_
    exact hQ _ [] h' tk m' F' (news_sub N' fun q hq => List.mem_cons_of_mem _ hq) (fun _ _ _ hx => nomatch hx) (by have q : tk₁ + 1 + 1 + 1 ≤ tk := htk; omega) ⟨rfl, X, t, rfl, by rw [hi.length] at hlX; omega⟩
  rintro i v m₁ news₁ s₁ own I hv ⟨rfl, hP, X, t, hX, hlX⟩ hoff hown Fs Ns h1s
  obtain ⟨n, tn, rfl, _⟩ := IntsAre.at hi i v hv
  have eP : Str.ofString "pieces" ≠ Str.ofString "x" := by decide +kernel
  have eT : Str.ofString "text" ≠ Str.ofString "x" := by decide +kernel
  have hPx : upd m₁ (Str.ofString "x") (.int n tn) (Str.ofString "pieces") = some (.ref s.heap.objs.size) := (upd_ne eP).trans hP
  have hTx : upd m₁ (Str.ofString "x") (.int n tn) (Str.ofString "text") = some (.str X t) := (upd_ne eT).trans hX
  refine lt (cl := []) g (ev_fmod (nm (cl := []) Fs (upd_at ..) ⟨_, _, rfl, fun t₁ => ⟨_, _, Fs, Ns, fun h₅ F₅ N₅ => ?_⟩⟩))
  have hP5 : ∀ a, upd (upd m₁ (Str.ofString "x") (.int n tn)) (Str.ofString "k") a (Str.ofString "pieces") = some (.ref s.heap.objs.size) := fun a => (upd_ne (by decide +kernel)).trans hPx
  have hT5 : ∀ a, upd (upd m₁ (Str.ofString "x") (.int n tn)) (Str.ofString "k") a (Str.ofString "text") = some (.str X t) := fun a => (upd_ne (by decide +kernel)).trans hTx
  have hx5 : ∀ a, upd (upd m₁ (Str.ofString "x") (.int n tn)) (Str.ofString "k") a (Str.ofString "x") = some (.int n tn) := fun a => (upd_ne (by decide +kernel)).trans (upd_at ..)
  have hl5 : X.length + 6 ≤ sizeLine := by
    have := (List.getElem?_eq_some_iff.mp hv).1
    rw [sizeLine_eq]; rw [hi.length] at this; omega
  refine seq_aug_str (cl := []) F₅ (hT5 _) rfl (by kernel_rfl) ?_
  have fin : ∀ (Y : Str) (h' : Heap) (t' : Tok) (tk : Nat), Y.length ≤ 6 → Fr g L h' (upd (upd (upd m₁ (Str.ofString "x") (.int n tn)) (Str.ofString "k") (.int (n.fmod 25) t₁)) (Str.ofString "text") (.str (X ++ Y) t')) →
      ∃ m', Fr g L h' m' ∧ m' (Str.ofString "pieces") = some (.ref s.heap.objs.size) ∧ ∃ X t, m' (Str.ofString "text") = some (.str X t) ∧ X.length ≤ 6 * (i + 1) := by
    intro Y h' t' tk hY F'
    refine ⟨_, F', (upd_ne (by decide +kernel)).trans (hP5 _), _, _, upd_at .., ?_⟩
    rw [Str.length_append]; omega
  have hb := Int.fmod_nonneg_of_pos n (b := 25) (by decide)
  have hb2 := Int.fmod_lt_of_pos n (b := 25) (by decide)
  refine IfExp_ (wpAny_isTrue_Compare1 (nm (cl := []) F₅ (upd_at ..) (wpAny_Constant_int (eq_int (wpAny_truthy_bool ?_)))))
  split
  · refine call_b1 (cl := []) S F₅ (by k_is) boot_chr ?_
    refine ev_fmod (ev_fdiv (nm (cl := []) F₅ (hx5 _) ⟨_, _, rfl, fun t₆ => ⟨_, _, rfl, fun t₇ => ?_⟩⟩))
    have hc0 := Int.fmod_nonneg_of_pos (n.fdiv 25) (b := 55291) (by decide)
    have hc1 := Int.fmod_lt_of_pos (n.fdiv 25) (b := 55291) (by decide)
    refine chr_of_range hc0 (by omega) ?_
    refine ⟨_, _, _, _, rfl, ?_, F₅, N₅, fun h' t' tk F' N' => ?_⟩
    · show X.length + 1 ≤ sizeLine; omega
    · refine wpAny_execs_nil ?_
      obtain ⟨m', F'', hPm, hXm⟩ := fin ⟨#[((n.fdiv 25).fmod 55291).toNat]⟩ h' t' tk (by show 1 ≤ 6; omega) F'
      exact ⟨rfl, h', tk, m', _, rfl, F'', N', hoff, rfl, hPm, hXm⟩
  · rename_i hne
    have hne : ¬ n.fmod 25 = 24 := by simpa using hne
    refine Subscript_ (nm (cl := []) F₅ (hP5 _) (nm (cl := []) F₅ (upd_at ..) ?_))
    have hpk : ∃ x, pcs02[(n.fmod 25).toNat]? = some x ∧ x.length ≤ 6 := by
      have hall : ∀ k, k < 24 → ∃ x, pcs02[k]? = some x ∧ x.length ≤ 6 := by decide +kernel
      exact hall _ (by omega)
    obtain ⟨x, hx, hxl⟩ := hpk
    have hIs : h₅.IsList s.heap.objs.size (strVals s.toks pcs02).toArray := ⟨_, (N₅ _ (List.mem_append_right _ (.head _))).1, rfl, _, rfl⟩
    refine tail_list (vs := strVals s.toks pcs02) (v := .str x (s.toks + (n.fmod 25).toNat)) hIs hb (by omega) (strVals_at _ _ _ _ hx) ?hs ?_
    case hs => rfl
    refine ⟨x, _, _, _, rfl, by omega, F₅, N₅, fun h' t' tk F' N' => ?_⟩
    refine wpAny_execs_nil ?_
    obtain ⟨m', F'', hPm, hXm⟩ := fin x h' t' tk hxl F'
    exact ⟨rfl, h', tk, m', _, rfl, F'', N', hoff, rfl, hPm, hXm⟩
end Mine.L02
end

section
open PySem PySem.W PyProof.Rows PyProof.V PySem.Calls Mine
set_option maxRecDepth 100000
set_option maxHeartbeats 200000
namespace Mine.L02
theorem ev_strs2 {M : Model} {A : Around} {E : Value → Shared → Prop} {env : Env} {h₀ : Heap} {L : Addr} {m : Str → Option Value} {news : List (Addr × Obj)} {es : List PySem.Expr} {xs : List Str} {pos : Pos} {s : Shared} {Q : Value → Shared → Prop} (F : Fr h₀ L s.heap m) (N : News h₀ L s.heap news) (h : SConsts es xs) (hl : xs.length ≤ 1000)
    (hQ : ∀ h', Fr h₀ L h' m → News h₀ L h' ((s.heap.objs.size, lstO (strVals s.toks xs)) :: news) → Q (.ref s.heap.objs.size) { s with heap := h', toks := s.toks + xs.length }) :
    wpAny M A (eval (.List es pos) env) Q E s := by
  refine List_ (spliced_consts h ?_)
  refine newList_N (s := { s with toks := s.toks + xs.length }) F N (fun h' F' N' => hQ h' F' N') ?_
  rw [strVals_length, sizeLine_eq]; omega

/-- a pair of texts that stands -/
abbrev Ent := Addr × Ln
def entO (e : Ent) : Obj := tupO [.str e.2.1 e.2.2.1, .str e.2.2.2.1 e.2.2.2.2]
def entKV (e : Ent) : Str × Str := (e.2.1, e.2.2.2.1)
theorem ent_tup {h₀ h : Heap} {L : Addr} {news : List (Addr × Obj)} {e : Ent} (N : News h₀ L h news) (he : (e.1, entO e) ∈ news) : IsTup h e.1 #[.str e.2.1 e.2.2.1, .str e.2.2.2.1 e.2.2.2.2] := ⟨_, (N _ he).1, rfl, _, rfl⟩

def dbls : List Str := [Str.ofString "", Str.ofString "\"", Str.ofString "'", Str.ofString "&quot;", Str.ofString "&#34;", Str.ofString "&#x22;"]
def sgls : List Str := [Str.ofString "", Str.ofString "'", Str.ofString "\"", Str.ofString "&#x27;", Str.ofString "&apos;", Str.ofString "&#39;"]
def pick (l : List Str) (n : Int) (d : Int) : Str := (l[((n.fdiv d).fmod 6).toNat]?).getD Str.empty
def base2 (n : Int) : List (Str × Str) := if (n.fdiv 432).fmod 2 = 1 then [(sq, pick sgls n 72), (dq, pick dbls n 12)] else [(dq, pick dbls n 12), (sq, pick sgls n 72)]
def ents (n : Int) : List (Str × Str) := (base2 n).filter fun e => e.2 != Str.ofString ""
theorem pick_at {l : List Str} (hl : l.length = 6) (n : Int) (d : Int) : l[((n.fdiv d).fmod 6).toNat]? = some (pick l n d) := by
  have h0 := Int.fmod_nonneg_of_pos (n.fdiv d) (b := 6) (by decide)
  have h1 := Int.fmod_lt_of_pos (n.fdiv d) (b := 6) (by decide)
  have : ((n.fdiv d).fmod 6).toNat < l.length := by omega
  unfold pick
  rw [List.getElem?_eq_getElem this]; rfl

theorem ev_pick {prog : Program} {w : World} {A : Around} {E : Value → Shared → Prop} {s : Shared} {h₀ : Heap} {L a b : Addr} {m : Str → Option Value} {cn : Str} {cs : Scope} {ccd : Value} {cl : List (Str × Addr)} {news : List (Addr × Obj)}
    {xl xn : Str} {n d : Int} {tn t0 : Tok} {k1 k2 : Nat} {p1 p2 p3 p4 p5 p6 p7 : Pos} {l : List Str} {Q : Value → Shared → Prop}
    (F : Fr h₀ L s.heap m) (N : News h₀ L s.heap news) (hm : m xl = some (.ref b)) (hmn : m xn = some (.int n tn)) (hb : (b, lstO (strVals t0 l)) ∈ news) (hl : l.length = 6)
    (h : ∀ u, t0 ≤ u → u < t0 + 6 → Q (.str (pick l n d) u) { s with toks := s.toks + 1 + 1 + 1 + 1 })
    (hk : cs.kind = .function) (hx : (envX cn cs L a ccd cl).kindOf xl = some .local) (hxn : (envX cn cs L a ccd cl).kindOf xn = some .local) (hd : (xl == ("__debug__" : Str)) = false) (hdn : (xn == ("__debug__" : Str)) = false) (hd0 : d ≠ 0) (hdl : d.natAbs.log2 < 9000) :
    wpAny (model prog w) A (eval (.Subscript (.Name xl p1) (.BinOp (.BinOp (.Name xn p2) .FloorDiv (.Constant (.int d) k1 p3) p4) .Mod (.Constant (.int 6) k2 p5) p6) p7) (envX cn cs L a ccd cl)) Q E s := by
  refine Subscript_ (nameX_L F hm ?_ hk hx hd)
  refine ev_fmod (ev_fdiv (nameX_L F hmn ⟨_, _, rfl, fun t₁ => ⟨_, _, rfl, fun t₂ => ?_⟩⟩ hk hxn hdn) hd0 hdl)
  have h0 := Int.fmod_nonneg_of_pos (n.fdiv d) (b := 6) (by decide)
  have h1 := Int.fmod_lt_of_pos (n.fdiv d) (b := 6) (by decide)
  have hIs : s.heap.IsList b (strVals t0 l).toArray := ⟨_, (N _ hb).1, rfl, _, rfl⟩
  refine tail_list (vs := strVals t0 l) (v := .str (pick l n d) (t0 + ((n.fdiv d).fmod 6).toNat)) hIs h0 (by omega) (strVals_at _ _ _ _ (pick_at hl n d)) rfl ?_
  exact h _ (Nat.le_add_right _ _) (Nat.add_lt_add_left (by omega) _)

theorem c68 (w : World) (p : Program) (loose : List Str) (mean : ExcName → Option Value) (mg mb : Str → Option Value) (n : Int) (t : Tok) :
    Mine.Gives PySem.Challenge.rw_dn0034_02.row.prog w (hd02.heap_39 w.params) p loose mean mg mb 5 68 [.int n t] (fun _ _ => True)
      (fun v ex => ∃ (D : Addr) (es : List Ent), v = .ref D ∧ (D, LCg.lst (es.map fun e => Value.ref e.1)) ∈ ex ∧ (∀ e ∈ es, (e.1, entO e) ∈ ex ∧ LnOk e.2) ∧ es.map entKV = ents n) := by
  k_fill
  refine gives_def (binds := [(Str.ofString "n", .int n t)]) (by k_is) (by k_is) (fun s _ => BindsTo.of_eq (by kernel_rfl)) (locs (by kernel_rfl)) rfl rfl rfl (by decide) ?_
  intro A A₀ base outer g L news s Q S F N h1 hr hpre hQ
  refine seq_let (h₀ := g) (cl := []) ?a1 ?a2 ?a3 ?_
  case a1 => rfl
  case a2 => rfl
  case a3 => kernel_rfl
  refine (ev_strs2 (xs := dbls) F N ?b1 ?b2 ?b3 :)
  case b1 => repeat (first | exact SConsts.nil | refine SConsts.cons ?_)
  case b2 => exact Nat.le_of_ble_eq_true rfl
  intro h₁ F₁ N₁
  refine ⟨_, _, F₁, N₁, fun h₂ F₂ N₂ => ?_⟩
  generalize hDa : s.heap.objs.size = da at *
  refine seq_let (h₀ := g) (cl := []) ?c1 ?c2 ?c3 ?_
  case c1 => rfl
  case c2 => rfl
  case c3 => kernel_rfl
  refine (ev_strs2 (xs := sgls) (s := { s with heap := h₂, toks := s.toks + 6 + 1 }) F₂ N₂ ?d1 ?d2 ?d3 :)
  case d1 => repeat (first | exact SConsts.nil | refine SConsts.cons ?_)
  case d2 => exact Nat.le_of_ble_eq_true rfl
  intro h₃ F₃ N₃
  refine ⟨_, _, F₃, N₃, fun h₄ F₄ N₄ => ?_⟩
  have hN0 : s.heap.objs.size = da := hDa
  generalize hSb : h₂.objs.size = sb at *
  have hdsz : ∀ q ∈ news, q.1 < da := fun q hq => hDa ▸ Heap.lt_size (N q hq).1
  have hda : da < sb := hSb ▸ Heap.lt_size (N₂ _ (.head _)).1
  have hmd : ∀ v, upd (upd (fun y => List.lookup y [(Str.ofString "n", Value.int n t)].reverse) (Str.ofString "doubles") (.ref da)) (Str.ofString "singles") v (Str.ofString "doubles") = some (.ref da) := fun v => (upd_ne (by decide +kernel)).trans (upd_at ..)
  have hmn : ∀ v, upd (upd (fun y => List.lookup y [(Str.ofString "n", Value.int n t)].reverse) (Str.ofString "doubles") (.ref da)) (Str.ofString "singles") v (Str.ofString "n") = some (.int n t) := fun v => (upd_ne (by decide +kernel)).trans ((upd_ne (by decide +kernel)).trans rfl)
  generalize hmm : upd (upd (fun y => List.lookup y [(Str.ofString "n", Value.int n t)].reverse) (Str.ofString "doubles") (.ref da)) (Str.ofString "singles") (.ref sb) = mm at F₄
  have hmd : mm (Str.ofString "doubles") = some (.ref da) := hmm ▸ hmd _
  have hmn : mm (Str.ofString "n") = some (.int n t) := hmm ▸ hmn _
  have hms : mm (Str.ofString "singles") = some (.ref sb) := by rw [← hmm]; exact upd_at ..
  have N₄' : News g L h₄ ((sb, lstO (strVals (s.toks + 6 + 1) sgls)) :: (da, lstO (strVals s.toks dbls)) :: news) := N₄
  refine lt (cl := []) g ?_
  refine List_ ?_
  refine spliced_more ?_ rfl
  refine Tuple_ ?_
  refine spliced_more (Constant_str ?_) rfl
  refine spliced_more ?_ rfl
  refine ev_pick (d := 12) (l := dbls) (t0 := s.toks) F₄ N₄' hmd hmn (.tail _ (.head _)) rfl (fun u1 hu1 hu1' => ?_) rfl (by kernel_rfl) (by kernel_rfl) (by decide +kernel) (by decide +kernel) (by decide) (by decide +kernel)
  refine spliced_none ?_
  refine newTuple_N (s := { s with heap := h₄, toks := s.toks + 6 + 1 + 6 + 1 + 1 + 1 + 1 + 1 + 1 }) F₄ N₄' (fun h₅ F₅ N₅ => ?_) (Nat.le_of_ble_eq_true rfl)
  refine spliced_more ?_ rfl
  refine Tuple_ ?_
  refine spliced_more (Constant_str ?_) rfl
  refine spliced_more ?_ rfl
  refine ev_pick (d := 72) (l := sgls) (t0 := s.toks + 6 + 1) F₅ N₅ hms hmn (.tail _ (.head _)) rfl (fun u2 hu2 hu2' => ?_) rfl (by kernel_rfl) (by kernel_rfl) (by decide +kernel) (by decide +kernel) (by decide) (by decide +kernel)
  refine spliced_none ?_
  refine newTuple_N (s := { s with heap := h₅, toks := s.toks + 6 + 1 + 6 + 1 + 1 + 1 + 1 + 1 + 1 + 1 + 1 + 1 + 1 + 1 }) F₅ N₅ (fun h₆ F₆ N₆ => ?_) (Nat.le_of_ble_eq_true rfl)
  refine spliced_none ?_
  refine newList_N (s := { s with heap := h₆, toks := s.toks + 6 + 1 + 6 + 1 + 1 + 1 + 1 + 1 + 1 + 1 + 1 + 1 + 1 + 1 }) F₆ N₆ (fun h₇ F₇ N₇ => ?_) (Nat.le_of_ble_eq_true rfl)
  refine ⟨_, _, F₇, N₇, fun h₈ F₈ N₈ => ?_⟩
  have z4 : sb < h₄.objs.size := Heap.lt_size (N₄' _ (.head _)).1
  have z5 : h₄.objs.size < h₅.objs.size := Heap.lt_size (N₅ _ (.head _)).1
  have z6 : h₅.objs.size < h₆.objs.size := Heap.lt_size (N₆ _ (.head _)).1
  obtain ⟨e0, he0⟩ : ∃ e : Ent, e = (h₄.objs.size, dq, s.toks + 6 + 1 + 6 + 1, pick dbls n 12, u1) := ⟨_, rfl⟩
  obtain ⟨e1, he1⟩ : ∃ e : Ent, e = (h₅.objs.size, sq, s.toks + 6 + 1 + 6 + 1 + 1 + 1 + 1 + 1 + 1, pick sgls n 72, u2) := ⟨_, rfl⟩
  have ok0 : LnOk e0.2 := by
    subst he0
    refine ⟨Nat.succ_ne_zero _, Nat.ne_of_gt (Nat.lt_of_lt_of_le h1 hu1), Nat.ne_of_gt (Nat.lt_of_lt_of_le hu1' ?_)⟩
    show s.toks + 6 ≤ s.toks + 6 + 1 + 6 + 1; omega
  have ok1 : LnOk e1.2 := by
    subst he1
    refine ⟨Nat.succ_ne_zero _, Nat.ne_of_gt (Nat.lt_of_lt_of_le (Nat.succ_pos _) hu2), Nat.ne_of_gt (Nat.lt_of_lt_of_le hu2' ?_)⟩
    show s.toks + 6 + 1 + 6 ≤ s.toks + 6 + 1 + 6 + 1 + 1 + 1 + 1 + 1 + 1; omega
  have kv0 : entKV e0 = (dq, pick dbls n 12) := by subst he0; rfl
  have kv1 : entKV e1 = (sq, pick sgls n 72) := by subst he1; rfl
  obtain ⟨exX, N, hlX, he0X, he1X, hap⟩ : ∃ exX, News g L h₈ (exX ++ news) ∧ (h₆.objs.size, lstO ([e0, e1].map fun e => Value.ref e.1)) ∈ exX ∧ (e0.1, entO e0) ∈ exX ∧ (e1.1, entO e1) ∈ exX ∧ ∀ x ∈ exX, ∀ q ∈ news, q.1 ≠ x.1 := by
    refine ⟨[(h₆.objs.size, lstO ([e0, e1].map fun e => Value.ref e.1)), (e1.1, entO e1), (e0.1, entO e0)], ?_, .head _, .tail _ (.tail _ (.head _)), .tail _ (.head _), ?_⟩
    · refine news_sub N₈ fun q hq => ?_
      subst he0 he1
      simp only [List.cons_append, List.nil_append, List.mem_cons] at hq
      rcases hq with rfl | rfl | rfl | hq
      · exact .head _
      · exact .tail _ (.head _)
      · exact .tail _ (.tail _ (.head _))
      · exact .tail _ (.tail _ (.tail _ (.tail _ (.tail _ hq))))
    · intro x hx q hq
      have hqd : q.1 < da := hdsz q hq
      subst he0 he1
      simp only [List.mem_cons, List.not_mem_nil, or_false] at hx
      rcases hx with rfl | rfl | rfl
      · exact Nat.ne_of_lt (Nat.lt_trans hqd (Nat.lt_trans hda (Nat.lt_trans z4 (Nat.lt_trans z5 z6))))
      · exact Nat.ne_of_lt (Nat.lt_trans hqd (Nat.lt_trans hda (Nat.lt_trans z4 z5)))
      · exact Nat.ne_of_lt (Nat.lt_trans hqd (Nat.lt_trans hda z4))
  have hme : upd mm (Str.ofString "entries") (.ref h₆.objs.size) (Str.ofString "entries") = some (.ref h₆.objs.size) := upd_at ..
  have hmn2 : upd mm (Str.ofString "entries") (.ref h₆.objs.size) (Str.ofString "n") = some (.int n t) := (upd_ne (by decide +kernel)).trans hmn
  clear N₈ N₇ N₆ N₅ N₄' N₄ N₃ N₂ N₁
  refine wpAny_execs_cons ?_
  refine wpAny_mono (Q := fun fl s' => fl = .next ∧ ∃ (es : List Ent) (B : Addr) (exY : List (Addr × Obj)) (h : Heap) (tk : Tok) (m' : Str → Option Value), s' = { s with heap := h, toks := tk } ∧ Fr g L h m' ∧ News g L h (exY ++ news) ∧ m' (Str.ofString "entries") = some (.ref B) ∧
    (B, lstO (es.map fun e => Value.ref e.1)) ∈ exY ∧ (∀ e ∈ es, (e.1, entO e) ∈ exY ∧ LnOk e.2) ∧ es.map entKV = base2 n ∧ (∀ x ∈ exY, ∀ q ∈ news, q.1 ≠ x.1) ∧ es.length ≤ 2 ∧ 1 ≤ tk) (E := fun _ _ => False) ?q1 ?q2 (fun _ _ x => x)
  case q1 =>
    refine wpAny_If ?_
    refine wpAny_isTrue_Compare1 (ev_fmod (ev_fdiv (nm (cl := []) F₈ hmn2 ⟨_, _, rfl, fun t₁ => ⟨_, _, rfl, fun t₂ => ?_⟩⟩)))
    refine wpAny_Constant_int (eq_int (wpAny_truthy_bool ?_))
    have hIs : h₈.IsList h₆.objs.size [Value.ref e0.1, Value.ref e1.1].toArray := ⟨_, (N _ (List.mem_append_left _ hlX)).1, rfl, _, rfl⟩
    split
    · rename_i hz
      have hz : (n.fdiv 432).fmod 2 = 1 := by simpa using hz
      refine lt (cl := []) g ?_
      refine List_ ?_
      refine spliced_more ?_ rfl
      refine Subscript_ (nm (cl := []) F₈ hme (wpAny_Constant_int ?_))
      refine tail_list (vs := [Value.ref e0.1, Value.ref e1.1]) (v := .ref e1.1) hIs (by decide) (by decide) rfl rfl ?_
      refine spliced_more ?_ rfl
      refine Subscript_ (nm (cl := []) F₈ hme (wpAny_Constant_int ?_))
      refine tail_list (vs := [Value.ref e0.1, Value.ref e1.1]) (v := .ref e0.1) hIs (by decide) (by decide) rfl rfl ?_
      refine spliced_none ?_
      refine newList_N F₈ N (fun h₉ F₉ N₉ => ?_) (Nat.le_of_ble_eq_true rfl)
      refine ⟨_, _, F₉, N₉, fun h₁₀ F₁₀ N₁₀ => ?_⟩
      refine wpAny_execs_nil ⟨rfl, [e1, e0], h₈.objs.size, (h₈.objs.size, lstO ([e1, e0].map fun e : Ent => Value.ref e.1)) :: exX, h₁₀, _, _, rfl, F₁₀, N₁₀, upd_at .., .head _, ?_, ?_, ?_, Nat.le_of_ble_eq_true rfl, Nat.le_add_left _ _⟩
      · intro e he
        rcases List.mem_cons.mp he with rfl | he
        · exact ⟨.tail _ he1X, ok1⟩
        · rw [List.mem_singleton.mp he]; exact ⟨.tail _ he0X, ok0⟩
      · show [entKV e1, entKV e0] = _
        rw [kv0, kv1]; unfold base2; rw [if_pos hz]
      · intro x hx q hq
        rcases List.mem_cons.mp hx with rfl | hx
        · exact Nat.ne_of_lt (Heap.lt_size (N _ (List.mem_append_right _ hq)).1)
        · exact hap x hx q hq
    · rename_i hz
      have hz : ¬ (n.fdiv 432).fmod 2 = 1 := by simpa using hz
      refine wpAny_execs_nil ⟨rfl, [e0, e1], h₆.objs.size, exX, h₈, _, _, rfl, F₈, N, hme, hlX, ?_, ?_, hap, Nat.le_of_ble_eq_true rfl, Nat.le_add_left _ _⟩
      · intro e he
        rcases List.mem_cons.mp he with rfl | he
        · exact ⟨he0X, ok0⟩
        · rw [List.mem_singleton.mp he]; exact ⟨he1X, ok1⟩
      · show [entKV e0, entKV e1] = _
        rw [kv0, kv1]; unfold base2; rw [if_neg hz]
  rintro fl s' ⟨rfl, es, B, exY, h₁₁, tk₁₁, m₁₁, rfl, F, N, hmB, hB, hes, hkv, hapY, hlen, htk⟩
  dsimp only
  refine seq_ret ?_
  refine toksQ ?_
  refine comp_list_sel (cl := []) (h₀ := g) (L := L) (m := m₁₁) es (fun e : Ent => Value.ref e.1) (fun e : Ent => e.2.2.2.1 != Str.ofString "") (fun e : Ent => Value.ref e.1) S.hh F ?r1 ?r2 rfl ?r3 ?r4 ?r5 ?r6
  case r1 => rfl
  case r2 => decide +kernel
  case r3 => decide +kernel
  case r4 => kernel_rfl
  case r5 => exact fun _ => rfl
  refine nm (cl := []) F hmB ?_
  refine ⟨B, exY ++ news, rfl, F, N, .inl ⟨0, List.mem_append_left _ hB⟩, by rw [sizeLine_eq]; omega, ?_, ?_, ?_⟩
  · intro e C m₂ own s₂ he hns hxv F N
    refine wpAny_isTrue_Compare1 ?_
    refine Subscript_ (cname_L hns hxv (wpAny_Constant_int ?_) rfl (by kernel_rfl) (by decide +kernel))
    have hT := ent_tup N (List.mem_append_right _ (List.mem_append_left _ (hes e he).1))
    refine tail_any (T := "tuple") ?_ slot_tuple_getitem.lookup (getItem_tuple (s := { s₂ with toks := s₂.toks + 1 }) hT (by decide) (by decide) (k := 1) (j := 1) rfl rfl ?_) rfl
    · exact hT.typeIs
    refine wpAny_Constant_str (ne_str (wpAny_truthy_bool ⟨rfl, _, _, rfl, F, N⟩))
  · intro e C m₂ own s₂ he _ hns hxv F N
    exact cname_L hns hxv ⟨rfl, _, _, rfl, F, N⟩ rfl (by kernel_rfl) (by decide +kernel)
  · intro D h' tk F N hne htk2
    have htk2 : tk₁₁ ≤ tk := htk2
    refine hQ _ ((D, LCg.lst ((es.filter (fun e : Ent => e.2.2.2.1 != Str.ofString "")).map fun e : Ent => Value.ref e.1)) :: exY) h' tk _ F N ?_ ?_ ⟨D, _, rfl, .head _, ?_, ?_⟩
    · intro q hq x hx
      rcases List.mem_cons.mp hx with rfl | hx
      · exact hne q (List.mem_append_right _ hq)
      · exact hapY x hx q hq
    · exact Nat.le_trans htk htk2
    · intro e he
      have := hes e (List.mem_filter.mp he).1
      exact ⟨.tail _ this.1, this.2⟩
    · unfold ents
      rw [← hkv, List.filter_map]
      rfl
end Mine.L02
end

section
open PySem PySem.StrLaws PySem.Builtin.Str
namespace Mine.L02
def HQ (q : Bool) : List (Str × Str) := H ++ if q = true then M2 else []
def swapE (T : List (Str × Str)) : List (Str × Str) := T.map fun e => (e.2, e.1)
def entsOf (a b : Nat) (c : Bool) : List (Str × Str) :=
  (if c = true then [(sq, (sgls[b]?).getD Str.empty), (dq, (dbls[a]?).getD Str.empty)] else [(dq, (dbls[a]?).getD Str.empty), (sq, (sgls[b]?).getD Str.empty)]).filter fun e => e.2 != Str.ofString ""
def imgE (E : List (Str × Str)) (mk : Str) : Str := E.foldl (fun im e => if (im == e.1) = true then e.2 else im) mk
def sg5 : List Nat := [34, 38, 39, 60, 62]
def sg8 : List Nat := [34, 38, 39, 60, 62, 9, 10, 13]
structure ChkE (E : List (Str × Str)) : Prop where
  st : lreps (S ++ E) = single (numR (S ++ E))
  keys : ∀ k ∈ (numR (S ++ E)).map (·.1), k ∈ sg5
  three : ∀ k ∈ [38, 60, 62], ∀ q : Bool, enc (numR (S ++ E)) k = enc (numR (HQ q)) k
  img : ∀ t ∈ [(34, dq), (39, sq)], enc (numR (S ++ E)) t.1 = (imgE E t.2).cps.toList
  free : ∀ k ∈ [34, 39], ∀ q : Bool, enc (numR (S ++ E)) k = enc (numR (HQ q)) k ∨ ((enc (numR (S ++ E)) k).isPrefixOf (enc (numR (HQ q)) k) = false ∧ (enc (numR (HQ q)) k).isPrefixOf (enc (numR (S ++ E)) k) = false)
  small : ∀ i ∈ List.range 10, ∀ k ∈ sg5, (enc ((numR (S ++ E)).take i) k).length ≤ 6
  len : ∀ r ∈ S ++ E, r.2.length ≤ 8
  few : (numR (S ++ E)).length < 10
  nodup : (E.map (·.1)).Nodup
abbrev ChkP (E : List (Str × Str)) : Prop :=
  ((lreps (S ++ E) = single (numR (S ++ E)) ∧ ∀ k ∈ (numR (S ++ E)).map (·.1), k ∈ sg5) ∧ (∀ k ∈ [38, 60, 62], ∀ q : Bool, enc (numR (S ++ E)) k = enc (numR (HQ q)) k) ∧ (∀ t ∈ [(34, dq), (39, sq)], enc (numR (S ++ E)) t.1 = (imgE E t.2).cps.toList) ∧
    (∀ k ∈ [34, 39], ∀ q : Bool, enc (numR (S ++ E)) k = enc (numR (HQ q)) k ∨ ((enc (numR (S ++ E)) k).isPrefixOf (enc (numR (HQ q)) k) = false ∧ (enc (numR (HQ q)) k).isPrefixOf (enc (numR (S ++ E)) k) = false)) ∧
    (∀ i ∈ List.range 10, ∀ k ∈ sg5, (enc ((numR (S ++ E)).take i) k).length ≤ 6) ∧ (∀ r ∈ S ++ E, r.2.length ≤ 8) ∧ (numR (S ++ E)).length < 10 ∧ (E.map (·.1)).Nodup)
theorem chkP : ∀ c : Bool, ∀ a ∈ List.range 6, ∀ b ∈ List.range 6, ChkP (entsOf a b c) := by decide +kernel
theorem chkE (c : Bool) (a : Nat) (ha : a < 6) (b : Nat) (hb : b < 6) : ChkE (entsOf a b c) :=
  have ⟨⟨q1, q2⟩, q3, q4, q5, q6, q7, q8, q9⟩ := chkP c a (List.mem_range.mpr ha) b (List.mem_range.mpr hb)
  ⟨q1, q2, q3, q4, q5, q6, q7, q8, q9⟩
theorem ents_of (n : Int) : ∃ a b c, a < 6 ∧ b < 6 ∧ ents n = entsOf a b c := by
  have h0 := fun d => Int.fmod_nonneg_of_pos (n.fdiv d) (b := 6) (by decide)
  have h1 := fun d => Int.fmod_lt_of_pos (n.fdiv d) (b := 6) (by decide)
  refine ⟨((n.fdiv 12).fmod 6).toNat, ((n.fdiv 72).fmod 6).toNat, decide ((n.fdiv 432).fmod 2 = 1), by have := h0 12; have := h1 12; omega, by have := h0 72; have := h1 72; omega, ?_⟩
  unfold ents base2 entsOf pick
  simp only [decide_eq_true_eq]
theorem ents_ok (n : Int) : ChkE (ents n) := by
  obtain ⟨a, b, c, ha, hb, e⟩ := ents_of n
  rw [e]; exact chkE c a ha b hb
theorem ents_few (n : Int) : (ents n).length ≤ 2 := by
  refine Nat.le_trans (List.length_filter_le ..) ?_
  unfold base2; split <;> exact Nat.le_of_ble_eq_true rfl
theorem ents_keys (n : Int) : ∀ e ∈ ents n, e.1 = dq ∨ e.1 = sq := by
  intro e he
  have := (List.mem_filter.mp he).1
  unfold base2 at this
  split at this <;> simp only [List.mem_cons, List.not_mem_nil, or_false] at this <;> rcases this with rfl | rfl <;> simp

structure ChkH (q : Bool) : Prop where
  st : lreps (HQ q) = single (numR (HQ q))
  keys : ∀ k ∈ (numR (HQ q)).map (·.1), k ∈ sg5
  marks : ∀ t ∈ [(34, dq, o "&quot;"), (39, sq, o "&#x27;")], enc (numR (HQ q)) t.1 = (if q = true then t.2.2 else t.2.1).cps.toList
  small : ∀ i ∈ List.range 10, ∀ k ∈ sg5, (enc ((numR (HQ q)).take i) k).length ≤ 6
  len : ∀ r ∈ HQ q, r.2.length ≤ 8
  few : (numR (HQ q)).length < 10
  good : ∀ k ∈ sg5, good (enc (numR (HQ q)) k) = true
  back : ∀ k ∈ sg5, (if dec (lreps (V ++ swapE M2)) (enc (numR (HQ q)) k) = [38, 97, 109, 112, 59] then [38] else dec (lreps (V ++ swapE M2)) (enc (numR (HQ q)) k)) = [k]
  back2 : ∀ k ∈ sg5, (if dec (lreps V) (enc (numR (HQ q)) k) = [38, 97, 109, 112, 59] then [38] else dec (lreps V) (enc (numR (HQ q)) k)) = enc (numR (if q = true then M2 else [])) k
theorem chkH (q : Bool) : ChkH q := by
  cases q <;> constructor <;> decide +kernel
theorem other {n : List NRep} (h : ∀ k ∈ n.map (·.1), k ∈ sg5) {k : Nat} (hk : k ∉ sg5) : enc n k = [k] := enc_other fun q => hk (h k q)

/-- what html writes -/
def toldT (q : Bool) (X : Str) : Str := repls X (HQ q)
theorem told_if (q : Bool) (X : Str) : (if q = true then repls (repls X H) M2 else repls X H) = toldT q X := by
  unfold toldT HQ
  cases q
  · simp
  · simp [repls_append]
theorem has_mark {X : Str} {t : Nat × Str} (ht : t ∈ [(34, dq), (39, sq)]) : hasT X t.2 = true ↔ t.1 ∈ X.cps.toList := by
  simp only [List.mem_cons, List.not_mem_nil, or_false] at ht
  rcases ht with rfl | rfl
  · exact hasOne X 34
  · exact hasOne X 39
/-- do the tables agree -/
def sameT (q : Bool) (X : Str) (E : List (Str × Str)) (l : List (Str × Str)) : Bool := !(l.any fun mr => hasT X mr.1 && (imgE E mr.1 != (if q = true then mr.2 else mr.1)))
theorem law_one (n : Int) (q : Bool) (X : Str) : (toldT q X == repls (repls X S) (ents n)) = sameT q X (ents n) M2 := by
  have hE := ents_ok n
  have hH := chkH q
  have e1 := repls_enc hH.st X
  have e2 := repls_enc hE.st X
  rw [repls_append] at e2
  have hfree : ∀ k, enc (numR (HQ q)) k = enc (numR (S ++ ents n)) k ∨ (¬ enc (numR (HQ q)) k <+: enc (numR (S ++ ents n)) k ∧ ¬ enc (numR (S ++ ents n)) k <+: enc (numR (HQ q)) k) := by
    intro k
    by_cases hk : k ∈ sg5
    · have hk' : k ∈ [34, 39] ∨ k ∈ [38, 60, 62] := by
        simp only [sg5, List.mem_cons, List.not_mem_nil, or_false] at hk ⊢
        omega
      rcases hk' with hk' | hk'
      · rcases hE.free k hk' q with h | ⟨h1, h2⟩
        · exact .inl h.symm
        · refine .inr ⟨fun p => ?_, fun p => ?_⟩
          · rw [← List.isPrefixOf_iff_prefix, h2] at p; cases p
          · rw [← List.isPrefixOf_iff_prefix, h1] at p; cases p
      · exact .inl (hE.three k hk' q).symm
    · exact .inl ((other hH.keys hk).trans (other hE.keys hk).symm)
  have hiff := flat_iff hfree X.cps.toList
  have hall : (∀ k ∈ X.cps.toList, enc (numR (HQ q)) k = enc (numR (S ++ ents n)) k) ↔ sameT q X (ents n) M2 = true := by
    have hm : ∀ t ∈ [(34, dq, o "&quot;"), (39, sq, o "&#x27;")], (enc (numR (HQ q)) t.1 = enc (numR (S ++ ents n)) t.1 ↔ (imgE (ents n) t.2.1 != (if q = true then t.2.2 else t.2.1)) = false) := by
      intro t ht
      have h1 := hH.marks t ht
      have h2 := hE.img (t.1, t.2.1) (by
        simp only [List.mem_cons, List.not_mem_nil, or_false] at ht ⊢
        rcases ht with rfl | rfl <;> simp)
      rw [h1, h2, bne_eq_false_iff_eq]
      constructor
      · intro e; exact (str_ext e).symm
      · intro e; rw [e]
    have m1 := hm (34, dq, o "&quot;") (by simp)
    have m2 := hm (39, sq, o "&#x27;") (by simp)
    have a1 := has_mark (X := X) (t := (34, dq)) (by simp)
    have a2 := has_mark (X := X) (t := (39, sq)) (by simp)
    have hs : sameT q X (ents n) M2 = true ↔ ((hasT X dq = true → (imgE (ents n) dq != (if q = true then o "&quot;" else dq)) = false) ∧ (hasT X sq = true → (imgE (ents n) sq != (if q = true then o "&#x27;" else sq)) = false)) := by
      unfold sameT M2
      simp only [List.any_cons, List.any_nil, Bool.or_false, Bool.not_eq_true', Bool.or_eq_false_iff, Bool.and_eq_false_iff]
      constructor
      · rintro ⟨h1, h2⟩
        exact ⟨fun h => h1.resolve_left (by rw [show hasT X (o "\"") = hasT X dq from rfl, h]; decide), fun h => h2.resolve_left (by rw [show hasT X (o "'") = hasT X sq from rfl, h]; decide)⟩
      · rintro ⟨h1, h2⟩
        refine ⟨?_, ?_⟩
        · cases e : hasT X dq with
          | false => exact .inl rfl
          | true => exact .inr (h1 e)
        · cases e : hasT X sq with
          | false => exact .inl rfl
          | true => exact .inr (h2 e)
    rw [hs]
    constructor
    · intro h
      exact ⟨fun q1 => m1.mp (h 34 (a1.mp q1)), fun q1 => m2.mp (h 39 (a2.mp q1))⟩
    · rintro ⟨h1, h2⟩ k hk
      by_cases hk5 : k ∈ sg5
      · by_cases k34 : k = 34
        · subst k34; exact m1.mpr (h1 (a1.mpr hk))
        · by_cases k39 : k = 39
          · subst k39; exact m2.mpr (h2 (a2.mpr hk))
          · refine (hE.three k ?_ q).symm
            simp only [sg5, List.mem_cons, List.not_mem_nil, or_false] at hk5 ⊢
            omega
      · exact (other hH.keys hk5).trans (other hE.keys hk5).symm
  rw [Bool.eq_iff_iff, beq_iff_eq, ← hall, ← hiff, ← e1, ← e2]
  exact ⟨fun h => congrArg (fun y : Str => y.cps.toList) h, str_ext⟩

theorem fits_app {X : Str} : ∀ {a b : List (Str × Str)}, Fits X (a ++ b) ↔ Fits X a ∧ Fits (repls X a) b
  | [], _ => by simp [Fits, repls]
  | (y, z) :: r, b => by
    have ih := fits_app (X := Txt.replace X y z) (a := r) (b := b)
    show _ ∧ Fits (Txt.replace X y z) (r ++ b) ↔ (_ ∧ Fits (Txt.replace X y z) r) ∧ Fits (repls (Txt.replace X y z) r) b
    rw [ih, and_assoc]
theorem told_fits {X : Str} (hX : X.length ≤ 400) : Fits X H ∧ Fits (repls X H) M2 := by
  have h := chkH true
  have := fits_enc h.st h.len (b := 6) (X := X) (fun i k => by
    by_cases hk : k ∈ sg5
    · by_cases hi : i < 10
      · exact h.small i (List.mem_range.mpr hi) k hk
      · have q := h.small 9 (by decide) k hk
        rw [List.take_of_length_le (by have := h.few; omega)] at q ⊢
        exact q
    · rw [enc_other fun q => hk (h.keys k (by rw [List.map_take] at q; exact List.mem_of_mem_take q))]
      simp) (by omega)
  exact fits_app.mp this
theorem told_len (q : Bool) (X : Str) : (toldT q X).length ≤ 6 * X.length := by
  have h := chkH q
  unfold toldT
  rw [← tl, repls_enc h.st, ← tl X]
  refine flatMap_len (fun k => ?_) _
  by_cases hk : k ∈ sg5
  · have q := h.small 9 (by decide) k hk
    rwa [List.take_of_length_le (by have := h.few; omega)] at q
  · rw [other h.keys hk]; simp
theorem sax_fits {X : Str} (n : Int) (hX : X.length ≤ 400) : Fits X S ∧ Fits (repls X S) (ents n) := by
  have h := ents_ok n
  have := fits_enc h.st h.len (b := 6) (X := X) (fun i k => by
    by_cases hk : k ∈ sg5
    · by_cases hi : i < 10
      · exact h.small i (List.mem_range.mpr hi) k hk
      · have q := h.small 9 (by decide) k hk
        rw [List.take_of_length_le (by have := h.few; omega)] at q ⊢
        exact q
    · rw [enc_other fun q => hk (h.keys k (by rw [List.map_take] at q; exact List.mem_of_mem_take q))]
      simp) (by omega)
  exact fits_app.mp this
theorem dec_one : ∀ {ys : List LRep} {k : Nat}, (∀ r ∈ ys, isRef r.1 = true) → dec ys [k] = [k]
  | [], _, _ => rfl
  | r :: rs, k, h => by
    obtain ⟨b, e, _⟩ := isRef_shape (h r (List.mem_cons_self ..))
    have : ¬ ([k] = r.1) := by rw [e]; simp
    show dec rs (if [k] = r.1 then r.2 else [k]) = [k]
    rw [if_neg this]
    exact dec_one fun q hq => h q (List.mem_cons_of_mem _ hq)
theorem told_good (q : Bool) (k : Nat) : good (enc (numR (HQ q)) k) = true := by
  by_cases hk : k ∈ sg5
  · exact (chkH q).good k hk
  · rw [other (chkH q).keys hk]
    have : k ≠ 38 := fun e => hk (by simp [e, sg5])
    simp [good, this]
/-- unescape with html's two references -/
theorem law_two (q : Bool) (X : Str) : Txt.replace (repls (repls (toldT q X) V) (swapE M2)) (o "&amp;") (o "&") = X := by
  rw [← repls_append]
  refine unesc_str (al := [38, 97, 109, 112, 59]) (zl := [38]) (chkH q).st rfl (by decide +kernel) (by decide +kernel) (by decide +kernel) (by decide +kernel) (told_good q) (fun k => ?_) X
  by_cases hk : k ∈ sg5
  · exact (chkH q).back k hk
  · rw [other (chkH q).keys hk, dec_one (by decide +kernel), if_neg (by simp)]
/-- unescape without -/
theorem law_three (q : Bool) (X : Str) : Txt.replace (repls (toldT q X) V) (o "&amp;") (o "&") = if q = true then repls X M2 else X := by
  refine str_ext ?_
  rw [show toldT q X = repls X (HQ q) from rfl, unesc_strM (al := [38, 97, 109, 112, 59]) (zl := [38]) (chkH q).st (U := V) rfl (by decide +kernel) (by decide +kernel) (by decide +kernel) (by decide +kernel) (told_good q) X]
  have e : (if q = true then repls X M2 else X) = repls X (if q = true then M2 else []) := by cases q <;> rfl
  have hst : lreps (if q = true then M2 else []) = single (numR (if q = true then M2 else [])) := by cases q <;> decide +kernel
  have hks : ∀ k ∈ (numR (if q = true then M2 else [])).map (·.1), k ∈ sg5 := by cases q <;> decide +kernel
  rw [e, repls_enc hst]
  refine fm_congr' fun k _ => ?_
  by_cases hk : k ∈ sg5
  · exact (chkH q).back2 k hk
  · rw [other (chkH q).keys hk, dec_one (by decide +kernel), if_neg (by simp), other hks hk]
end Mine.L02
end

section
open PySem PySem.StrLaws PySem.Builtin.Str
namespace Mine.L02
def QA : List (Str × Str) := S ++ (M2 ++ W3)
def WH : List (Str × Str) := H ++ (M2 ++ W3)
theorem qa_st : lreps QA = single (numR QA) := by decide +kernel
theorem wh_st : lreps WH = single (numR WH) := by decide +kernel
theorem qa_keys : (∀ k ∈ (numR QA).map (·.1), k ∈ sg8) ∧ ∀ k ∈ (numR WH).map (·.1), k ∈ sg8 := by decide +kernel
theorem qa_small : ∀ i ∈ List.range 10, ∀ k ∈ sg8, (enc ((numR QA).take i) k).length ≤ 6 ∧ (enc ((numR WH).take i) k).length ≤ 6 := by decide +kernel
theorem qa_len : (∀ r ∈ QA, r.2.length ≤ 8) ∧ (∀ r ∈ WH, r.2.length ≤ 8) ∧ (numR QA).length < 10 ∧ (numR WH).length < 10 := by decide +kernel
theorem qa_same : ∀ k ∈ sg8, enc (numR QA) k = enc (numR WH) k ∧ (34 ∈ enc (numR QA) k) = False := by decide +kernel
theorem len_of {n : List NRep} (h : ∀ k ∈ n.map (·.1), k ∈ sg8) (hs : ∀ i ∈ List.range 10, ∀ k ∈ sg8, (enc (n.take i) k).length ≤ 6) (hl : n.length < 10) (i k : Nat) : (enc (n.take i) k).length ≤ 6 := by
  by_cases hk : k ∈ sg8
  · by_cases hi : i < 10
    · exact hs i (List.mem_range.mpr hi) k hk
    · have q := hs 9 (by decide) k hk
      rw [List.take_of_length_le (by omega)] at q ⊢
      exact q
  · rw [enc_other fun q => hk (h k (by rw [List.map_take] at q; exact List.mem_of_mem_take q))]
    simp
theorem qa_fits {X : Str} (hX : X.length ≤ 400) : Fits X QA ∧ Fits X WH :=
  ⟨fits_enc qa_st qa_len.1 (b := 6) (len_of qa_keys.1 (fun i hi k hk => (qa_small i hi k hk).1) qa_len.2.2.1) (by omega),
   fits_enc wh_st qa_len.2.1 (b := 6) (len_of qa_keys.2 (fun i hi k hk => (qa_small i hi k hk).2) qa_len.2.2.2) (by omega)⟩
theorem qa_size (X : Str) : (repls X QA).length ≤ 6 * X.length := by
  rw [← tl, repls_enc qa_st, ← tl X]
  refine flatMap_len (fun k => ?_) _
  have := len_of qa_keys.1 (fun i hi k hk => (qa_small i hi k hk).1) qa_len.2.2.1 10 k
  rwa [List.take_of_length_le (by have := qa_len.2.2.1; omega)] at this
theorem qa_none (X : Str) : hasT (repls X QA) dq = false := by
  cases e : hasT (repls X QA) dq with
  | false => rfl
  | true =>
    have h : 34 ∈ (repls X QA).cps.toList := (hasOne (repls X QA) 34).mp e
    rw [repls_enc qa_st] at h
    obtain ⟨k, _, hk⟩ := List.mem_flatMap.mp h
    by_cases hk8 : k ∈ sg8
    · exact ((qa_same k hk8).2 ▸ hk).elim
    · rw [enc_other fun q => hk8 (qa_keys.1 k q)] at hk
      have : k = 34 := (List.mem_singleton.mp hk).symm
      exact absurd (by rw [this]; decide) hk8
theorem qa_wh (X : Str) : repls X QA = repls X WH := by
  refine str_ext ?_
  rw [repls_enc qa_st, repls_enc wh_st]
  refine fm_congr' fun k _ => ?_
  by_cases hk8 : k ∈ sg8
  · exact (qa_same k hk8).1
  · rw [enc_other fun q => hk8 (qa_keys.1 k q), enc_other fun q => hk8 (qa_keys.2 k q)]
/-- quoteattr with the two references -/
theorem law_four (X : Str) : quoted (repls X QA) = dq ++ repls X WH ++ dq := by
  unfold quoted
  rw [if_neg (by rw [qa_none]; decide), qa_wh]
theorem un_fits {q : Bool} {X : Str} (hX : X.length ≤ 400) : Fits (toldT q X) V ∧ Fits (repls (toldT q X) V) (swapE M2) ∧ Fits (repls (repls (toldT q X) V) (swapE M2)) [(o "&amp;", o "&")] ∧ Fits (repls (toldT q X) V) [(o "&amp;", o "&")] := by
  have hl := told_len q X
  have hu : ∀ r ∈ V ++ swapE M2 ++ [(o "&amp;", o "&")], 1 ≤ r.1.length ∧ r.2.length ≤ r.1.length ∧ r.2.length ≤ 8 := by decide +kernel
  have h1 := fits_shrink (R := V ++ swapE M2 ++ [(o "&amp;", o "&")]) (X := toldT q X) hu (by omega)
  have h2 := fits_shrink (R := V ++ [(o "&amp;", o "&")]) (X := toldT q X) (by decide +kernel) (by omega)
  rw [List.append_assoc, fits_app, fits_app] at h1
  rw [fits_app] at h2
  exact ⟨h1.1.1, h1.1.2.1, h1.1.2.2, h2.1.2⟩
end Mine.L02
end

open PySem PySem.W PyProof.Rows PyProof.V PySem.Calls Mine Mine.L02
set_option maxRecDepth 100000
set_option maxHeartbeats 8000000
namespace Mine.L02
theorem same_snoc (q : Bool) (X : Str) (E l : List (Str × Str)) (mr : Str × Str) : sameT q X E (l ++ [mr]) = (sameT q X E l && !(hasT X mr.1 && (imgE E mr.1 != (if q = true then mr.2 else mr.1)))) := by
  unfold sameT
  rw [List.any_append]
  simp
theorem img_snoc (E : List (Str × Str)) (e : Str × Str) (mk : Str) : imgE (E ++ [e]) mk = if (imgE E mk == e.1) = true then e.2 else imgE E mk := by
  unfold imgE
  rw [List.foldl_append]; rfl
theorem qa_split (X : Str) : repls (repls X S) (M2 ++ W3) = repls X QA := by unfold QA; rw [repls_append X]
theorem wh_split (X : Str) : repls (repls (repls X H) M2) W3 = repls X WH := by unfold WH; rw [repls_append X, repls_append (repls X H)]
theorem rep1_len {y z : Str} {c : Nat} (hy : y.cps.toList = [c]) (hz : z.length ≤ 6) (X : Str) : (Txt.replace X y z).length ≤ 6 * X.length := by
  have h : lreps [(y, z)] = single [(c, z.cps.toList)] := by simp [lreps, single, hy]
  have := repls_enc h X
  have e : repls X [(y, z)] = Txt.replace X y z := rfl
  rw [← tl, ← e, this, ← tl X]
  refine flatMap_len (fun k => ?_) _
  unfold enc rplL
  simp only [List.map_cons, List.map_nil, List.foldl_cons, List.foldl_nil, rpl_one, List.flatMap_cons, List.flatMap_nil, List.append_nil]
  rw [← tl] at hz
  split
  · exact hz
  · exact Nat.le_of_ble_eq_true rfl
theorem bne_str (a b : Str) : (a.cps.toList != b.cps.toList) = (a != b) := congrArg (!·) (beq_str a b)
end Mine.L02
theorem PySem.Challenge.cw_dn0034_02_holds : PySem.Challenge.rw_dn0034_02.Holds :=
  hd02 (by
  k_go0
  refine law_out ‹Fr _ _ _ _› ?body ?post
  case post =>
    intro h' tk m' F'
    k_steps
    all_goals w_report
  case body =>
    have F9 := ‹Fr _ _ _ _›
    have hl9 := ‹Heap.IsList _ _ _›
    have hi9 := ‹IntsAre _ _›
    have hlen9 := ‹¬ _ < (_ : Int)›
    refine' law_in0 ?a0 ?a1 ?a2 (Str.ofString "script") ?a3 ?a4 ?a5 ?a6 ?a7 ?a8 ?a9
    case a3 => exact rfl
    case a0 => exact F9
    case a1 => exact fun _ h => nomatch h
    case a2 => exact hl9
    case a4 => exact rfl
    case a5 => kernel_rfl
    case a6 => assumption
    case a7 => assumption
    case a8 => assumption
    case a9 =>
      intro A A₀ outer g L m s S hr F N hm hl
      clear F9
      dsimp only at S ⊢
      have hlen : ∀ n : Nat, ¬ (63 : Int) < n → n ≤ 63 := fun n h => by omega
      have hlen := hlen _ hlen9
      refine letf (s₀ := s) (h₀ := g) (cl := []) (hp := s.heap) (tk := s.toks) ?_
      refine call_name S F (f := 63) ?k1 ?k2 ?k3 ?k4 ?k5 rfl rfl
      case k1 => k_is
      case k2 => k_is
      case k3 => kernel_rfl
      case k4 => decide +kernel
      refine spliced_more ?_ rfl
      refine nm F hm ?_
      refine spliced_none ⟨S.X.keeps F.keep, ?_⟩
      refine c63 _ _ _ _ _ _ _ _ _ hi9 hlen _ _ _ _ _ _ _ _ _ _ _ _ S F N (hr.le (by decide)) hl ?_
      rintro v ex h₁ tk₁ F₁ N₁ _ htk₁ ⟨rfl, X, t, rfl, hX⟩
      refine ⟨_, _, _, _, rfl, F₁, N₁, fun h₂ tk₂ htk₂ F₂ N₂ => ?_⟩
      refine letf (s₀ := s) (h₀ := g) (cl := []) ?_
      refine call_b1 (cl := []) S F₂ (by k_is) boot_sum ?_
      refine nm (cl := []) F₂ ((upd_ne (by decide +kernel)).trans hm) ?_
      refine LSm.sum_ints F₂ N₂ S.hh ((ListAt.at (.inr hl) F₂ N₂)) hi9 ?_
      intro h₃ tk₃ tn F₃ N₃
      refine ⟨_, _, _, _, rfl, F₃, N₃, fun h₄ tk₄ htk₄ F₄ N₄ => ?_⟩
      generalize (List.sum _ : Int) = n at F₄
      have hmn : upd (upd m (Str.ofString "text") (.str X t)) (Str.ofString "n") (.int n tn) (Str.ofString "n") = some (.int n tn) := upd_at ..
      have hmt : upd (upd m (Str.ofString "text") (.str X t)) (Str.ofString "n") (.int n tn) (Str.ofString "text") = some (.str X t) := (upd_ne (by decide +kernel)).trans (upd_at ..)
      generalize upd (upd m (Str.ofString "text") (.str X t)) (Str.ofString "n") (.int n tn) = m₁ at F₄ hmn hmt
      clear F₃ N₃ F₂ N₂ F₁ N₁
      refine letf (s₀ := s) (h₀ := g) (cl := []) ?_ ?n1 ?n2 ?n3
      case n1 => kernel_rfl
      case n2 => rfl
      case n3 => kernel_rfl
      refine Subscript_ ?_
      refine (ev_thing_list (s := { s with heap := h₄, toks := tk₄ }) (bs := [true, false, true, false, true, false, true, false, true, false, true, false]) ?th F₄ N₄ S.T.nolimit (Nat.le_of_ble_eq_true rfl) ?given :)
      case th =>
        refine .cons .bool (.cons .int (.cons (.str ?_) (.cons .none (.cons .list1 (.cons (.str ?_) (.cons .neg (.cons .list0 (.cons .tup1 (.cons .bool (.cons .dict1 (.cons .tup0 .nil)))))))))))
        · decide +kernel
        · decide +kernel
      intro h₅ tk₅ da vs nx F₅ N₅ hda hnx hlv hT
      have hk0 := Int.fmod_nonneg_of_pos n (b := 12) (by decide)
      have hk1 := Int.fmod_lt_of_pos n (b := 12) (by decide)
      have hkl : (n.fmod 12).toNat < vs.length := by rw [hlv]; show _ < 12; omega
      obtain ⟨vg, hvg⟩ : ∃ vg, vs[(n.fmod 12).toNat]? = some vg := ⟨_, List.getElem?_eq_getElem hkl⟩
      have hq : ∀ k : Nat, k < 12 → [true, false, true, false, true, false, true, false, true, false, true, false][k]? = some (decide (k % 2 = 0)) := by decide
      have hTg := hT _ vg _ hvg (hq _ (by omega))
      have hqe : decide ((n.fmod 12).toNat % 2 = 0) = (n.fmod 2 == 0) := by
        rw [Int.fmod_eq_emod_of_nonneg _ (by decide)] at hk0 hk1 ⊢
        rw [Int.fmod_eq_emod_of_nonneg _ (by decide)]
        rw [Bool.eq_iff_iff, decide_eq_true_iff, beq_iff_eq]
        omega
      rw [hqe] at hTg
      clear hT hq hqe
      refine ev_fmod (nm (cl := []) F₅ hmn ⟨_, _, rfl, fun t₁ => ?_⟩)
      refine tail_list (vs := vs) (v := vg) ⟨_, (N₅ _ hda).1, rfl, _, rfl⟩ hk0 (by omega) hvg rfl ?_
      refine ⟨_, _, _, _, rfl, F₅, N₅, fun h₆ tk₆ htk₆ F₆ N₆ => ?_⟩
      have K₆ : Kn [(Str.ofString "given", vg), (Str.ofString "n", .int n tn), (Str.ofString "text", .str X t)] (upd m₁ (Str.ofString "given") vg) := (Kn.cons hmn (Kn.cons hmt Kn.nil)).add (by kernel_rfl)
      generalize upd m₁ (Str.ofString "given") vg = m₂ at F₆ K₆
      clear F₅ N₅ F₄ N₄ hmn hmt hm hvg hkl hk0 hk1 hlv hda hnx
      refine letf (s₀ := s) (h₀ := g) (cl := []) ?_
      refine wpAny_Compare1 (ev_fmod (nm (cl := []) F₆ (K₆.get 1) ⟨_, _, rfl, fun t₂ => ?_⟩))
      refine wpAny_Constant_int (eq_int ?_)
      refine ⟨_, _, _, _, rfl, F₆, N₆, fun h₇ tk₇ htk₇ F₇ N₇ => ?_⟩
      have K₇ : Kn ((Str.ofString "quote", .bool (n.fmod 2 == 0)) :: [(Str.ofString "given", vg), (Str.ofString "n", .int n tn), (Str.ofString "text", .str X t)]) (upd m₂ (Str.ofString "quote") (.bool (n.fmod 2 == 0))) := K₆.add (by kernel_rfl)
      generalize hqq : (n.fmod 2 == 0) = q at F₇ K₇ hTg
      generalize upd m₂ (Str.ofString "quote") (.bool q) = m₃ at F₇ K₇
      clear F₆ N₆ K₆ hqq
      refine letf (s₀ := s) (h₀ := g) (cl := []) ?_
      refine call_name S F₇ (f := 68) ?e1 ?e2 ?e3 ?e4 ?e5 rfl rfl
      case e1 => k_is
      case e2 => k_is
      case e3 => kernel_rfl
      case e4 => decide +kernel
      refine spliced_more ?_ rfl
      refine nm (cl := []) F₇ (K₇.get 2) ?_
      refine spliced_none ⟨S.X.keeps F₇.keep, ?_⟩
      refine c68 _ _ _ _ _ _ n tn _ _ _ _ _ _ _ _ _ _ _ _ S F₇ N₇ (hr.le (by decide)) trivial ?_
      rintro v ex h₈ tk₈ F₈ N₈ hap htk₈ ⟨D, es, rfl, hD, hes, hkv⟩
      refine ⟨_, _, _, _, rfl, F₈, N₈, fun h₉ tk₉ htk₉ F₉ N₉ => ?_⟩
      have K₉ := K₇.add (x := Str.ofString "entries") (v := .ref D) (by kernel_rfl)
      generalize upd m₃ (Str.ofString "entries") (.ref D) = m₄ at F₉ K₉
      obtain ⟨nn, hnn, hDn, hesn, hTg⟩ : ∃ nn, News g L h₉ nn ∧ ListAt g nn D (es.map fun e : PEnt => Value.ref e.1) ∧ (∀ e ∈ es, (e.1, pentO e) ∈ nn ∧ LnOk e.2) ∧ TruthAt _ _ nn vg q :=
        ⟨ex ++ nx, N₉, .inl ⟨_, List.mem_append_left _ hD⟩, fun e he => ⟨List.mem_append_left _ (hes e he).1, (hes e he).2⟩, hTg.mono fun x hx => List.mem_append_right _ hx⟩
      have hkv : es.map pentKV = ents n := hkv
      clear F₈ N₈ F₇ N₇ K₇ N₉ hap hD hes
      refine letf (s₀ := s) (h₀ := g) (cl := []) (wpAny_Constant_bool ⟨_, _, _, _, rfl, F₉, hnn, fun h₁₀ tk₁₀ htk₁₀ F₁₀ N₁₀ => ?_⟩)
      have K₁₀ := K₉.add (x := Str.ofString "same") (v := .bool true) (by kernel_rfl)
      generalize upd m₄ (Str.ofString "same") (.bool true) = m₅ at F₁₀ K₁₀
      clear F₉ K₉ hnn
      have hfew : es.length ≤ 2 := by have := congrArg List.length hkv; rw [List.length_map] at this; have := ents_few n; omega
      refine (for_list_e (s₀ := s) (hp := h₁₀) (tk := tk₁₀) (cl := []) S.hh F₁₀ ?fs ?loop :)
      case fs => exact fun _ => rfl
      refine (ev_pairs (s := { s with heap := h₁₀, toks := tk₁₀ }) (r := M2) ?pp F₁₀ N₁₀ ?p1 (Nat.le_of_ble_eq_true rfl) ?marks :)
      case pp => exact .cons (.cons .nil)
      case p1 => exact htk₁₀
      intro da2 ps h₁₁ tk₁₁ nx2 F₁₁ N₁₁ hda2 hsub2 hps hpr htk₁₁
      have hDn2 : ListAt g nx2 D (es.map fun e : PEnt => Value.ref e.1) := by
        rcases hDn with ⟨k, hk⟩ | hk
        · exact .inl ⟨k, hsub2 _ hk⟩
        · exact .inr hk
      refine ⟨fun i m n₁ => n₁ = nx2 ∧ Kn ((Str.ofString "same", .bool (sameT q X (ents n) (M2.take i))) :: [(Str.ofString "entries", .ref D), (Str.ofString "quote", .bool q), (Str.ofString "given", vg), (Str.ofString "n", .int n tn), (Str.ofString "text", .str X t)]) m,
        da2, _, m₅, nx2, h₁₁, tk₁₁, rfl, rfl, F₁₁, N₁₁, .inl ⟨0, hda2⟩, ⟨rfl, K₁₀⟩, ?step, ?done⟩
      case step =>
        rintro i v m₁ news₁ h₁₂ tk₁₂ own I hv ⟨rfl, K⟩ hoff hown F N
        obtain ⟨e, he, rfl⟩ : ∃ e, ps[i]? = some e ∧ v = Value.ref e.1 := by
          rw [List.getElem?_map] at hv
          cases hx : ps[i]? with
          | none => rw [hx] at hv; cases hv
          | some e => rw [hx] at hv; exact ⟨e, rfl, (Option.some.inj hv).symm⟩
        have hem := List.mem_of_getElem? he
        have hmr : M2[i]? = some (e.2.1, e.2.2.2.1) := by rw [← hpr, List.getElem?_map, he]; rfl
        have htake : M2.take (i + 1) = M2.take i ++ [(e.2.1, e.2.2.2.1)] := by rw [List.take_add_one, hmr]; rfl
        refine assign_two (cl := []) (s := { s with heap := h₁₂, toks := tk₁₂ }) F N (pent_tup N (List.mem_append_right _ (hps e hem).1)) S.hh rfl (by kernel_rfl) (by kernel_rfl) fun h₁₃ F₁₃ N₁₃ => ?_
        have K₁₃ := (K.put (x := Str.ofString "mark") (v := .str e.2.1 e.2.2.1) (by kernel_rfl)).add (x := Str.ofString "ref") (v := .str e.2.2.2.1 e.2.2.2.2) (by kernel_rfl)
        have K₁₃ := K₁₃.cons (x := Str.ofString "mark") (v := .str e.2.1 e.2.2.1) ((upd_ne (by decide +kernel)).trans (upd_at ..))
        generalize upd (upd m₁ (Str.ofString "mark") (.str e.2.1 e.2.2.1)) (Str.ofString "ref") (.str e.2.2.2.1 e.2.2.2.2) = m₆ at F₁₃ K₁₃
        refine letf (s₀ := s) (h₀ := g) (cl := []) (nm (cl := []) F₁₃ (K₁₃.get 0) ⟨_, _, _, _, rfl, F₁₃, N₁₃, fun h₁₄ tk₁₄ htk₁₄ F₁₄ N₁₄ => ?_⟩)
        have K₁₄ := K₁₃.add (x := Str.ofString "image") (v := .str e.2.1 e.2.2.1) (by kernel_rfl)
        generalize upd m₆ (Str.ofString "image") (.str e.2.1 e.2.2.1) = m₇ at F₁₄ K₁₄
        have K₁₄ : Kn ((Str.ofString "image", .str e.2.1 e.2.2.1) :: [(Str.ofString "mark", .str e.2.1 e.2.2.1), (Str.ofString "ref", .str e.2.2.2.1 e.2.2.2.2), (Str.ofString "same", .bool (sameT q X (ents n) (M2.take i))), (Str.ofString "entries", .ref D), (Str.ofString "quote", .bool q), (Str.ofString "given", vg), (Str.ofString "n", .int n tn), (Str.ofString "text", .str X t)]) m₇ := K₁₄.sub fun p hp => by simpa [or_assoc, or_comm, or_left_comm] using hp
        clear F₁₃ N₁₃ K₁₃ K F N
        have hDn3 : ListAt g (own ++ news₁) D (es.map fun e : PEnt => Value.ref e.1) := by
          rcases hDn2 with ⟨k, hk⟩ | hk
          · exact .inl ⟨k, List.mem_append_right _ hk⟩
          · exact .inr hk
        refine (for_list_e (s₀ := s) (hp := h₁₄) (tk := tk₁₄) (cl := []) S.hh F₁₄ ?fs2 ?loop2 :)
        case fs2 => exact fun _ => rfl
        refine nm (cl := []) F₁₄ (K₁₄.get 4) ?_
        refine ⟨fun j m n₂ => n₂ = own ++ news₁ ∧ ∃ ti, Kn ((Str.ofString "image", .str (imgE ((ents n).take j) e.2.1) ti) :: [(Str.ofString "mark", .str e.2.1 e.2.2.1), (Str.ofString "ref", .str e.2.2.2.1 e.2.2.2.2), (Str.ofString "same", .bool (sameT q X (ents n) (M2.take i))), (Str.ofString "entries", .ref D), (Str.ofString "quote", .bool q), (Str.ofString "given", vg), (Str.ofString "n", .int n tn), (Str.ofString "text", .str X t)]) m,
          D, _, m₇, own ++ news₁, h₁₄, tk₁₄, rfl, rfl, F₁₄, N₁₄, hDn3, ⟨rfl, _, K₁₄⟩, ?step2, ?done2⟩
        case step2 =>
          rintro j v2 m₈ _ h₁₅ tk₁₅ own2 I2 hv2 ⟨rfl, ti, K⟩ hoff2 hown2 F N
          obtain ⟨e2, he2, rfl⟩ : ∃ e2, es[j]? = some e2 ∧ v2 = Value.ref e2.1 := by
            rw [List.getElem?_map] at hv2
            cases hx : es[j]? with
            | none => rw [hx] at hv2; cases hv2
            | some e2 => rw [hx] at hv2; exact ⟨e2, rfl, (Option.some.inj hv2).symm⟩
          have hem2 := List.mem_of_getElem? he2
          have hmr2 : (ents n)[j]? = some (e2.2.1, e2.2.2.2.1) := by rw [← hkv, List.getElem?_map, he2]; rfl
          have htake2 : (ents n).take (j + 1) = (ents n).take j ++ [(e2.2.1, e2.2.2.2.1)] := by rw [List.take_add_one, hmr2]; rfl
          refine assign_two (cl := []) (s := { s with heap := h₁₅, toks := tk₁₅ }) F N (pent_tup N (List.mem_append_right _ (List.mem_append_right _ (hsub2 _ (hesn e2 hem2).1)))) S.hh rfl (by kernel_rfl) (by kernel_rfl) fun h₁₆ F₁₆ N₁₆ => ?_
          have K₁₆ := (K.put (x := Str.ofString "key") (v := .str e2.2.1 e2.2.2.1) (by kernel_rfl)).add (x := Str.ofString "value") (v := .str e2.2.2.2.1 e2.2.2.2.2) (by kernel_rfl)
          have K₁₆ := K₁₆.cons (x := Str.ofString "key") (v := .str e2.2.1 e2.2.2.1) ((upd_ne (by decide +kernel)).trans (upd_at ..))
          generalize upd (upd m₈ (Str.ofString "key") (.str e2.2.1 e2.2.2.1)) (Str.ofString "value") (.str e2.2.2.2.1 e2.2.2.2.2) = m₉ at F₁₆ K₁₆
          refine seq_if (wpAny_isTrue_Compare1 (nm (cl := []) F₁₆ (K₁₆.get 2) (nm (cl := []) F₁₆ (K₁₆.get 0) (eq_str (wpAny_truthy_bool ?_)))))
          split
          · rename_i hy
            refine letf (s₀ := s) (h₀ := g) (cl := []) ?_
            refine nm (cl := []) F₁₆ (K₁₆.get 1) ⟨_, _, _, _, rfl, F₁₆, N₁₆, fun h₁₇ tk₁₇ htk₁₇ F₁₇ N₁₇ => ?_⟩
            have K₁₇ := (K₁₆.tail.tail.tail.add (x := Str.ofString "image") (v := .str e2.2.2.2.1 e2.2.2.2.2) (by kernel_rfl))
            refine wpAny_execs_nil (wpAny_execs_nil ⟨rfl, h₁₇, tk₁₇, _, own ++ news₁, rfl, F₁₇, N₁₇, hoff2, rfl, e2.2.2.2.2, ?_⟩)
            rw [htake2, img_snoc, if_pos hy]
            exact K₁₇
          · rename_i hy
            refine wpAny_execs_nil (wpAny_execs_nil ⟨rfl, h₁₆, _, m₉, own ++ news₁, rfl, F₁₆, N₁₆, hoff2, rfl, ti, ?_⟩)
            rw [htake2, img_snoc, if_neg hy]
            exact K₁₆.tail.tail
        case done2 =>
          rintro h₁₅ tk₁₅ m₈ _ F₁₅ N₁₅ ⟨rfl, ti, K⟩ htk₁₅
          rw [List.length_map, show es.length = (ents n).length by rw [← hkv, List.length_map], List.take_length] at K
          refine seq_if (wpAny_mono (Q := fun b s' => b = (hasT X e.2.1 && (imgE (ents n) e.2.1 != (if q = true then e.2.2.2.1 else e.2.1))) ∧ ∃ tk, s' = { s with heap := h₁₅, toks := tk }) (E := fun _ _ => False) ?_ ?_ fun _ _ x => x.elim)
          · refine isTrue_and (wpAny_isTrue_Compare1 (nm (cl := []) F₁₅ (K.get 1) (nm (cl := []) F₁₅ (K.get 8) (in_str (wpAny_truthy_bool ?_)))))
            show if hasT X e.2.1 = true then _ else _
            cases hasT X e.2.1 with
            | false => exact ⟨rfl, _, rfl⟩
            | true =>
              simp only [if_true, Bool.true_and]
              refine isTrue_and (wpAny_isTrue_Compare1 (nm (cl := []) F₁₅ (K.get 0) ?_))
              refine wpAny_mono (Q := fun v s' => ∃ u, v = .str (if q = true then e.2.2.2.1 else e.2.1) u ∧ ∃ tk, s' = { s with heap := h₁₅, toks := tk }) (E := fun _ _ => False) ?_ ?_ fun _ _ x => x.elim
              · refine IfExp_ (isTrue_plain (nm (cl := []) F₁₅ (K.get 5) (wpAny_truthy_bool ?_)) rfl)
                cases q with
                | true => exact nm (cl := []) F₁₅ (K.get 2) ⟨_, rfl, _, rfl⟩
                | false => exact nm (cl := []) F₁₅ (K.get 1) ⟨_, rfl, _, rfl⟩
              · rintro v s' ⟨u, rfl, tk, rfl⟩
                refine ne_str (wpAny_truthy_bool ?_)
                generalize (imgE (ents n) e.2.1 != if q = true then e.2.2.2.1 else e.2.1) = bb
                cases bb with
                | false => exact ⟨rfl, _, rfl⟩
                | true => exact isTrue_and_nil ⟨rfl, _, rfl⟩
          · rintro b s' ⟨hb, tk₁₆, rfl⟩
            have hsn : sameT q X (ents n) (M2.take (i + 1)) = (sameT q X (ents n) (M2.take i) && !b) := by rw [htake, same_snoc, hb]
            cases b with
            | true =>
              simp only [if_true]
              refine letf (s₀ := s) (h₀ := g) (cl := []) (wpAny_Constant_bool ⟨_, _, _, _, rfl, F₁₅, N₁₅, fun h₁₇ tk₁₇ htk₁₇ F₁₇ N₁₇ => ?_⟩)
              refine wpAny_execs_nil (wpAny_execs_nil ⟨rfl, h₁₇, tk₁₇, _, news₁, rfl, F₁₇, N₁₇, hoff, rfl, ?_⟩)
              rw [hsn, Bool.not_true, Bool.and_false]
              exact K.tail.tail.tail.tail.add (x := Str.ofString "same") (v := .bool false) (by kernel_rfl)
            | false =>
              simp only [Bool.false_eq_true, if_false]
              refine wpAny_execs_nil (wpAny_execs_nil ⟨rfl, h₁₅, _, m₈, news₁, rfl, F₁₅, N₁₅, hoff, rfl, ?_⟩)
              rw [hsn, Bool.not_false, Bool.and_true]
              exact K.tail.tail.tail
      case done =>
        rintro h₁₂ tk₁₂ m₁₂ nx3 F₁₂ N₁₂ ⟨rfl, K₁₂⟩ htk₁₂
        rw [List.length_map, show ps.length = M2.length by rw [← hpr, List.length_map], List.take_length] at K₁₂
        have htk₁₂ : 1 ≤ tk₁₂ := Nat.le_trans htk₁₀ htk₁₂
        obtain ⟨nn, N₁₂, hDn, hesn, hTg⟩ : ∃ nn, News g L h₁₂ nn ∧ ListAt g nn D (es.map fun e : PEnt => Value.ref e.1) ∧ (∀ e ∈ es, (e.1, pentO e) ∈ nn ∧ LnOk e.2) ∧ TruthAt _ _ nn vg q :=
          ⟨nx3, N₁₂, hDn2, fun e he => ⟨hsub2 _ (hesn e he).1, (hesn e he).2⟩, hTg.mono hsub2⟩
        clear hDn2 hsub2 hps hpr hda2 F₁₁ N₁₁ F₁₀ N₁₀ K₁₀
        refine letf (s₀ := s) (h₀ := g) (cl := []) ?_
        refine call_name_kw S F₁₂ (f := 22) ?t1 ?t2 ?t3 ?t4 rfl ?t5 rfl rfl
        case t1 => k_is
        case t2 => k_is
        case t3 => kernel_rfl
        case t4 => decide +kernel
        refine spliced_more ?_ rfl
        refine nm (cl := []) F₁₂ (K₁₂.get 5) ?_
        refine spliced_none ?_
        refine kws_cons ?_
        refine nm (cl := []) F₁₂ (K₁₂.get 3) ?_
        refine kws_nil ⟨S.X.keeps F₁₂.keep, ?_⟩
        have hfit := told_fits hX
        refine c22 _ _ _ _ _ _ (v := vg) (b := q) (t := t) hfit.1 hfit.2 _ _ _ _ _ _ _ _ _ _ _ _ S F₁₂ N₁₂ (hr.le (by decide)) hTg ?_
        rintro v ex h₁₃ tk₁₃ F₁₃ N₁₃ hap htk₁₃ ⟨rfl, tt, rfl⟩
        rw [told_if]
        refine ⟨_, _, _, _, rfl, F₁₃, N₁₃, fun h₁₄ tk₁₄ htk₁₄ F₁₄ N₁₄ => ?_⟩
        have K₁₄ := K₁₂.add (x := Str.ofString "told") (v := .str (toldT q X) tt) (by kernel_rfl)
        generalize upd m₁₂ (Str.ofString "told") (.str (toldT q X) tt) = m₁₄ at F₁₄ K₁₄
        clear F₁₃ N₁₃ F₁₂ N₁₂ K₁₂
        have hfs := sax_fits n hX
        have hreps : lnReps (es.map (·.2)) = ents n := by rw [← hkv]; unfold lnReps; rw [List.map_map]; rfl
        have hnd : ((es.map (·.2)).map (·.1)).Nodup := by
          have := (ents_ok n).nodup
          rw [← hkv, List.map_map] at this
          rw [List.map_map]; exact this
        refine if_nof (s₀ := s) ?_
        refine wpAny_isTrue_Compare1 (wpAny_Compare1 ?_)
        refine nm (cl := []) F₁₄ (K₁₄.get 0) ?_
        refine call_name S F₁₄ (f := 38) ?u1 ?u2 ?u3 ?u4 ?u5 rfl rfl
        case u1 => k_is
        case u2 => k_is
        case u3 => kernel_rfl
        case u4 => decide +kernel
        refine spliced_more ?_ rfl
        refine nm (cl := []) F₁₄ (K₁₄.get 6) ?_
        refine spliced_more ?_ rfl
        refine comp_dict_pairs (cl := []) (B := D) (es := es) S.hh F₁₄ N₁₄ ?c1 ?c2 ?c3 hnd S.T.nolimit ?c4 ?c5 rfl ?c6 ?c7 ?c8 ?c9 ?c10 ?c11 ?c12 ?c13 ?c14
        case c1 => exact hDn
        case c2 => exact fun e he => (hesn e he).1
        case c3 => omega
        case c4 => rfl
        case c5 => decide +kernel
        case c6 => decide +kernel
        case c7 => kernel_rfl
        case c8 => kernel_rfl
        case c9 => decide +kernel
        case c10 => decide +kernel
        case c11 => decide +kernel
        case c12 => exact fun _ => rfl
        case c13 => exact fun Q h => nm (cl := []) F₁₄ (K₁₄.get 2) h
        intro DD h₁₅ tk₁₅ F₁₅ N₁₅ hnD loD
        refine spliced_none ⟨S.X.keeps F₁₅.keep, ?_⟩
        refine c38 _ _ _ _ _ _ (X := X) (t := t) (d := DD) (l := es.map (·.2)) (ep := es.length) hfs.1 (by rw [hreps]; exact hfs.2) hnd (fun e he => ?_) loD (by rw [List.length_map]; omega) _ _ _ _ _ _ _ _ _ _ _ _ S F₁₅ N₁₅ (hr.le (by decide)) ⟨.inl (.head _), fun _ => .head _⟩ ?_
        · obtain ⟨e', he', rfl⟩ := List.mem_map.mp he
          exact (hesn e' he').2
        rintro v ex h₁₆ tk₁₆ F₁₆ N₁₆ _ htk₁₆ ⟨rfl, tt2, rfl⟩
        rw [hreps]
        refine eq_str ?_
        rw [law_one]
        refine nm (cl := []) F₁₆ (K₁₄.get 1) ?_
        refine ne_bool (wpAny_truthy_bool ⟨bne_self_eq_false _, _, _, rfl, ?_⟩)
        have hun := un_fits (q := q) hX
        have hsw : lnReps (lnFrom tk₁₆ (swapE M2)) = swapE M2 := lnFrom_reps _ _
        refine if_nof (s₀ := s) ?_
        refine wpAny_isTrue_Compare1 ?_
        refine call_name S F₁₆ (f := 47) ?v1x1 ?v1x2 ?v1x3 ?v1x4 ?v1x5 rfl rfl
        case v1x1 => k_is
        case v1x2 => k_is
        case v1x3 => kernel_rfl
        case v1x4 => decide +kernel
        refine spliced_more ?_ rfl
        refine nm (cl := []) F₁₆ (K₁₄.get 0) ?_
        refine spliced_more ?_ ?sm0
        case sm0 => rfl
        refine (ev_dict0 (s := { s with heap := h₁₆, toks := tk₁₆ }) (r := swapE M2) F₁₆ N₁₆ S.T.nolimit ?dd1 ?dd2 ?dd3 ?dd4 :)
        case dd1 => repeat (first | exact DPairs.nil | refine DPairs.cons ?_)
        case dd2 => exact Nat.le_of_ble_eq_true rfl
        case dd3 => decide +kernel
        intro h₁₇ tk₁₇ F₁₇ N₁₇ _ loE htk₁₇
        refine spliced_none ⟨S.X.keeps F₁₇.keep, ?_⟩
        refine c47 _ _ _ _ _ _ (X := toldT q X) (t := tt) (d := h₁₆.objs.size) (l := lnFrom tk₁₆ (swapE M2)) (ep := (swapE M2).length) hun.1 (by rw [lnFrom_reps]; exact hun.2.1) (by rw [lnFrom_reps]; exact hun.2.2.1) (by rw [lnFrom_keys]; decide +kernel) (lnFrom_ok _ _ htk₁₆) loE (by rw [lnFrom_length]; exact Nat.le_of_ble_eq_true rfl) _ _ _ _ _ _ _ _ _ _ _ _ S F₁₇ N₁₇ (hr.le (by decide)) ⟨.inl (.head _), fun _ => .head _⟩ ?_
        rintro v ex h₁₈ tk₁₈ F₁₈ N₁₈ _ htk₁₈ ⟨rfl, tt3, rfl⟩
        rw [lnFrom_reps, law_two]
        refine nm (cl := []) F₁₈ (K₁₄.get 6) ?_
        refine ne_str (wpAny_truthy_bool ⟨bne_self_eq_false _, _, _, rfl, ?_⟩)
        have hXs : X.length + (X.length + 1) * (Str.ofString "&quot;").length ≤ 16777216 := by
          have : (Str.ofString "&quot;").length = 6 := by decide +kernel
          rw [this]; omega
        have hXm : (Txt.replace X (Str.ofString "\"") (Str.ofString "&quot;")).length ≤ 6 * X.length := rep1_len (c := 34) (by decide +kernel) (by decide +kernel) X
        have hXs2 : (Txt.replace X (Str.ofString "\"") (Str.ofString "&quot;")).length + ((Txt.replace X (Str.ofString "\"") (Str.ofString "&quot;")).length + 1) * (Str.ofString "&#x27;").length ≤ 16777216 := by
          have : (Str.ofString "&#x27;").length = 6 := by decide +kernel
          rw [this]; omega
        refine letf (s₀ := s) (h₀ := g) (cl := []) ?_
        refine wpAny_mono (Q := fun v s' => ∃ u, v = .str (if q = true then repls X M2 else X) u ∧ ∃ tk, s' = { s with heap := h₁₈, toks := tk }) (E := fun _ _ => False) ?pl1 ?pl2 fun _ _ x => x.elim
        case pl1 =>
          refine IfExp_ (isTrue_plain (nm (cl := []) F₁₈ (K₁₄.get 3) (wpAny_truthy_bool ?_)) rfl)
          cases q with
          | true =>
            simp only [if_true]
            refine ev_replE ?_ rfl rfl (by decide +kernel)
            refine ev_replE ?_ rfl rfl (by decide +kernel)
            refine nm (cl := []) F₁₈ (K₁₄.get 6) ⟨X, t, rfl, htk₁₈, hXs, fun t' k hk => ⟨_, t', rfl, hk, hXs2, fun t'' k' hk' => ⟨t'', rfl, _, rfl⟩⟩⟩
          | false =>
            simp only [Bool.false_eq_true, if_false]
            exact nm (cl := []) F₁₈ (K₁₄.get 6) ⟨_, rfl, _, rfl⟩
        case pl2 =>
        rintro v s' ⟨u, rfl, tk₁₉, rfl⟩
        refine ⟨_, _, _, _, rfl, F₁₈, N₁₈, fun h₂₀ tk₂₀ htk₂₀ F₂₀ N₂₀ => ?_⟩
        have K₂₀ := K₁₄.add (x := Str.ofString "plain") (v := .str (if q = true then repls X M2 else X) u) (by kernel_rfl)
        generalize upd m₁₄ (Str.ofString "plain") (.str (if q = true then repls X M2 else X) u) = m₂₀ at F₂₀ K₂₀
        clear F₁₈ N₁₈ F₁₇ N₁₇ F₁₆ N₁₆ F₁₅ N₁₅ F₁₄ N₁₄ K₁₄
        refine if_nof (s₀ := s) ?_
        refine wpAny_isTrue_Compare1 ?_
        refine call_name S F₂₀ (f := 47) ?v2x1 ?v2x2 ?v2x3 ?v2x4 ?v2x5 rfl rfl
        case v2x1 => k_is
        case v2x2 => k_is
        case v2x3 => kernel_rfl
        case v2x4 => decide +kernel
        refine spliced_more ?_ rfl
        refine nm (cl := []) F₂₀ (K₂₀.get 1) ?_
        refine spliced_none ⟨S.X.keeps F₂₀.keep, ?_⟩
        refine c47d _ _ _ _ _ _ (X := toldT q X) (t := tt) hun.1 hun.2.2.2 _ _ _ _ _ _ _ _ _ _ _ _ S F₂₀ N₂₀ (hr.le (by decide)) trivial ?_
        rintro v ex h₂₁ tk₂₁ F₂₁ N₂₁ _ htk₂₁ ⟨rfl, tt4, rfl⟩
        rw [law_three]
        refine nm (cl := []) F₂₁ (K₂₀.get 0) ?_
        refine ne_str (wpAny_truthy_bool ⟨bne_self_eq_false _, _, _, rfl, ?_⟩)
        have hqa := qa_fits hX
        have hW : Fits X (H ++ (M2 ++ W3)) := hqa.2
        have hW3 : Fits (repls (repls X H) M2) W3 := by
          rw [fits_app, fits_app] at hW
          exact hW.2.2
        refine letf (s₀ := s) (h₀ := g) (cl := []) ?_
        refine ev_replE ?_ rfl rfl (by decide +kernel)
        refine ev_replE ?_ rfl rfl (by decide +kernel)
        refine ev_replE ?_ rfl rfl (by decide +kernel)
        refine call_name S F₂₁ (f := 22) ?v3x1 ?v3x2 ?v3x3 ?v3x4 ?v3x5 rfl rfl
        case v3x1 => k_is
        case v3x2 => k_is
        case v3x3 => kernel_rfl
        case v3x4 => decide +kernel
        refine spliced_more ?_ rfl
        refine nm (cl := []) F₂₁ (K₂₀.get 7) ?_
        refine spliced_none ⟨S.X.keeps F₂₁.keep, ?_⟩
        have hfit := told_fits hX
        refine c22d _ _ _ _ _ _ (X := X) (t := t) hfit.1 hfit.2 _ _ _ _ _ _ _ _ _ _ _ _ S F₂₁ N₂₁ (hr.le (by decide)) trivial ?_
        rintro v ex h₂₂ tk₂₂ F₂₂ N₂₂ _ htk₂₂ ⟨rfl, tt5, rfl⟩
        refine ⟨_, tt5, rfl, htk₂₂, hW3.1, fun t1 k1 hk1 => ⟨_, t1, rfl, hk1, hW3.2.1, fun t2 k2 hk2 => ⟨_, t2, rfl, hk2, hW3.2.2.1, fun t3 k3 hk3 => ?_⟩⟩⟩
        show ∃ m news h₁ tk₁, _
        refine ⟨_, _, _, _, rfl, F₂₂, N₂₂, fun h₂₃ tk₂₃ htk₂₃ F₂₃ N₂₃ => ?_⟩
        have K₂₃ := K₂₀.add (x := Str.ofString "white") (v := .str (repls (repls (repls X H) M2) W3) t3) (by kernel_rfl)
        have F₂₃ : Fr g L h₂₃ (upd m₂₀ (Str.ofString "white") (.str (repls (repls (repls X H) M2) W3) t3)) := F₂₃
        generalize upd m₂₀ (Str.ofString "white") (.str (repls (repls (repls X H) M2) W3) t3) = m₂₃ at F₂₃ K₂₃
        rw [wh_split] at K₂₃
        clear F₂₂ N₂₂ F₂₁ N₂₁ F₂₀ N₂₀ K₂₀
        have hqS : Fits X (Mine.L02.S ++ (M2 ++ W3)) := hqa.1
        rw [fits_app] at hqS
        have hqs := qa_size X
        have hwl : (repls X WH).length ≤ 6 * X.length := by rw [← qa_wh]; exact hqs
        refine seq_ret (wpAny_Compare1 ?_)
        refine call_name S F₂₃ (f := 56) ?v4x1 ?v4x2 ?v4x3 ?v4x4 ?v4x5 rfl rfl
        case v4x1 => k_is
        case v4x2 => k_is
        case v4x3 => kernel_rfl
        case v4x4 => decide +kernel
        refine spliced_more ?_ rfl
        refine nm (cl := []) F₂₃ (K₂₃.get 8) ?_
        refine spliced_more ?_ ?sm1
        case sm1 => rfl
        refine (ev_dict0 (s := { s with heap := h₂₃, toks := tk₂₃ }) (r := M2) F₂₃ N₂₃ S.T.nolimit ?ee1 ?ee2 ?ee3 ?ee4 :)
        case ee1 => repeat (first | exact DPairs.nil | refine DPairs.cons ?_)
        case ee2 => exact Nat.le_of_ble_eq_true rfl
        case ee3 => decide +kernel
        intro h₂₄ tk₂₄ F₂₄ N₂₄ _ loE2 htk₂₄
        refine spliced_none ⟨S.X.keeps F₂₄.keep, ?_⟩
        refine c56 _ _ _ _ _ _ (X := X) (t := t) (d := h₂₃.objs.size) (l := lnFrom tk₂₃ M2) (ep := M2.length) hqS.1 (by rw [lnFrom_reps]; exact hqS.2) (by rw [lnFrom_keys]; decide +kernel) (lnFrom_ok _ _ htk₂₃) loE2 (by rw [lnFrom_length]; exact Nat.le_of_ble_eq_true rfl) (by rw [lnFrom_reps, qa_split]; omega) (by rw [lnFrom_reps, qa_split]; have := rep1_len (y := dq) (z := Str.ofString "&quot;") (c := 34) (by decide +kernel) (by decide +kernel) (repls X QA); omega) _ _ _ _ _ _ _ _ _ _ _ _ S F₂₄ N₂₄ (hr.le (by decide)) (.inl (.head _)) ?_
        rintro v ex h₂₅ tk₂₅ F₂₅ N₂₅ _ htk₂₅ ⟨rfl, tt6, rfl⟩
        rw [lnFrom_reps, qa_split, law_four]
        have hdl : dq.length = 1 := by decide +kernel
        refine wpAny_BinOp (wpAny_BinOp (Constant_str ?_))
        refine nm (cl := []) F₂₅ (K₂₃.get 0) ?_
        refine add_str (fun t7 k7 => ?_) (by rw [sizeLine_eq]; show dq.length + _ ≤ _; omega)
        refine Constant_str ?_
        refine add_str (fun t8 k8 => ?_) (by rw [sizeLine_eq, Str.length_append]; show dq.length + _ + dq.length ≤ _; omega)
        refine eq_str ?_
        exact ⟨_, _, _, by rw [beq_self_eq_true], rfl, F₂₅⟩)
