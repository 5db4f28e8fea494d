import PyProof.Rows.All
import Wide.All
import OpenK.AllK
import Wide.FinOn
import PySem.Challenge.RW_cy0001_04
open PySem PySem.W PyProof.Rows
set_option Elab.async false
set_option linter.unusedVariables false
open PySem PySem.W PyProof.Rows PySem.Spec PySem.Calls
set_option Elab.async false
namespace Mine
/-- the end of a comprehension's test: its bool, and nothing changed but the tokens -/
def TstEnd (P : Bool) (s₀ : Shared) (b : Bool) (s' : Shared) : Prop := b = P ∧ ∃ tk, s' = { s₀ with toks := tk }
/-- between two links of a chain -/
def TstMid (P : Bool) (s₀ : Shared) (K : Prop) (b : Bool) (s' : Shared) : Prop := b = P ∧ (∃ tk, s' = { s₀ with toks := tk }) ∧ K
theorem tst_end {P b : Bool} {s₀ : Shared} {tk : Nat} (e : b = P) : TstEnd P s₀ b { s₀ with toks := tk } := ⟨e, tk, rfl⟩
theorem tst_mid {P b : Bool} {s₀ : Shared} {tk : Nat} {K : Prop} (e : b = P) (k : K) : TstMid P s₀ K b { s₀ with toks := tk } := ⟨e, ⟨tk, rfl⟩, k⟩
theorem tst_link {M : Model} {A : Around} {E : Value → Shared → Prop} {s s₀ : Shared} {a : Value} {op op' : CmpOp} {ops : List CmpOp} {r r' : Sem Value} {rs : List (Sem Value)} {pos : Pos} {p q : Bool}
    (h : wpAny M A r (fun b s₁ => wpAny M A (compareOp op a b) (fun c s₂ => wpAny M A (truthy c)
      (fun t s₃ => TstMid p s₀ (wpAny M A (testChain pos b (op' :: ops) (r' :: rs)) (TstEnd q s₀) E s₃) t s₃) E s₂) E s₁) E s) :
    wpAny M A (testChain pos a (op :: op' :: ops) (r :: r' :: rs)) (TstEnd (p && q) s₀) E s := by
  refine test_link (wpAny_mono h (fun b s₁ h₁ => wpAny_mono h₁ (fun c s₂ h₂ => wpAny_mono h₂ (fun t s₃ h₃ => ?_) fun _ _ e => e) fun _ _ e => e) fun _ _ e => e)
  obtain ⟨e, ⟨tk, es⟩, k⟩ := h₃
  cases t with
  | true =>
    simp only [if_true]
    subst e
    simpa using k
  | false =>
    simp only [Bool.false_eq_true, if_false]
    subst e
    exact ⟨by simp, tk, es⟩
section
variable {prog : Program} {w : World} {A : Around} {h₀ : Heap} {L : Addr} {m : Str → Option Value} {env : Env} {ct elt : Expr} {x : Str} {scope : Scope} {cl : List (Str × Addr)} {s : Shared} {S : List (Addr × Obj) → Prop} {P : Nat → Value → Prop} {Fin : List Value → List (Addr × Obj) → Prop} {news : List (Addr × Obj)}
theorem fold_filter (p : Int → Bool) (g : Int → Int) : ∀ (ks l : List Int), ks.foldl (fun l k => if p k = true then l ++ [g k] else l) l = l ++ (ks.filter p).map g
  | [], l => by simp
  | k :: r, l => by
    rw [List.foldl_cons, fold_filter p g r]
    by_cases h : p k = true
    · simp [h]
    · simp [h]
theorem compT_rest {n : Nat} {ks : List Int} (p : Int → Bool) (g : Int → Int) (hks : ks.length = n) (hP : ∀ i v, i < n → P i v → ∃ k t, ks[i]? = some k ∧ v = .int k t)
    (test : ∀ k t I oI C oC D m₂ ys h tk (E' : Value → Shared → Prop), k ∈ ks → LCg.NsObj oC m₂ → m₂ x = some (.int k t) → Fr h₀ L h m → News h₀ L h ((I, oI) :: (C, oC) :: (D, LCg.lst ys) :: news) → LCg.Off3 I C D news → ((@Ne Nat I C) ∧ (@Ne Nat I D) ∧ (@Ne Nat C D)) → KPfMark →
      wpAny (model prog w) A (isTrue ct (compEnvC scope cl C env) (eval ct (compEnvC scope cl C env))) (TstEnd (p k) { s with heap := h, toks := tk }) E' { s with heap := h, toks := tk })
    (el : ∀ k t I oI C oC D m₂ ys h tk (E' : Value → Shared → Prop), k ∈ ks → p k = true → LCg.NsObj oC m₂ → m₂ x = some (.int k t) → Fr h₀ L h m → News h₀ L h ((I, oI) :: (C, oC) :: (D, LCg.lst ys) :: news) → LCg.Off3 I C D news → ((@Ne Nat I C) ∧ (@Ne Nat I D) ∧ (@Ne Nat C D)) → KPfMark →
      wpAny (model prog w) A (eval elt (compEnvC scope cl C env)) (LCg.CompEnd h₀ L m { s with heap := h, toks := tk } I oI C oC D (LCg.lst ys) S (fun y news' => KCfEl news (g k) y news')) E' { s with heap := h, toks := tk })
    (hS : S news)
    (fin : ∀ ys, IntsAre ys ((ks.filter p).map g) → ((ks.filter p).map g).length ≤ n → Fin ys news) : LCt.CompRestT prog w A h₀ L m env ct elt x scope cl s S P Fin n 0 [] news := by
  refine kci_rest (fun l k => if p k = true then l ++ [g k] else l) hks hP ?_ ?_ ?_
  · intro k t I oI C oC D m₂ ys l h tk E' hk hy hC hx F N off ne mk
    refine wpAny_mono (test k t I oI C oC D m₂ ys h tk E' hk hC hx F N off ne mk) (fun b s' hb => ?_) fun _ _ e => e
    obtain ⟨hb, tk', rfl⟩ := hb
    cases b with
    | true =>
      simp only [if_true]
      refine wpAny_mono (el k t I oI C oC D m₂ ys h tk' E' hk hb.symm hC hx F N off ne mk) (fun y s₃ hr => ?_) fun _ _ e => e
      obtain ⟨h', tk₂, nw, e, F', N', off', hS', hn, t', hy'⟩ := hr
      refine ⟨h', tk₂, nw, e, F', N', off', hS', hn, g k, t', hy', ?_⟩
      simp [hb.symm]
    | false =>
      simp only [Bool.false_eq_true, if_false]
      refine ⟨h, tk', news, rfl, F, N, off, hS, rfl, ?_⟩
      simp [hb.symm]
  · unfold KPfDone
    intro ys hy hl
    rw [fold_filter] at hy
    exact fin ys (by simpa using hy) (by rw [List.length_map, ← hks]; exact List.length_filter_le _ _)
  · intro l k
    dsimp only
    split <;> simp
theorem compT_range {n : Nat} {a : Int} (p : Int → Bool) (g : Int → Int)
    (test : ∀ k t I oI C oC D m₂ ys h tk (E' : Value → Shared → Prop), a ≤ k → k < a + (n : Int) → LCg.NsObj oC m₂ → m₂ x = some (.int k t) → Fr h₀ L h m → News h₀ L h ((I, oI) :: (C, oC) :: (D, LCg.lst ys) :: news) → LCg.Off3 I C D news → ((@Ne Nat I C) ∧ (@Ne Nat I D) ∧ (@Ne Nat C D)) → KPfMark →
      wpAny (model prog w) A (isTrue ct (compEnvC scope cl C env) (eval ct (compEnvC scope cl C env))) (TstEnd (p k) { s with heap := h, toks := tk }) E' { s with heap := h, toks := tk })
    (el : ∀ k t I oI C oC D m₂ ys h tk (E' : Value → Shared → Prop), a ≤ k → k < a + (n : Int) → p k = true → LCg.NsObj oC m₂ → m₂ x = some (.int k t) → Fr h₀ L h m → News h₀ L h ((I, oI) :: (C, oC) :: (D, LCg.lst ys) :: news) → LCg.Off3 I C D news → ((@Ne Nat I C) ∧ (@Ne Nat I D) ∧ (@Ne Nat C D)) → KPfMark →
      wpAny (model prog w) A (eval elt (compEnvC scope cl C env)) (LCg.CompEnd h₀ L m { s with heap := h, toks := tk } I oI C oC D (LCg.lst ys) S (fun y news' => KCfEl news (g k) y news')) E' { s with heap := h, toks := tk })
    (hS : S news)
    (fin : ∀ ys, IntsAre ys (((rangeKs a n).filter p).map g) → (((rangeKs a n).filter p).map g).length ≤ n → Fin ys news) : LCt.CompRestT prog w A h₀ L m env ct elt x scope cl s S (fun i v => ∃ t, v = .int (a + (i : Int)) t) Fin n 0 [] news :=
  compT_rest (ks := rangeKs a n) p g (rangeKs_length a n) (fun i v hi hv => by
    obtain ⟨t, e⟩ := hv
    exact ⟨a + (i : Int), t, by simp [rangeKs, hi], e⟩)
    (fun k t I oI C oC D m₂ ys h tk E' hk hC hx F N off ne mk => test k t I oI C oC D m₂ ys h tk E' (mem_rangeKs hk).1 (mem_rangeKs hk).2 hC hx F N off ne mk)
    (fun k t I oI C oC D m₂ ys h tk E' hk hp hC hx F N off ne mk => el k t I oI C oC D m₂ ys h tk E' (mem_rangeKs hk).1 (mem_rangeKs hk).2 hp hC hx F N off ne mk) hS fin
theorem compT_list {vs : List Value} {ns : List Int} (p : Int → Bool) (g : Int → Int) (hi : IntsAre vs ns)
    (test : ∀ k t I oI C oC D m₂ ys h tk (E' : Value → Shared → Prop), k ∈ ns → LCg.NsObj oC m₂ → m₂ x = some (.int k t) → Fr h₀ L h m → News h₀ L h ((I, oI) :: (C, oC) :: (D, LCg.lst ys) :: news) → LCg.Off3 I C D news → ((@Ne Nat I C) ∧ (@Ne Nat I D) ∧ (@Ne Nat C D)) → KPfMark →
      wpAny (model prog w) A (isTrue ct (compEnvC scope cl C env) (eval ct (compEnvC scope cl C env))) (TstEnd (p k) { s with heap := h, toks := tk }) E' { s with heap := h, toks := tk })
    (el : ∀ k t I oI C oC D m₂ ys h tk (E' : Value → Shared → Prop), k ∈ ns → p k = true → LCg.NsObj oC m₂ → m₂ x = some (.int k t) → Fr h₀ L h m → News h₀ L h ((I, oI) :: (C, oC) :: (D, LCg.lst ys) :: news) → LCg.Off3 I C D news → ((@Ne Nat I C) ∧ (@Ne Nat I D) ∧ (@Ne Nat C D)) → KPfMark →
      wpAny (model prog w) A (eval elt (compEnvC scope cl C env)) (LCg.CompEnd h₀ L m { s with heap := h, toks := tk } I oI C oC D (LCg.lst ys) S (fun y news' => KCfEl news (g k) y news')) E' { s with heap := h, toks := tk })
    (hS : S news)
    (fin : ∀ ys, IntsAre ys ((ns.filter p).map g) → ((ns.filter p).map g).length ≤ ns.length → Fin ys news) : LCt.CompRestT prog w A h₀ L m env ct elt x scope cl s S (fun i v => vs.toArray[i]? = some v) Fin vs.toArray.size 0 [] news :=
  compT_rest (ks := ns) p g (by rw [List.size_toArray]; exact hi.length.symm) (fun i v _ hv => by
    obtain ⟨k, t, e, hk⟩ := IntsAre.at hi i v (by simpa using hv)
    exact ⟨k, t, hk, e⟩) test el hS (fun ys h1 h2 => fin ys h1 (by rw [List.size_toArray, hi.length] at h2; exact h2))
end
end Mine
namespace Mine
section
variable {prog : Program} {w : World} {A : Around} {h₀ : Heap} {L : Addr} {m : Str → Option Value} {env : Env} {ct elt : Expr} {x : Str} {scope : Scope} {cl : List (Str × Addr)} {s : Shared} {S : List (Addr × Obj) → Prop} {P : Nat → Value → Prop} {Fin : List Value → List (Addr × Obj) → Prop} {news : List (Addr × Obj)}
theorem compT_list_and {vs : List Value} {ns : List Int} (p q : Int → Bool) (g : Int → Int) (hi : IntsAre vs ns)
    (test : ∀ k t I oI C oC D m₂ ys h tk (E' : Value → Shared → Prop), k ∈ ns → LCg.NsObj oC m₂ → m₂ x = some (.int k t) → Fr h₀ L h m → News h₀ L h ((I, oI) :: (C, oC) :: (D, LCg.lst ys) :: news) → LCg.Off3 I C D news → ((@Ne Nat I C) ∧ (@Ne Nat I D) ∧ (@Ne Nat C D)) → KPfMark →
      wpAny (model prog w) A (isTrue ct (compEnvC scope cl C env) (eval ct (compEnvC scope cl C env))) (TstEnd (p k && q k) { s with heap := h, toks := tk }) E' { s with heap := h, toks := tk })
    (el : ∀ k t I oI C oC D m₂ ys h tk (E' : Value → Shared → Prop), k ∈ ns → (p k && q k) = true → LCg.NsObj oC m₂ → m₂ x = some (.int k t) → Fr h₀ L h m → News h₀ L h ((I, oI) :: (C, oC) :: (D, LCg.lst ys) :: news) → LCg.Off3 I C D news → ((@Ne Nat I C) ∧ (@Ne Nat I D) ∧ (@Ne Nat C D)) → KPfMark →
      wpAny (model prog w) A (eval elt (compEnvC scope cl C env)) (LCg.CompEnd h₀ L m { s with heap := h, toks := tk } I oI C oC D (LCg.lst ys) S (fun y news' => KCfEl news (g k) y news')) E' { s with heap := h, toks := tk })
    (hS : S news)
    (fin : ∀ ys, IntsAre ys ((ns.filter (fun k => p k && q k)).map g) → ((ns.filter (fun k => p k && q k)).map g).length ≤ ns.length → Fin ys news) : LCt.CompRestT prog w A h₀ L m env ct elt x scope cl s S (fun i v => vs.toArray[i]? = some v) Fin vs.toArray.size 0 [] news :=
  compT_list (fun k => p k && q k) g hi test el hS fin
end
end Mine
open PySem PySem.W PyProof.Rows PySem.Spec PySem.Calls
set_option Elab.async false
namespace Mine
/-- what bisect_left's loop knows: behind lo₀ all below lo are less than x, from hi on up to hi₀ none is -/
def BL (a : List Int) (x lo₀ hi₀ lo hi : Int) : Prop :=
  a.Pairwise (· ≤ ·) → (∀ j : Nat, lo₀ ≤ (j : Int) → (j : Int) < lo → a.getD j 0 < x) ∧ ∀ j : Nat, hi ≤ (j : Int) → (j : Int) < hi₀ → x ≤ a.getD j 0
def BR (a : List Int) (x lo₀ hi₀ lo hi : Int) : Prop :=
  a.Pairwise (· ≤ ·) → (∀ j : Nat, lo₀ ≤ (j : Int) → (j : Int) < lo → a.getD j 0 ≤ x) ∧ ∀ j : Nat, hi ≤ (j : Int) → (j : Int) < hi₀ → x < a.getD j 0
theorem getD_mono {a : List Int} (h : a.Pairwise (· ≤ ·)) {i j : Nat} (hij : i ≤ j) (hj : j < a.length) : a.getD i 0 ≤ a.getD j 0 := by
  have hi : i < a.length := Nat.lt_of_le_of_lt hij hj
  simp only [List.getD_eq_getElem?_getD, List.getElem?_eq_getElem hi, List.getElem?_eq_getElem hj, Option.getD_some]
  rcases Nat.eq_or_lt_of_le hij with e | e
  · subst e; exact Int.le_refl _
  · exact List.pairwise_iff_getElem.mp h i j hi hj e
theorem bl_start {a : List Int} {x lo hi : Int} : BL a x lo hi lo hi := fun _ => ⟨fun j h1 h2 => by omega, fun j h1 h2 => by omega⟩
theorem br_start {a : List Int} {x lo hi : Int} : BR a x lo hi lo hi := fun _ => ⟨fun j h1 h2 => by omega, fun j h1 h2 => by omega⟩
theorem bl_up {a : List Int} {x lo₀ hi₀ lo hi mid : Int} (h : BL a x lo₀ hi₀ lo hi) (h0 : 0 ≤ mid) (hm : mid < a.length) (ht : a.getD mid.toNat 0 < x) : BL a x lo₀ hi₀ (mid + 1) hi := fun hs =>
  ⟨fun j _ h2 => Int.lt_of_le_of_lt (getD_mono hs (by omega) (by omega)) ht, (h hs).2⟩
theorem bl_dn {a : List Int} {x lo₀ hi₀ lo hi mid : Int} (h : BL a x lo₀ hi₀ lo hi) (h0 : 0 ≤ mid) (hm : hi₀ ≤ a.length) (ht : ¬ a.getD mid.toNat 0 < x) : BL a x lo₀ hi₀ lo mid := fun hs =>
  ⟨(h hs).1, fun j h1 h2 => Int.le_trans (Int.not_lt.mp ht) (getD_mono hs (by omega) (by omega))⟩
theorem br_dn {a : List Int} {x lo₀ hi₀ lo hi mid : Int} (h : BR a x lo₀ hi₀ lo hi) (h0 : 0 ≤ mid) (hm : hi₀ ≤ a.length) (ht : x < a.getD mid.toNat 0) : BR a x lo₀ hi₀ lo mid := fun hs =>
  ⟨(h hs).1, fun j h1 h2 => Int.lt_of_lt_of_le ht (getD_mono hs (by omega) (by omega))⟩
theorem br_up {a : List Int} {x lo₀ hi₀ lo hi mid : Int} (h : BR a x lo₀ hi₀ lo hi) (h0 : 0 ≤ mid) (hm : mid < a.length) (ht : ¬ x < a.getD mid.toNat 0) : BR a x lo₀ hi₀ (mid + 1) hi := fun hs =>
  ⟨fun j _ h2 => Int.le_trans (getD_mono hs (by omega) (by omega)) (Int.not_lt.mp ht), (h hs).2⟩
end Mine
namespace Mine
theorem mid_is {lo hi : Int} (h : 0 ≤ lo) (h' : lo ≤ hi) : (lo + hi).fdiv 2 = (lo + hi) / 2 := Int.fdiv_eq_ediv_of_nonneg _ (by omega)
theorem mid_0 {lo hi : Int} (h : 0 ≤ lo) (h' : lo ≤ hi) : 0 ≤ (lo + hi).fdiv 2 := by rw [mid_is h h']; omega
theorem mid_n {lo hi n : Int} (h : 0 ≤ lo) (h' : lo < hi) (hn : hi ≤ n) : (lo + hi).fdiv 2 < n := by rw [mid_is h (by omega)]; omega
theorem mid_ge {lo hi : Int} (h : 0 ≤ lo) (h' : lo ≤ hi) : lo ≤ (lo + hi).fdiv 2 := by rw [mid_is h (by omega)]; omega
theorem mid_up {lo hi : Int} (h : 0 ≤ lo) (h' : lo < hi) : (hi - ((lo + hi).fdiv 2 + 1)).toNat < (hi - lo).toNat := by rw [mid_is h (by omega)]; omega
theorem mid_dn {lo hi : Int} (h : 0 ≤ lo) (h' : lo < hi) : ((lo + hi).fdiv 2 - lo).toNat < (hi - lo).toNat := by rw [mid_is h (by omega)]; omega
/-- the loop of bisect_left, its word: lo₀ and hi₀ are where it began -/
abbrev BLW (ns : List Int) (x lo₀ hi₀ lo hi : Int) : Prop := 0 ≤ lo₀ ∧ lo₀ ≤ lo ∧ lo ≤ hi ∧ hi ≤ hi₀ ∧ hi₀ ≤ (ns.length : Int) ∧ BL ns x lo₀ hi₀ lo hi
abbrev BRW (ns : List Int) (x lo₀ hi₀ lo hi : Int) : Prop := 0 ≤ lo₀ ∧ lo₀ ≤ lo ∧ lo ≤ hi ∧ hi ≤ hi₀ ∧ hi₀ ≤ (ns.length : Int) ∧ BR ns x lo₀ hi₀ lo hi
theorem blw_start {ns : List Int} {x lo₀ hi₀ : Int} (h0 : 0 ≤ lo₀) (h1 : lo₀ ≤ hi₀) (h2 : hi₀ ≤ (ns.length : Int)) : BLW ns x lo₀ hi₀ lo₀ hi₀ := ⟨h0, Int.le_refl _, h1, Int.le_refl _, h2, bl_start⟩
theorem brw_start {ns : List Int} {x lo₀ hi₀ : Int} (h0 : 0 ≤ lo₀) (h1 : lo₀ ≤ hi₀) (h2 : hi₀ ≤ (ns.length : Int)) : BRW ns x lo₀ hi₀ lo₀ hi₀ := ⟨h0, Int.le_refl _, h1, Int.le_refl _, h2, br_start⟩
theorem blw_up {ns : List Int} {x lo₀ hi₀ lo hi : Int} (h0 : 0 ≤ lo₀) (h1 : lo₀ ≤ lo) (h3 : hi ≤ hi₀) (h4 : hi₀ ≤ (ns.length : Int)) (b : BL ns x lo₀ hi₀ lo hi) (hlt : lo < hi) (ht : ns.getD ((lo + hi).fdiv 2).toNat 0 < x) : BLW ns x lo₀ hi₀ ((lo + hi).fdiv 2 + 1) hi := by
  have m0 := mid_0 (lo := lo) (hi := hi) (by omega) (by omega)
  have m1 := mid_ge (lo := lo) (hi := hi) (by omega) (by omega)
  have m2 := mid_n (lo := lo) (hi := hi) (n := hi) (by omega) (by omega) (Int.le_refl _)
  exact ⟨h0, by omega, by omega, h3, h4, bl_up b m0 (by omega) ht⟩
theorem blw_dn {ns : List Int} {x lo₀ hi₀ lo hi : Int} (h0 : 0 ≤ lo₀) (h1 : lo₀ ≤ lo) (h3 : hi ≤ hi₀) (h4 : hi₀ ≤ (ns.length : Int)) (b : BL ns x lo₀ hi₀ lo hi) (hlt : lo < hi) (ht : ¬ ns.getD ((lo + hi).fdiv 2).toNat 0 < x) : BLW ns x lo₀ hi₀ lo ((lo + hi).fdiv 2) := by
  have m0 := mid_0 (lo := lo) (hi := hi) (by omega) (by omega)
  have m1 := mid_ge (lo := lo) (hi := hi) (by omega) (by omega)
  have m2 := mid_n (lo := lo) (hi := hi) (n := hi) (by omega) (by omega) (Int.le_refl _)
  exact ⟨h0, h1, m1, by omega, h4, bl_dn b m0 h4 ht⟩
theorem brw_dn {ns : List Int} {x lo₀ hi₀ lo hi : Int} (h0 : 0 ≤ lo₀) (h1 : lo₀ ≤ lo) (h3 : hi ≤ hi₀) (h4 : hi₀ ≤ (ns.length : Int)) (b : BR ns x lo₀ hi₀ lo hi) (hlt : lo < hi) (ht : x < ns.getD ((lo + hi).fdiv 2).toNat 0) : BRW ns x lo₀ hi₀ lo ((lo + hi).fdiv 2) := by
  have m0 := mid_0 (lo := lo) (hi := hi) (by omega) (by omega)
  have m1 := mid_ge (lo := lo) (hi := hi) (by omega) (by omega)
  have m2 := mid_n (lo := lo) (hi := hi) (n := hi) (by omega) (by omega) (Int.le_refl _)
  exact ⟨h0, h1, m1, by omega, h4, br_dn b m0 h4 ht⟩
theorem brw_up {ns : List Int} {x lo₀ hi₀ lo hi : Int} (h0 : 0 ≤ lo₀) (h1 : lo₀ ≤ lo) (h3 : hi ≤ hi₀) (h4 : hi₀ ≤ (ns.length : Int)) (b : BR ns x lo₀ hi₀ lo hi) (hlt : lo < hi) (ht : ¬ x < ns.getD ((lo + hi).fdiv 2).toNat 0) : BRW ns x lo₀ hi₀ ((lo + hi).fdiv 2 + 1) hi := by
  have m0 := mid_0 (lo := lo) (hi := hi) (by omega) (by omega)
  have m1 := mid_ge (lo := lo) (hi := hi) (by omega) (by omega)
  have m2 := mid_n (lo := lo) (hi := hi) (n := hi) (by omega) (by omega) (Int.le_refl _)
  exact ⟨h0, by omega, by omega, h3, h4, br_up b m0 (by omega) ht⟩
end Mine
open PySem PySem.W PyProof.Rows PySem.Spec PySem.Calls
set_option Elab.async false
namespace Mine
section
variable {prog : Program} {w : World} {A : Around} {E : Value → Shared → Prop} {s : Shared} {h₀ : Heap} {L : Addr} {news : List (Addr × Obj)}
theorem led_list {l : Addr} {vs : List Value} {c : Nat} {h : Heap} (N : News h₀ L h news) (hm : (l, W.listOf vs.toArray c) ∈ news) : h.IsList l vs.toArray := ⟨_, (N _ hm).1, rfl, c, rfl⟩
theorem len_led {l : Addr} {vs : List Value} {ns : List Int} {c : Nat} {Q : Value → Shared → Prop} (N : News h₀ L s.heap news) (hm : (l, W.listOf vs.toArray c) ∈ news) (hi : IntsAre vs ns) (hfit : ns.length < 2 ^ 62)
    (h : Q (.int (ns.length : Nat) (s.toks + 1)) { s with toks := s.toks + 1 + 1 }) : wpAny (model prog w) A (call (.builtin "len") [.ref l]) Q E s := len_ints_fit (led_list N hm) hi hfit h
theorem item_led {value slice : Expr} {l : Addr} {vs : List Value} {ns : List Int} {c : Nat} {k : Int} {u : Tok} {Q : Value → Shared → Prop} (N : News h₀ L s.heap news) (hm : (l, W.listOf vs.toArray c) ∈ news) (hi : IntsAre vs ns)
    (h0 : 0 ≤ k) (h1 : k < ns.length) (hfit : k < 2 ^ 63) (h : ∀ t, Q (.int (ns.getD k.toNat 0) t) s)
    (hs : subscripted slice false (.ref l) (.int k u) = operate [.ref l, .int k u] (getItem (.ref l) (.int k u)) := by with_unfolding_all rfl) (hg : ∀ r, letTemporaryGo value (.ref l) r = pure () := by intro _; with_unfolding_all rfl) :
    wpAny (model prog w) A (subscriptTail value slice (.ref l) (.int k u)) Q E s := item_list_ints (led_list N hm) hi h0 h1 hfit h hs hg
end
/-- what a def called with these arguments hands back: an int of which post is true; the frame and the ledger stand -/
def Tells (prog : Program) (w : World) (K : Frag) (p : Program) (loose : List Str) (mean : ExcName → Option Value) (mg mb : Str → Option Value) (f : Addr) (args : List Value) (pre : List (Addr × Obj) → Prop) (post : Int → Prop) : Prop :=
  ∀ (dp un : Nat) (gd : Option (List Code)) (cn : Str) (cs : Scope) (a : Addr) (ccd : Value) (cl : List (Str × Addr)) (outer : List Env) (A₀ : Around) (base h₀ : Heap) (L : Addr) (m : Str → Option Value) (news : List (Addr × Obj)) (s : Shared) (Q E : Value → Shared → Prop),
    Below A₀ base outer h₀ → Fr h₀ L s.heap m → K.In h₀ → News h₀ L s.heap news → Top p loose mean mg mb h₀ → cs.kind = .function → pre news → dp + 1 < recursionLimit → un + 8 < cLine →
    (∀ k t h' tk', post k → Fr h₀ L h' m → News h₀ L h' news → Q (.int k t) { s with heap := h', toks := tk' }) →
    wpAny (model prog w) (ktrTop dp un gd cn cs L a ccd cl outer) (call (.ref f) args) Q E s
/-- bisect_left(a, x) -/
def BL2 (prog : Program) (w : World) (K : Frag) (p : Program) (loose : List Str) (mean : ExcName → Option Value) (mg mb : Str → Option Value) (f : Addr) : Prop :=
  ∀ (l : Addr) (vs : List Value) (ns : List Int) (c : Nat) (x : Int) (t : Tok), IntsAre vs ns → ns.length < 2 ^ 62 →
    Tells prog w K p loose mean mg mb f [.ref l, .int x t] (fun news => (l, W.listOf vs.toArray c) ∈ news) (fun k => 0 ≤ k ∧ k ≤ ns.length ∧ BL ns x 0 ns.length k k)
def BR2 (prog : Program) (w : World) (K : Frag) (p : Program) (loose : List Str) (mean : ExcName → Option Value) (mg mb : Str → Option Value) (f : Addr) : Prop :=
  ∀ (l : Addr) (vs : List Value) (ns : List Int) (c : Nat) (x : Int) (t : Tok), IntsAre vs ns → ns.length < 2 ^ 62 →
    Tells prog w K p loose mean mg mb f [.ref l, .int x t] (fun news => (l, W.listOf vs.toArray c) ∈ news) (fun k => 0 ≤ k ∧ k ≤ ns.length ∧ BR ns x 0 ns.length k k)
theorem with_fn {prog : Program} {w : World} {A : Around} {t : Sem Flow} {Q : Flow → Shared → Prop} {E : Value → Shared → Prop} {s : Shared} {K : Frag} {p : Program} {loose : List Str} {mean : ExcName → Option Value} {mg mb : Str → Option Value} {h : Heap} {f : Addr} (name : Str)
    (C : Program → World → Frag → Program → List Str → (ExcName → Option Value) → (Str → Option Value) → (Str → Option Value) → Addr → Prop) (X : K.In h) (T : Top p loose mean mg mb h) (hf : nsIn K mainGlobals name = some (some (.ref f)))
    (prove : C prog w K p loose mean mg mb f) (use : C prog w K p loose mean mg mb f → wpAny (model prog w) A t Q E s) : wpAny (model prog w) A t Q E s := use prove
end Mine
namespace Mine
section
variable {prog : Program} {w : World} {K : Frag} {p : Program} {loose : List Str} {mean : ExcName → Option Value} {mg mb : Str → Option Value} {f : Addr} {dp un : Nat} {gd : Option (List Code)} {cn : Str} {cs : Scope} {a : Addr} {ccd : Value} {cl : List (Str × Addr)} {outer : List Env} {A₀ : Around} {base h₀ : Heap} {L : Addr} {m : Str → Option Value} {news : List (Addr × Obj)} {s : Shared} {l : Addr} {vs : List Value} {ns : List Int} {c : Nat} {x : Int} {t : Tok} {Q E : Value → Shared → Prop}
theorem bl2_use (C : BL2 prog w K p loose mean mg mb f) (B : Below A₀ base outer h₀) (F : Fr h₀ L s.heap m) (X : K.In h₀) (N : News h₀ L s.heap news) (T : Top p loose mean mg mb h₀) (hk : cs.kind = .function) (hm : (l, W.listOf vs.toArray c) ∈ news) (hi : IntsAre vs ns) (hfit : ns.length < 2 ^ 62) (hd : dp + 1 < recursionLimit) (hu : un + 8 < cLine)
    (ret : ∀ (k : Int) t h' tk', 0 ≤ k → k ≤ ns.length → BL ns x 0 ns.length k k → Fr h₀ L h' m → News h₀ L h' news → Q (.int k t) { s with heap := h', toks := tk' }) :
    wpAny (model prog w) (ktrTop dp un gd cn cs L a ccd cl outer) (call (.ref f) [.ref l, .int x t]) Q E s :=
  C l vs ns c x t hi hfit _ _ _ _ _ _ _ _ _ _ _ _ _ _ _ _ _ _ B F X N T hk hm hd hu fun k t h' tk' h F' N' => ret k t h' tk' h.1 h.2.1 h.2.2 F' N'
theorem br2_use (C : BR2 prog w K p loose mean mg mb f) (B : Below A₀ base outer h₀) (F : Fr h₀ L s.heap m) (X : K.In h₀) (N : News h₀ L s.heap news) (T : Top p loose mean mg mb h₀) (hk : cs.kind = .function) (hm : (l, W.listOf vs.toArray c) ∈ news) (hi : IntsAre vs ns) (hfit : ns.length < 2 ^ 62) (hd : dp + 1 < recursionLimit) (hu : un + 8 < cLine)
    (ret : ∀ (k : Int) t h' tk', 0 ≤ k → k ≤ ns.length → BR ns x 0 ns.length k k → Fr h₀ L h' m → News h₀ L h' news → Q (.int k t) { s with heap := h', toks := tk' }) :
    wpAny (model prog w) (ktrTop dp un gd cn cs L a ccd cl outer) (call (.ref f) [.ref l, .int x t]) Q E s :=
  C l vs ns c x t hi hfit _ _ _ _ _ _ _ _ _ _ _ _ _ _ _ _ _ _ B F X N T hk hm hd hu fun k t h' tk' h F' N' => ret k t h' tk' h.1 h.2.1 h.2.2 F' N'
theorem bl_done {lo hi : Int} (h0 : 0 ≤ lo) (h1 : lo ≤ hi) (h2 : hi ≤ (ns.length : Int)) (b : BL ns x 0 ns.length lo hi) (h : ¬ lo < hi) : 0 ≤ lo ∧ lo ≤ (ns.length : Int) ∧ BL ns x 0 ns.length lo lo := by
  have e : hi = lo := by omega
  subst e
  exact ⟨h0, h2, b⟩
theorem br_done {lo hi : Int} (h0 : 0 ≤ lo) (h1 : lo ≤ hi) (h2 : hi ≤ (ns.length : Int)) (b : BR ns x 0 ns.length lo hi) (h : ¬ lo < hi) : 0 ≤ lo ∧ lo ≤ (ns.length : Int) ∧ BR ns x 0 ns.length lo lo := by
  have e : hi = lo := by omega
  subst e
  exact ⟨h0, h2, b⟩
end
end Mine
open PySem PySem.W PyProof.Rows PySem.Spec PySem.Calls
set_option Elab.async false
namespace Mine
theorem filter_split {ns : List Int} {k : Nat} {p : Int → Bool} (hk : k ≤ ns.length) (h1 : ∀ j : Nat, j < k → p (ns.getD j 0) = true) (h2 : ∀ j : Nat, k ≤ j → j < ns.length → p (ns.getD j 0) = false) : (ns.filter p).length = k := by
  have e : ns = ns.take k ++ ns.drop k := (List.take_append_drop k ns).symm
  have a1 : (ns.take k).filter p = ns.take k := List.filter_eq_self.mpr fun y hy => by
    obtain ⟨j, hj, rfl⟩ := List.mem_iff_getElem.mp hy
    have hj' : j < k := by rw [List.length_take] at hj; omega
    have := h1 j hj'
    have hl : j < ns.length := by omega
    simp only [List.getD_eq_getElem?_getD, List.getElem?_eq_getElem hl, Option.getD_some] at this
    rw [List.getElem_take]; exact this
  have a2 : (ns.drop k).filter p = [] := List.filter_eq_nil_iff.mpr fun y hy => by
    obtain ⟨j, hj, rfl⟩ := List.mem_iff_getElem.mp hy
    rw [List.length_drop] at hj
    have hl : k + j < ns.length := by omega
    have := h2 (k + j) (by omega) hl
    simp only [List.getD_eq_getElem?_getD, List.getElem?_eq_getElem hl, Option.getD_some] at this
    rw [List.getElem_drop]; simp [this]
  rw [e, List.filter_append, a1, a2, List.append_nil, List.length_take]
  omega
theorem bl_count {ns : List Int} {x k : Int} (hs : ns.Pairwise (· ≤ ·)) (h0 : 0 ≤ k) (h1 : k ≤ (ns.length : Int)) (b : BL ns x 0 ns.length k k) : k = ((ns.filter (fun y => decide (y < x))).length : Int) := by
  obtain ⟨b1, b2⟩ := b hs
  have := filter_split (ns := ns) (k := k.toNat) (p := fun y => decide (y < x)) (by omega) (fun j hj => by simpa using b1 j (by omega) (by omega)) (fun j h hj => by simpa using b2 j (by omega) (by omega))
  omega
theorem br_count {ns : List Int} {x k : Int} (hs : ns.Pairwise (· ≤ ·)) (h0 : 0 ≤ k) (h1 : k ≤ (ns.length : Int)) (b : BR ns x 0 ns.length k k) : k = ((ns.filter (fun y => decide (y ≤ x))).length : Int) := by
  obtain ⟨b1, b2⟩ := b hs
  have := filter_split (ns := ns) (k := k.toNat) (p := fun y => decide (y ≤ x)) (by omega) (fun j hj => by simpa using b1 j (by omega) (by omega)) (fun j h hj => by simpa using b2 j (by omega) (by omega))
  omega
theorem count05 (lo hi : Int) : ∀ ns : List Int, ((ns.filter (fun y => decide (y ≤ hi))).length : Int) - (ns.filter (fun y => decide (y < lo))).length
    = ((ns.filter (fun k => decide (lo ≤ k) && decide (k ≤ hi))).length : Int) - (ns.filter (fun k => decide (hi < k) && decide (k < lo))).length
  | [] => by simp
  | a :: r => by
    have ih := count05 lo hi r
    simp only [List.filter_cons]
    by_cases h1 : a ≤ hi <;> by_cases h2 : a < lo <;> simp [h1, h2, show (lo ≤ a) = ¬ (a < lo) from by simp, show (hi < a) = ¬ (a ≤ hi) from by simp] <;> omega
theorem end05 {ns : List Int} {lo hi kl kr : Int} (hs : ns.Pairwise (· ≤ ·)) (r0 : 0 ≤ kr) (r1 : kr ≤ (ns.length : Int)) (hr : BR ns hi 0 ns.length kr kr) (l0 : 0 ≤ kl) (l1 : kl ≤ (ns.length : Int)) (hl : BL ns lo 0 ns.length kl kl) :
    (kr - kl == ((List.map (fun k => k) (ns.filter (fun k => decide (lo ≤ k) && decide (k ≤ hi)))).length : Int) - ((List.map (fun k => k) (ns.filter (fun k => decide (hi < k) && decide (k < lo)))).length : Int)) = true := by
  rw [beq_iff_eq, List.length_map, List.length_map, br_count hs r0 r1 hr, bl_count hs l0 l1 hl]
  exact count05 lo hi ns
end Mine
open PySem PySem.W PyProof.Rows PySem.Spec PySem.Calls
set_option Elab.async false
namespace Mine
/-- a loop whose target is any expression, at its iterator -/
def LoopC (prog : Program) (w : World) (A : Around) (env : Env) (tgt : Expr) (body : List Stmt) (Q : Flow → Shared → Prop) (E : Value → Shared → Prop) (it : Value) (s₂ : Shared) : Prop :=
  codeAny (model prog w) A (.forLoop tgt it body [] env) (fun r s' => match r with | .ok f => Q f s' | .error e => cameBackBy (model prog w) A env E e s') s₂
def LEnd (h₀ : Heap) (L : Addr) (s : Shared) (I : Addr) (oI : Obj) (Jn : (Str → Option Value) → List (Addr × Obj) → Prop) (s₂ : Shared) : Prop :=
  ∃ h' tk m' all nx, s₂ = { s with heap := h', toks := tk } ∧ Fr h₀ L h' m' ∧ News h₀ L h' all ∧ (I, oI) ∈ all ∧ (∀ p ∈ nx, p ∈ all) ∧ (∀ p ∈ nx, p.1 ≠ I) ∧ Jn m' nx
def LPost (h₀ : Heap) (L : Addr) (s : Shared) (I : Addr) (oI : Obj) (Jn : (Str → Option Value) → List (Addr × Obj) → Prop) (Q : Flow → Shared → Prop) (f : Flow) (s₂ : Shared) : Prop :=
  match f with
  | .ret v => Q (.ret v) s₂
  | .brk => Q .next s₂
  | _ => LEnd h₀ L s I oI Jn s₂
section
variable {prog : Program} {w : World} {A : Around} {E : Value → Shared → Prop} {Q : Flow → Shared → Prop} {s : Shared} {env : Env} {h₀ : Heap} {L : Addr} {tgt iter : Expr} {body : List Stmt} {pos : Pos} {m : Str → Option Value} {news : List (Addr × Obj)}
theorem for_C (h : wpAny (model prog w) A (eval iter env) (fun xv s₁ => wpAny (model prog w) A (pyIter xv) (fun it s₂ => LoopC prog w A env tgt body Q E it s₂) E s₁) E s)
    (hs : ∀ x, foldedSetIterable iter env x = pure x := by intro _; rfl) : wpAny (model prog w) A (exec (.For tgt iter body [] pos) env) Q E s := wpAny_For h hs
theorem rng_loop {r : Addr} {a b : Int} {t u v : Tok} {n : Nat} (J : Nat → (Str → Option Value) → List (Addr × Obj) → Prop)
    (hh : A.handled = none) (hr : IsRange s.heap r a b 1 t u v) (hsm : Builtin.Range.small a b 1 = true) (hn : Builtin.Range.rangeSize a b 1 = (n : Int)) (F : Fr h₀ L s.heap m) (N : News h₀ L s.heap news) (j0 : J 0 m news)
    (turn : ∀ (i : Nat) (k : Int) (tt : Tok) m₁ news₁ h tk I oI, i < n → k = a + (i : Int) → J i m₁ news₁ → Fr h₀ L h m₁ → News h₀ L h ((I, oI) :: news₁) → (∀ p ∈ news₁, p.1 ≠ I) →
      wpAny (model prog w) A (assign tgt env (.int k tt)) (fun _ s₂ => wpAny (model prog w) A (execs body env) (LPost h₀ L s I oI (J (i + 1)) Q) E s₂) E { s with heap := h, toks := tk })
    (done : ∀ m₁ news₁ h tk, J n m₁ news₁ → Fr h₀ L h m₁ → News h₀ L h news₁ → Q .next { s with heap := h, toks := tk })
    (ht : ∀ it v, letOwnedTupleGo tgt it v = pure () := by intro _ _; rfl) (hE : PassesOwn (model prog w) A env E := by passes_own) :
    wpAny (model prog w) A (pyIter (.ref r)) (fun it s₂ => LoopC prog w A env tgt body Q E it s₂) E s := by
  refine wpAny_pyIter_range hr hsm ?_
  have W := Walks.range (prog := prog) (w := w) hh s.heap.objs.size a 1 n
  have hI₀ := next_is_new F
  have hLI : L ≠ s.heap.objs.size := Nat.ne_of_lt F.ns.lt
  unfold LoopC
  refine codeAny_forLoop (fun k s' => ∃ h' tk m' nx i, s' = { s with heap := h', toks := tk } ∧ IsRangeIter h' s.heap.objs.size (a + (i : Nat) * 1) ((n : Int) - (i : Nat)) 1 ∧ Fr h₀ L h' m' ∧ News h₀ L h' nx ∧ (∀ p ∈ nx, p.1 ≠ s.heap.objs.size) ∧ J i m' nx ∧ i ≤ n ∧ k = n + 1 - i) ?_ (n + 1)
    ⟨_, _, m, news, 0, rfl, (by show IsRangeIter _ _ _ _ _; rw [hn]; simpa using Heap.get?_push_size _ rfl), F.push _, (fun p hp => ⟨Heap.get?_push_of_some _ (N p hp).1, (N p hp).2⟩), (fun p hp => Nat.ne_of_lt (Heap.lt_size (N p hp).1)), j0, Nat.zero_le _, rfl⟩ (fun v => ht _ v)
  rintro k s' ⟨h', tk, m', nx, i, rfl, st, F', N', off, hJ, hi, rfl⟩
  have next : ∀ h₁ : Heap, (∀ b o, b ∉ [s.heap.objs.size] → h'.get? b = some o → h₁.get? b = some o) → Fr h₀ L h₁ m' ∧ News h₀ L h₁ nx := fun h₁ hk₁ =>
    ⟨⟨F'.ns.at' fun o e => hk₁ _ o (by simpa using hLI) e, fun b o e => hk₁ b o (fun hm => by rw [List.mem_singleton.mp hm, hI₀] at e; cases e) (F'.keep b o e), F'.above⟩, fun p hp => ⟨hk₁ _ _ (by simpa using off p hp) (N' p hp).1, (N' p hp).2⟩⟩
  by_cases hlt : i < n
  · refine W.item i _ _ _ hlt st fun v h₁ tk₁ hP st₁ hk₁ => ?_
    obtain ⟨F₁, N₁⟩ := next h₁ hk₁
    obtain ⟨tt, rfl⟩ := hP
    obtain ⟨oI, hO⟩ : ∃ oI : Obj, ∀ h2 : Heap, h2.get? s.heap.objs.size = some oI ↔ IsRangeIter h2 s.heap.objs.size (a + ((i + 1 : Nat) : Int) * 1) ((n : Int) - ((i + 1 : Nat) : Int)) 1 := ⟨_, fun h2 => Iff.rfl⟩
    have N₂ : News h₀ L h₁ ((s.heap.objs.size, oI) :: nx) := fun p hp => by
      rcases List.mem_cons.mp hp with rfl | hp
      · exact ⟨(hO _).mpr st₁, Ne.symm hLI, hI₀⟩
      · exact N₁ p hp
    refine wpAny_mono (wpAny_passesOwn hE (turn i _ tt m' nx h₁ tk₁ _ oI hlt (by omega) hJ F₁ N₂ off)) (fun _ s₂ h₂ => wpAny_mono (wpAny_passesOwn hE h₂) (fun f s₃ h₃ => ?_) fun _ _ e => e) fun _ _ e => e
    have go : LEnd h₀ L s s.heap.objs.size oI (J (i + 1)) s₃ → ∃ k, k < n + 1 - i ∧ ∃ h' tk m' nx i, s₃ = { s with heap := h', toks := tk } ∧ IsRangeIter h' s.heap.objs.size (a + (i : Nat) * 1) ((n : Int) - (i : Nat)) 1 ∧ Fr h₀ L h' m' ∧ News h₀ L h' nx ∧ (∀ p ∈ nx, p.1 ≠ s.heap.objs.size) ∧ J i m' nx ∧ i ≤ n ∧ k = n + 1 - i := by
      rintro ⟨h₃', tk₃, m₃, all, nx₃, rfl, F₃, N₃, hI, hs, ho, hJ₃⟩
      exact ⟨n + 1 - (i + 1), by omega, h₃', tk₃, m₃, nx₃, i + 1, rfl, (hO _).mp (N₃ _ hI).1, F₃, fun p hp => N₃ p (hs p hp), ho, hJ₃, hlt, rfl⟩
    cases f with
    | ret v => exact h₃
    | brk => exact h₃
    | cont => exact go h₃
    | next => exact go h₃
  · have hin : i = n := by omega
    subst hin
    refine W.done _ _ _ st fun h₁ tk₁ hk₁ => wpAny_execs_nil ?_
    obtain ⟨F₁, N₁⟩ := next h₁ hk₁
    exact done m' nx h₁ tk₁ hJ F₁ N₁

theorem off1_of {I : Addr} : ∀ {l : List (Addr × Obj)}, (∀ p ∈ l, p.1 ≠ I) → LCg.Off1 I l
  | [], _ => trivial
  | _ :: _, h => ⟨h _ List.mem_cons_self, off1_of fun p hp => h p (List.mem_cons_of_mem _ hp)⟩
/-- the end of a turn: one int name y, the target's cell, all else as it stood -/
def CEndI (h₀ : Heap) (L : Addr) (s : Shared) (I : Addr) (oI : Obj) (g : Obj → List (Addr × Obj)) (y : Str) (stored : List Str) (m : Str → Option Value) (P : Int → Prop) (s₂ : Shared) : Prop :=
  ∃ h' tk m' all d' td' oC' vC, s₂ = { s with heap := h', toks := tk } ∧ Fr h₀ L h' m' ∧ News h₀ L h' all ∧ (I, oI) ∈ all ∧ (∀ p ∈ g oC', p ∈ all) ∧ oC'.data = .cell vC ∧ m' y = some (.int d' td') ∧ (∀ z, z ≠ y → stored.contains z = false → m' z = m z) ∧ P d'
def CPostI (h₀ : Heap) (L : Addr) (s : Shared) (I : Addr) (oI : Obj) (g : Obj → List (Addr × Obj)) (y : Str) (stored : List Str) (m : Str → Option Value) (P : Int → Prop) (Q : Flow → Shared → Prop) (f : Flow) (s₂ : Shared) : Prop :=
  match f with
  | .ret v => Q (.ret v) s₂
  | .brk => Q .next s₂
  | _ => CEndI h₀ L s I oI g y stored m P s₂
theorem cendI {I : Addr} {oI : Obj} {g : Obj → List (Addr × Obj)} {y : Str} {stored : List Str} {P : Int → Prop} {h' : Heap} {tk : Nat} {m' : Str → Option Value} {all : List (Addr × Obj)} {d' : Int} {td' : Tok} {oC' : Obj} {vC : Option Value}
    (F : Fr h₀ L h' m') (N : News h₀ L h' all) (hc : oC'.data = .cell vC) (hI : (I, oI) ∈ all) (hs : ∀ p ∈ g oC', p ∈ all) (hy : m' y = some (.int d' td')) (hm : ∀ z, z ≠ y → stored.contains z = false → m' z = m z) (hp : P d') :
    CEndI h₀ L s I oI g y stored m P { s with heap := h', toks := tk } := ⟨h', tk, m', all, d', td', oC', vC, rfl, F, N, hI, hs, hc, hy, hm, hp⟩
theorem map_one {y : Str} {stored : List Str} {m₀ m₁ : Str → Option Value} {v : Value} (hy : m₁ y = some v) (hm : ∀ z, z ≠ y → stored.contains z = false → m₁ z = m₀ z) :
    m₁ = fun z => if z = y then some v else if stored.contains z then m₁ z else m₀ z := by
  funext z
  by_cases e : z = y
  · rw [if_pos e, e, hy]
  · rw [if_neg e]
    cases h3 : stored.contains z with
    | true => rfl
    | false => exact hm z e h3
theorem rng_cell_int {r : Addr} {a b : Int} {t u v : Tok} {n : Nat} {x y : Str} {px : Pos} {cx : Addr} {oX : Obj} {g : Obj → List (Addr × Obj)} {v₀ : Option Value} {d₀ : Int} {td₀ : Tok} (stored : List Str) (P : Nat → Int → Prop)
    (hh : A.handled = none) (hr : IsRange s.heap r a b 1 t u v) (hsm : Builtin.Range.small a b 1 = true) (hn : Builtin.Range.rangeSize a b 1 = (n : Int)) (F : Fr h₀ L s.heap m) (N : News h₀ L s.heap news)
    (hk : env.scope.kind = .function) (hx : env.kindOf x = some .cell) (hc : env.cells.lookup x = some cx) (U : UpdF cx oX news g) (hd : oX.data = .cell v₀) (hy : m y = some (.int d₀ td₀)) (p0 : P 0 d₀)
    (turn : ∀ (i : Nat) (k : Int) (tt : Tok) (d : Int) (td : Tok) (um : Str → Option Value) oC h tk I oI, i < n → k = a + (i : Int) → P i d → oC.data = .cell (some (.int k tt)) →
      Fr h₀ L h (fun z => if z = y then some (.int d td) else if stored.contains z then um z else m z) → News h₀ L h ((I, oI) :: g oC) → LCg.Off1 I (g oC) →
      wpAny (model prog w) A (execs body env) (CPostI h₀ L s I oI g y stored m (P (i + 1)) Q) E { s with heap := h, toks := tk })
    (done : ∀ (d : Int) (td : Tok) (um : Str → Option Value) oC vC h tk, P n d → oC.data = .cell vC → Fr h₀ L h (fun z => if z = y then some (.int d td) else if stored.contains z then um z else m z) → News h₀ L h (g oC) → Q .next { s with heap := h, toks := tk })
    (hE : PassesOwn (model prog w) A env E := by passes_own) :
    wpAny (model prog w) A (pyIter (.ref r)) (fun it s₂ => LoopC prog w A env (.Name x px) body Q E it s₂) E s := by
  obtain ⟨pre, post, hnews, hg, h1, h2⟩ := U.split
  have hg0 : news = g oX := by rw [hg, hnews]
  refine rng_loop (fun i m₁ nx => ∃ d td oC vC, nx = g oC ∧ oC.data = .cell vC ∧ m₁ y = some (.int d td) ∧ (∀ z, z ≠ y → stored.contains z = false → m₁ z = m z) ∧ P i d) hh hr hsm hn F N ⟨d₀, td₀, oX, v₀, hg0, hd, hy, fun _ _ _ => rfl, p0⟩ ?_ ?_ (by intro _ _; rfl) hE
  · rintro i k tt m₁ nx h tk I oI hi hk' ⟨d, td, oC, vC, rfl, hvC, hy1, hm1, hp⟩ F₁ N₁ off
    have hmem : (cx, oC) ∈ (I, oI) :: g oC := List.mem_cons_of_mem _ (by rw [hg]; exact List.mem_append_right _ List.mem_cons_self)
    have z := N₁ _ hmem
    have offC : cx ≠ I := off (cx, oC) (by rw [hg]; exact List.mem_append_right _ List.mem_cons_self)
    refine wpAny_assign_Name (wpAny_storeName_cell hk hx hc ⟨oC, z.1, hvC⟩ fun h' hv hs => ?_)
    obtain ⟨oC', hoC', hdC'⟩ := hv
    have F₂ : Fr h₀ L h' m₁ := ⟨F₁.ns.sameBut hs (Ne.symm z.2.1), fun b ob e => (hs.2 b (fun q => by rw [q, z.2.2] at e; cases e)).trans (F₁.keep b ob e), F₁.above⟩
    have N₂ : News h₀ L h' ((I, oI) :: g oC') := fun p hp => by
      rcases List.mem_cons.mp hp with rfl | hp
      · have z1 := N₁ (I, oI) List.mem_cons_self
        exact ⟨(hs.2 _ (Ne.symm offC)).trans z1.1, z1.2⟩
      · rw [hg] at hp
        rcases List.mem_append.mp hp with hp | hp
        · have z1 := N₁ p (List.mem_cons_of_mem _ (by rw [hg]; exact List.mem_append_left _ hp))
          exact ⟨(hs.2 _ (h1 p hp)).trans z1.1, z1.2⟩
        · rcases List.mem_cons.mp hp with rfl | hp
          · exact ⟨hoC', z.2⟩
          · have z1 := N₁ p (List.mem_cons_of_mem _ (by rw [hg]; exact List.mem_append_right _ (List.mem_cons_of_mem _ hp)))
            exact ⟨(hs.2 _ (h2 p hp)).trans z1.1, z1.2⟩
    have offA : ∀ o', ∀ p ∈ g o', p.1 ≠ I := fun o' p hp => by
      rw [hg] at hp
      rcases List.mem_append.mp hp with hp | hp
      · exact off p (by rw [hg]; exact List.mem_append_left _ hp)
      · rcases List.mem_cons.mp hp with rfl | hp
        · exact offC
        · exact off p (by rw [hg]; exact List.mem_append_right _ (List.mem_cons_of_mem _ hp))
    rw [map_one hy1 hm1] at F₂
    refine wpAny_mono (turn i k tt d td m₁ oC' h' tk I oI hi hk' hp hdC' F₂ N₂ (off1_of (offA oC'))) (fun f s₃ h₃ => ?_) fun _ _ e => e
    have go : CEndI h₀ L s I oI g y stored m (P (i + 1)) s₃ → LEnd h₀ L s I oI (fun m₁ nx => ∃ d td oC vC, nx = g oC ∧ oC.data = .cell vC ∧ m₁ y = some (.int d td) ∧ (∀ z, z ≠ y → stored.contains z = false → m₁ z = m z) ∧ P (i + 1) d) s₃ := by
      rintro ⟨h₃', tk₃, m₃, all, d', td', o₃, v₃, rfl, F₃, N₃, hI, hs₃, hc₃, hy₃, hm₃, hp₃⟩
      exact ⟨h₃', tk₃, m₃, all, g o₃, rfl, F₃, N₃, hI, hs₃, offA o₃, d', td', o₃, v₃, rfl, hc₃, hy₃, hm₃, hp₃⟩
    cases f with
    | ret v => exact h₃
    | brk => exact h₃
    | cont => exact go h₃
    | next => exact go h₃
  · rintro m₁ nx h tk ⟨d, td, oC, vC, rfl, hvC, hy1, hm1, hp⟩ F₁ N₁
    rw [map_one hy1 hm1] at F₁
    exact done d td m₁ oC vC h tk hp hvC F₁ N₁
end
end Mine
namespace Mine
theorem name_ints {h : Heap} {l : Addr} {vs : List Value} {ns : List Int} (_hl : h.IsList l vs.toArray) (_hi : IntsAre vs ns) : ∃ z : List Int, z = ns := ⟨ns, rfl⟩
theorem name_of {α : Type} (a : α) : ∃ z : α, z = a := ⟨a, rfl⟩
end Mine
open PySem PySem.W PyProof.Rows PySem.Spec PySem.Calls
set_option Elab.async false
namespace Mine
/-- bisect_left(a, x, lo, None), bisect_right(a, x, lo, None) -/
def BL4 (prog : Program) (w : World) (K : Frag) (p : Program) (loose : List Str) (mean : ExcName → Option Value) (mg mb : Str → Option Value) (f : Addr) : Prop :=
  ∀ (l : Addr) (vs : List Value) (ns : List Int) (c : Nat) (x : Int) (t : Tok) (lo : Int) (t' : Tok), IntsAre vs ns → ns.length < 2 ^ 62 → 0 ≤ lo → lo ≤ ns.length →
    Tells prog w K p loose mean mg mb f [.ref l, .int x t, .int lo t', .none] (fun news => (l, W.listOf vs.toArray c) ∈ news) (fun k => lo ≤ k ∧ k ≤ ns.length ∧ BL ns x lo ns.length k k)
def BR4 (prog : Program) (w : World) (K : Frag) (p : Program) (loose : List Str) (mean : ExcName → Option Value) (mg mb : Str → Option Value) (f : Addr) : Prop :=
  ∀ (l : Addr) (vs : List Value) (ns : List Int) (c : Nat) (x : Int) (t : Tok) (lo : Int) (t' : Tok), IntsAre vs ns → ns.length < 2 ^ 62 → 0 ≤ lo → lo ≤ ns.length →
    Tells prog w K p loose mean mg mb f [.ref l, .int x t, .int lo t', .none] (fun news => (l, W.listOf vs.toArray c) ∈ news) (fun k => lo ≤ k ∧ k ≤ ns.length ∧ BR ns x lo ns.length k k)
/-- .. (a, x, lo) -/
def BL3 (prog : Program) (w : World) (K : Frag) (p : Program) (loose : List Str) (mean : ExcName → Option Value) (mg mb : Str → Option Value) (f : Addr) : Prop :=
  ∀ (l : Addr) (vs : List Value) (ns : List Int) (c : Nat) (x : Int) (t : Tok) (lo : Int) (t' : Tok), IntsAre vs ns → ns.length < 2 ^ 62 → 0 ≤ lo → lo ≤ ns.length →
    Tells prog w K p loose mean mg mb f [.ref l, .int x t, .int lo t'] (fun news => (l, W.listOf vs.toArray c) ∈ news) (fun k => lo ≤ k ∧ k ≤ ns.length ∧ BL ns x lo ns.length k k)
def BR3 (prog : Program) (w : World) (K : Frag) (p : Program) (loose : List Str) (mean : ExcName → Option Value) (mg mb : Str → Option Value) (f : Addr) : Prop :=
  ∀ (l : Addr) (vs : List Value) (ns : List Int) (c : Nat) (x : Int) (t : Tok) (lo : Int) (t' : Tok), IntsAre vs ns → ns.length < 2 ^ 62 → 0 ≤ lo → lo ≤ ns.length →
    Tells prog w K p loose mean mg mb f [.ref l, .int x t, .int lo t'] (fun news => (l, W.listOf vs.toArray c) ∈ news) (fun k => lo ≤ k ∧ k ≤ ns.length ∧ BR ns x lo ns.length k k)
theorem blo_done {ns : List Int} {x lo₀ lo hi : Int} (h0 : lo₀ ≤ lo) (h1 : lo ≤ hi) (h2 : hi ≤ (ns.length : Int)) (b : BL ns x lo₀ ns.length lo hi) (h : ¬ lo < hi) : lo₀ ≤ lo ∧ lo ≤ (ns.length : Int) ∧ BL ns x lo₀ ns.length lo lo := by
  have e : hi = lo := by omega
  subst e
  exact ⟨h0, h2, b⟩
theorem bro_done {ns : List Int} {x lo₀ lo hi : Int} (h0 : lo₀ ≤ lo) (h1 : lo ≤ hi) (h2 : hi ≤ (ns.length : Int)) (b : BR ns x lo₀ ns.length lo hi) (h : ¬ lo < hi) : lo₀ ≤ lo ∧ lo ≤ (ns.length : Int) ∧ BR ns x lo₀ ns.length lo lo := by
  have e : hi = lo := by omega
  subst e
  exact ⟨h0, h2, b⟩
section
variable {prog : Program} {w : World} {K : Frag} {p : Program} {loose : List Str} {mean : ExcName → Option Value} {mg mb : Str → Option Value} {f : Addr} {dp un : Nat} {gd : Option (List Code)} {cn : Str} {cs : Scope} {a : Addr} {ccd : Value} {cl : List (Str × Addr)} {outer : List Env} {A₀ : Around} {base h₀ : Heap} {L : Addr} {m : Str → Option Value} {news : List (Addr × Obj)} {s : Shared} {l : Addr} {vs : List Value} {ns : List Int} {c : Nat} {x lo : Int} {t t' : Tok} {Q E : Value → Shared → Prop}
theorem bl4_use (C : BL4 prog w K p loose mean mg mb f) (B : Below A₀ base outer h₀) (F : Fr h₀ L s.heap m) (X : K.In h₀) (N : News h₀ L s.heap news) (T : Top p loose mean mg mb h₀) (hk : cs.kind = .function) (hm : (l, W.listOf vs.toArray c) ∈ news) (hi : IntsAre vs ns) (hfit : ns.length < 2 ^ 62 ∧ 0 ≤ lo ∧ lo ≤ ns.length) (hd : dp + 1 < recursionLimit) (hu : un + 8 < cLine)
    (ret : ∀ (k : Int) t h' tk', lo ≤ k → k ≤ ns.length → BL ns x lo ns.length k k → Fr h₀ L h' m → News h₀ L h' news → Q (.int k t) { s with heap := h', toks := tk' }) :
    wpAny (model prog w) (ktrTop dp un gd cn cs L a ccd cl outer) (call (.ref f) [.ref l, .int x t, .int lo t', .none]) Q E s :=
  C l vs ns c x t lo t' hi hfit.1 hfit.2.1 hfit.2.2 _ _ _ _ _ _ _ _ _ _ _ _ _ _ _ _ _ _ B F X N T hk hm hd hu fun k t h' tk' h F' N' => ret k t h' tk' h.1 h.2.1 h.2.2 F' N'
theorem br4_use (C : BR4 prog w K p loose mean mg mb f) (B : Below A₀ base outer h₀) (F : Fr h₀ L s.heap m) (X : K.In h₀) (N : News h₀ L s.heap news) (T : Top p loose mean mg mb h₀) (hk : cs.kind = .function) (hm : (l, W.listOf vs.toArray c) ∈ news) (hi : IntsAre vs ns) (hfit : ns.length < 2 ^ 62 ∧ 0 ≤ lo ∧ lo ≤ ns.length) (hd : dp + 1 < recursionLimit) (hu : un + 8 < cLine)
    (ret : ∀ (k : Int) t h' tk', lo ≤ k → k ≤ ns.length → BR ns x lo ns.length k k → Fr h₀ L h' m → News h₀ L h' news → Q (.int k t) { s with heap := h', toks := tk' }) :
    wpAny (model prog w) (ktrTop dp un gd cn cs L a ccd cl outer) (call (.ref f) [.ref l, .int x t, .int lo t', .none]) Q E s :=
  C l vs ns c x t lo t' hi hfit.1 hfit.2.1 hfit.2.2 _ _ _ _ _ _ _ _ _ _ _ _ _ _ _ _ _ _ B F X N T hk hm hd hu fun k t h' tk' h F' N' => ret k t h' tk' h.1 h.2.1 h.2.2 F' N'
theorem bl3_use (C : BL3 prog w K p loose mean mg mb f) (B : Below A₀ base outer h₀) (F : Fr h₀ L s.heap m) (X : K.In h₀) (N : News h₀ L s.heap news) (T : Top p loose mean mg mb h₀) (hk : cs.kind = .function) (hm : (l, W.listOf vs.toArray c) ∈ news) (hi : IntsAre vs ns) (hfit : ns.length < 2 ^ 62 ∧ 0 ≤ lo ∧ lo ≤ ns.length) (hd : dp + 1 < recursionLimit) (hu : un + 8 < cLine)
    (ret : ∀ (k : Int) t h' tk', lo ≤ k → k ≤ ns.length → BL ns x lo ns.length k k → Fr h₀ L h' m → News h₀ L h' news → Q (.int k t) { s with heap := h', toks := tk' }) :
    wpAny (model prog w) (ktrTop dp un gd cn cs L a ccd cl outer) (call (.ref f) [.ref l, .int x t, .int lo t']) Q E s :=
  C l vs ns c x t lo t' hi hfit.1 hfit.2.1 hfit.2.2 _ _ _ _ _ _ _ _ _ _ _ _ _ _ _ _ _ _ B F X N T hk hm hd hu fun k t h' tk' h F' N' => ret k t h' tk' h.1 h.2.1 h.2.2 F' N'
theorem br3_use (C : BR3 prog w K p loose mean mg mb f) (B : Below A₀ base outer h₀) (F : Fr h₀ L s.heap m) (X : K.In h₀) (N : News h₀ L s.heap news) (T : Top p loose mean mg mb h₀) (hk : cs.kind = .function) (hm : (l, W.listOf vs.toArray c) ∈ news) (hi : IntsAre vs ns) (hfit : ns.length < 2 ^ 62 ∧ 0 ≤ lo ∧ lo ≤ ns.length) (hd : dp + 1 < recursionLimit) (hu : un + 8 < cLine)
    (ret : ∀ (k : Int) t h' tk', lo ≤ k → k ≤ ns.length → BR ns x lo ns.length k k → Fr h₀ L h' m → News h₀ L h' news → Q (.int k t) { s with heap := h', toks := tk' }) :
    wpAny (model prog w) (ktrTop dp un gd cn cs L a ccd cl outer) (call (.ref f) [.ref l, .int x t, .int lo t']) Q E s :=
  C l vs ns c x t lo t' hi hfit.1 hfit.2.1 hfit.2.2 _ _ _ _ _ _ _ _ _ _ _ _ _ _ _ _ _ _ B F X N T hk hm hd hu fun k t h' tk' h F' N' => ret k t h' tk' h.1 h.2.1 h.2.2 F' N'
end
/-- l with y ahead of place k -/
def insAt {α : Type} (l : List α) (k : Nat) (y : α) : List α := l.take k ++ y :: l.drop k
theorem insAt_ints {vs : List Value} {ns : List Int} (h : IntsAre vs ns) (y : Int) (t : Tok) : ∀ k : Nat, IntsAre (insAt vs k (.int y t)) (insAt ns k y) := by
  intro k
  unfold insAt
  induction h generalizing k with
  | nil => simpa using IntsAre.cons y t .nil
  | cons n u h ih =>
    cases k with
    | zero => simpa using IntsAre.cons y t (.cons n u h)
    | succ k => simpa using IntsAre.cons n u (ih k)
theorem insAt_length {α : Type} (l : List α) (k : Nat) (y : α) : (insAt l k y).length = l.length + 1 := by
  unfold insAt; rw [List.length_append, List.length_cons, List.length_take, List.length_drop]; omega
section
variable {prog : Program} {w : World} {A : Around} {E : Value → Shared → Prop} {s : Shared} {h₀ : Heap} {L D : Addr} {m : Str → Option Value} {news news' : List (Addr × Obj)} {vs : List Value} {ns : List Int} {n : Nat}
theorem insert_led {x y : Int} {u t : Tok} {Q : Value → Shared → Prop} (F : Fr h₀ L s.heap m) (N : News h₀ L s.heap news)
    (U : Upd D (W.listOf vs.toArray n) (W.listOf (insAt vs x.toNat (.int y t)).toArray (n + 1)) news news') (hi : IntsAre vs ns) (h0 : 0 ≤ x) (hl : x ≤ (ns.length : Int)) (hz : ns.length < 16777216)
    (h : ∀ h', IntsAre (insAt vs x.toNat (.int y t)) (insAt ns x.toNat y) → Fr h₀ L h' m → News h₀ L h' news' → Q .none { s with heap := h' }) :
    wpAny (model prog w) A (call (.builtin "list.insert") [.ref D, .int x u, .int y t]) Q E s := by
  have hlen := hi.length
  refine kl_insert F N ?_ ?_ U ?_ fun h' F' N' => h h' (insAt_ints hi y t _) F' N'
  · unfold Builtin.List.listFitsIndex; simp; omega
  · unfold kl_ins insAt
    rw [if_neg (by omega)]
    have e : min x.toNat vs.toArray.toList.length = x.toNat := by simp; omega
    rw [e]
  · rw [sizeLine_eq]; simp; omega
end
end Mine
open PySem PySem.W PyProof.Rows PySem.Spec PySem.Calls
set_option Elab.async false
namespace Mine
/-- the pairs of places whose earlier number is greater -/
def invs (l : List Int) : Int := ((List.range l.length).map (fun i => (((l.take i).filter (fun y => decide (l.getD i 0 < y))).length : Int))).sum
theorem invs_nil : invs [] = 0 := rfl
theorem invs_snoc (l : List Int) (x : Int) : invs (l ++ [x]) = invs l + ((l.filter (fun y => decide (x < y))).length : Int) := by
  unfold invs
  rw [List.length_append, List.length_singleton, List.range_succ, List.map_append, List.sum_append]
  congr 1
  · congr 1
    apply List.map_congr_left
    intro i hi
    have hi' : i < l.length := List.mem_range.mp hi
    rw [List.take_append_of_le_length (by omega)]
    rw [show (l ++ [x]).getD i 0 = l.getD i 0 from by simp [List.getD_eq_getElem?_getD, List.getElem?_append_left hi']]
  · simp
/-- many and inside behind the numbers pre -/
abbrev W04 (pre : List Int) (many : Int) (inside : List Int) : Prop := inside.Pairwise (· ≤ ·) ∧ inside.Perm pre ∧ many = invs pre ∧ inside.length = pre.length
theorem sorted_insAt {l : List Int} {k x : Int} (hs : l.Pairwise (· ≤ ·)) (h0 : 0 ≤ k) (hk : k ≤ (l.length : Int)) (h1 : ∀ j : Nat, (j : Int) < k → l.getD j 0 ≤ x) (h2 : ∀ j : Nat, k ≤ (j : Int) → (j : Int) < l.length → x ≤ l.getD j 0) : (insAt l k.toNat x).Pairwise (· ≤ ·) := by
  unfold insAt
  have t1 : ∀ y ∈ l.take k.toNat, y ≤ x := fun y hy => by
    obtain ⟨j, hj, rfl⟩ := List.mem_iff_getElem.mp hy
    rw [List.length_take] at hj
    have hl : j < l.length := by omega
    have := h1 j (by omega)
    simp only [List.getD_eq_getElem?_getD, List.getElem?_eq_getElem hl, Option.getD_some] at this
    rw [List.getElem_take]; exact this
  have t2 : ∀ y ∈ l.drop k.toNat, x ≤ y := fun y hy => by
    obtain ⟨j, hj, rfl⟩ := List.mem_iff_getElem.mp hy
    rw [List.length_drop] at hj
    have hl : k.toNat + j < l.length := by omega
    have := h2 (k.toNat + j) (by omega) (by omega)
    simp only [List.getD_eq_getElem?_getD, List.getElem?_eq_getElem hl, Option.getD_some] at this
    rw [List.getElem_drop]; exact this
  rw [List.pairwise_append]
  refine ⟨hs.sublist (List.take_sublist _ _), List.pairwise_cons.mpr ⟨t2, hs.sublist (List.drop_sublist _ _)⟩, fun a ha b hb => ?_⟩
  rcases List.mem_cons.mp hb with rfl | hb
  · exact t1 a ha
  · exact Int.le_trans (t1 a ha) (t2 b hb)
theorem perm_insAt (l : List Int) (k : Nat) (x : Int) : (insAt l k x).Perm (l ++ [x]) := by
  unfold insAt
  refine List.perm_middle.trans ?_
  rw [List.take_append_drop]
  exact (List.perm_append_singleton x l).symm
theorem filter_le_gt (x : Int) : ∀ l : List Int, ((l.filter (fun y => decide (y ≤ x))).length : Int) + (l.filter (fun y => decide (x < y))).length = l.length
  | [] => rfl
  | a :: r => by
    have ih := filter_le_gt x r
    simp only [List.filter_cons]
    by_cases h : a ≤ x
    · simp [h, show ¬ x < a from by omega]; omega
    · simp [h, show x < a from by omega]; omega
theorem w04_turn {pre inside : List Int} {many x k k2 : Int} (hs : inside.Pairwise (· ≤ ·)) (hp : inside.Perm pre) (hm : many = invs pre) (hl : inside.length = pre.length)
    (a0 : 0 ≤ k) (a1 : k ≤ (inside.length : Int)) (ab : BR inside x 0 inside.length k k) (b0 : 0 ≤ k2) (b1 : k2 ≤ (inside.length : Int)) (bb : BR inside x 0 inside.length k2 k2) :
    W04 (pre ++ [x]) (many + (inside.length : Int) - k) (insAt inside k2.toNat x) := by
  obtain ⟨q1, q2⟩ := bb hs
  refine ⟨sorted_insAt hs b0 b1 (fun j hj => q1 j (by omega) hj) (fun j hj hj' => Int.le_of_lt (q2 j hj hj')), (perm_insAt _ _ _).trans (hp.append_right _), ?_, ?_⟩
  · rw [invs_snoc, hm, br_count hs a0 a1 ab]
    have := filter_le_gt x inside
    have e : (inside.filter (fun y => decide (x < y))).length = (pre.filter (fun y => decide (x < y))).length := (hp.filter _).length_eq
    omega
  · rw [insAt_length, List.length_append, List.length_singleton, hl]
theorem w04_start : W04 [] 0 [] := ⟨.nil, .refl _, rfl, rfl⟩
theorem due04 {script : List Int} {i : Nat} (hi : i < script.length) : invs (script.take (i + 1)) = invs (script.take i) + (((rangeKs 0 i).filter (fun j => decide (script.getD (j.toNat) 0 > script.getD ((0 : Int) + (i : Int)).toNat 0))).length : Int) := by
  have e : script.take (i + 1) = script.take i ++ [script.getD i 0] := by
    rw [List.take_add_one]; simp [List.getD_eq_getElem?_getD, List.getElem?_eq_getElem hi]
  rw [e, invs_snoc]
  congr 2
  have e2 : script.take i = (rangeKs 0 i).map (fun j => script.getD j.toNat 0) := by
    apply List.ext_getElem
    · rw [List.length_take, List.length_map, rangeKs_length]; omega
    · intro j h1 h2
      rw [List.length_take] at h1
      have hj : j < script.length := by omega
      simp [rangeKs, List.getD_eq_getElem?_getD, List.getElem?_eq_getElem hj]
  rw [e2, List.filter_map, List.length_map]
  congr 1
  apply List.filter_congr
  intro j hj
  simp [Function.comp]
theorem end04 {script : List Int} {i : Nat} {k d : Int} (hk : k = 0 + (i : Int)) (hi : i < ((script.length : Int) - 0).toNat) (hp : d = invs (script.take i)) :
    d + ((List.map (fun k' => k') (List.filter (fun k' => decide (script.getD k.toNat 0 < script.getD k'.toNat 0)) (rangeKs 0 (k - 0).toNat))).length : Int) = invs (script.take (i + 1)) := by
  have e : (k - 0).toNat = i := by omega
  have e2 : k = (0 : Int) + (i : Int) := hk
  rw [due04 (by omega), List.length_map, e, hp, e2]
theorem take_all {script : List Int} {d : Int} (hp : d = invs (script.take ((script.length : Int) - 0).toNat)) : d = invs script := by
  rw [hp, List.take_of_length_le (by omega)]
theorem sorted_eq {a b : List Int} (ha : a.Pairwise (· ≤ ·)) (hb : b.Pairwise (· ≤ ·)) (h : a.Perm b) : a = b :=
  h.eq_of_pairwise (fun _ _ _ _ h1 h2 => Int.le_antisymm h1 h2) ha hb
theorem dec_sorted {a b c : List Int} {inst : Decidable (a = b)} (ha : a.Pairwise (· ≤ ·)) (hb : b.Pairwise (· ≤ ·)) (pa : a.Perm c) (pb : b.Perm c) : @decide (a = b) inst = true :=
  decide_eq_true (sorted_eq ha hb (pa.trans pb.symm))
end Mine
namespace Mine
set_option maxRecDepth 100000 in
set_option maxHeartbeats 8000000 in
open_top hd04 for PySem.Challenge.rw_cy0001_04
end Mine
local macro_rules | `(tactic| walk_at "eval ListComp") => `(tactic| (k_here; lct_look; k_dflt (refine LCt.ListComp_T (F₀ := by k_asm) (by with_unfolding_all rfl) (by decide) (by rfl) (by decide) (by rfl) ?_)))
local macro_rules | `(tactic| walk_at "CompSrcT") => `(tactic| (k_here; k_dflt (refine LCt.CompSrcT.range (by rfl) (by k_asm) (by k_asm) (by assumption) (by exact small_one (by omega) (by omega) (by omega) (by omega)) (by exact rangeSize_nat _ _) (by rw [PySem.sizeLine_eq]; omega) ?_; intro g'; (refine' Mine.compT_range _ _ (fun k' t' I' oI' C' oC' D' m' ys' h' tk' E' hlo' hhi' hC' hx' F' N' off' ne' hM' => ?_) (fun k' t' I' oI' C' oC' D' m' ys' h' tk' E' hlo' hhi' hp' hC' hx' F' N' off' ne' hM' => ?_) (by lcg_src) ?_); (all_goals (try (simp only [LCg.Off3, and_true] at off'))); kcf_last)))
local macro_rules | `(tactic| walk_at "TstEnd") => `(tactic| (refine Mine.tst_end ?_; with_unfolding_all rfl))
local macro_rules | `(tactic| walk_at "TstMid") => `(tactic| (refine Mine.tst_mid (by with_unfolding_all rfl) ?_))
local macro_rules | `(tactic| walk_at "testChain") => `(tactic| (with_unfolding_all refine Mine.tst_link ?_))
local macro_rules | `(tactic| walk_at "call builtin:len") => `(tactic| (k_here; (with_reducible show wpAny _ _ (call (Value.builtin "len") [Value.ref _]) _ _ _); k_dflt (refine' Mine.len_led ?k1 ?k2 ?k3 ?k4 ?_; (case k1 => k_asm); (case k2 => first | assumption | k_mem); (case k3 => assumption); (case k4 => omega)); k_whole))
local macro_rules | `(tactic| walk_at "subscriptTail Name Name ref int") => `(tactic| (k_here; (with_reducible show wpAny _ _ (subscriptTail _ _ (Value.ref _) (Value.int _ _)) _ _ _); k_dflt (refine' Mine.item_led ?k1 ?k2 ?k3 ?k4 ?k5 ?k6 ?_; (case k1 => k_asm); (case k2 => first | assumption | k_mem); (case k3 => assumption); (case k4 => first | omega | exact Mine.mid_0 (by omega) (by omega)); (case k5 => first | omega | exact Mine.mid_n (by omega) (by omega) (by omega)); (case k6 => first | omega | exact Mine.mid_n (by omega) (by omega) (by omega))); k_whole; intro _))
local macro_rules | `(tactic| walk_at "exec While Compare cons nil") => `(tactic| k_extra "bis while")
local macro_rules | `(tactic| walk_at "call ref") => `(tactic| (k_here; k_dflt (first
  | (refine' Mine.br2_use ?kC ?kB ?kF ?kX ?kN ?kT ?kK ?km ?ki ?kf ?kd ?ku ?_; (case kC => assumption); (case kB => k_asm); (case kF => k_asm); (case kX => k_asm); (case kN => k_asm); (case kT => k_asm); (case kK => first | exact rfl | assumption); (case km => first | assumption | k_mem); (case ki => assumption); (case kf => first | omega | exact ⟨by omega, by omega, by omega⟩); (case kd => ktr_room); (case ku => ktr_units))
  | (refine' Mine.br4_use ?kC ?kB ?kF ?kX ?kN ?kT ?kK ?km ?ki ?kf ?kd ?ku ?_; (case kC => assumption); (case kB => k_asm); (case kF => k_asm); (case kX => k_asm); (case kN => k_asm); (case kT => k_asm); (case kK => first | exact rfl | assumption); (case km => first | assumption | k_mem); (case ki => assumption); (case kf => first | omega | exact ⟨by omega, by omega, by omega⟩); (case kd => ktr_room); (case ku => ktr_units))); k_whole; intro k' t' h' tk' hb0' hb1' hB' F' N'; (try dsimp only); (try k_fold)))
local macro_rules | `(tactic| walk_at "call builtin:list.insert") => `(tactic| (k_here; (with_reducible show wpAny _ _ (call (Value.builtin _) [Value.ref _, Value.int _ _, Value.int _ _]) _ _ _); k_dflt (refine' Mine.insert_led ?F ?N ?U ?i ?h0 ?hl ?hz ?_; (case F => k_asm); (case N => k_asm); (case U => k_upd); (case i => assumption); (case h0 => omega); (case hl => omega); (case hz => omega)); k_whole; intro h' hI' F' N'; (try k_sweep)))
local macro_rules | `(tactic| walk_at "CPostI") => `(tactic| (dsimp only [Mine.CPostI]))
set_option maxRecDepth 100000 in
set_option maxHeartbeats 16000000 in
theorem PySem.Challenge.cw_cy0001_04_holds : PySem.Challenge.rw_cy0001_04.Holds := by
  refine Mine.hd04 ?_
  k_go0
  all_goals try k_fold
  refine Mine.with_fn (Str.ofString "bisect_right") Mine.BR2 (by k_asm) (by k_asm) (by k_dflt k_is) ?_ ?_
  · intro l vs ns c x t hi hfit dp un gd cn cs a ccd cl outer A₀ base h₀ L m news s Q E B F X N T hk hm hd hu hret
    try dsimp only at hm
    refine wpAny_call ?_
    k_dflt (refine' code_def ?k1 ?k2 ?k3 ?k4 ?k5 ?kA ?kF ?kK ?k6 ?k7 ?k8 ?k9 ?kB ?_ ?c2 ?c3 ?c4 ?c5; (case kA => exact rfl); (case kF => exact rfl); (case kK => assumption); (case k1 => k_asm); (case k2 => k_asm); (case k3 => k_asm); (case k4 => k_asm); (case k5 => k_asm); (case k6 => k_is); (case k7 => k_is); (case k8 => ktr_room); (case k9 => (refine' kp_binds ?kx ?ke; (case kx => k_in); (case ke => exact fun _ => rfl))); (case c5 => decide); (case kB => exact locs rfl); (case c2 => exact rfl); (case c3 => exact rfl); (case c4 => exact rfl); k_whole; intro g' L' h' FG' F' N' B' X' T'; (try dsimp only); (try k_lift B'); (try k_fold))
    k_with_none
    k_with "bis while" => k_while (fun _ lo hi => Mine.BRW ns x 0 ns.length lo hi) (fun _ lo hi => (hi - lo).toNat) "lo" "hi"
    k_with "state" => first | exact Mine.brw_start (by omega) (by omega) (by omega) | exact Mine.brw_up (by assumption) (by assumption) (by assumption) (by assumption) (by assumption) (by assumption) (by assumption) | exact Mine.brw_dn (by assumption) (by assumption) (by assumption) (by assumption) (by assumption) (by assumption) (by assumption)
    k_with "measure" => first | exact Mine.mid_up (by omega) (by omega) | exact Mine.mid_dn (by omega) (by omega)
    k_steps
    exact hret _ _ _ _ (Mine.br_done (by assumption) (by assumption) (by assumption) (by assumption) (by assumption)) (by k_asm) (by k_asm)
  intro hBR2
  k_with_none
  refine Mine.with_fn (Str.ofString "bisect_right") Mine.BR4 (by k_asm) (by k_asm) (by k_dflt k_is) ?_ ?_
  · intro l vs ns c x t lo0 t' hi hfit hlo0 hlo1 dp un gd cn cs a ccd cl outer A₀ base h₀ L m news s Q E B F X N T hk hm hd hu hret
    try dsimp only at hm
    refine wpAny_call ?_
    k_dflt (refine' code_def ?k1 ?k2 ?k3 ?k4 ?k5 ?kA ?kF ?kK ?k6 ?k7 ?k8 ?k9 ?kB ?_ ?c2 ?c3 ?c4 ?c5; (case kA => exact rfl); (case kF => exact rfl); (case kK => assumption); (case k1 => k_asm); (case k2 => k_asm); (case k3 => k_asm); (case k4 => k_asm); (case k5 => k_asm); (case k6 => k_is); (case k7 => k_is); (case k8 => ktr_room); (case k9 => (refine' kp_binds ?kx ?ke; (case kx => k_in); (case ke => exact fun _ => rfl))); (case c5 => decide); (case kB => exact locs rfl); (case c2 => exact rfl); (case c3 => exact rfl); (case c4 => exact rfl); k_whole; intro g' L' h' FG' F' N' B' X' T'; (try dsimp only); (try k_lift B'); (try k_fold))
    k_with_none
    k_with "bis while" => k_while (fun _ lo hi => Mine.BRW ns x lo0 ns.length lo hi) (fun _ lo hi => (hi - lo).toNat) "lo" "hi"
    k_with "state" => first | exact Mine.brw_start (by omega) (by omega) (by omega) | exact Mine.brw_up (by assumption) (by assumption) (by assumption) (by assumption) (by assumption) (by assumption) (by assumption) | exact Mine.brw_dn (by assumption) (by assumption) (by assumption) (by assumption) (by assumption) (by assumption) (by assumption)
    k_with "measure" => first | exact Mine.mid_up (by omega) (by omega) | exact Mine.mid_dn (by omega) (by omega)
    k_steps
    exact hret _ _ _ _ (Mine.bro_done (by assumption) (by assumption) (by assumption) (by assumption) (by assumption)) (by k_asm) (by k_asm)
  intro hBR4
  k_with_none
  k_with "pyIter ref" => k_state (fun pre many inside => Mine.W04 pre many inside) "many" "inside"
  k_with "state" => first | exact Mine.w04_start | exact Mine.w04_turn (by assumption) (by assumption) (by assumption) (by assumption) (by assumption) (by assumption) (by assumption) (by assumption) (by assumption) (by assumption)
  k_steps
  k_with_none
  refine Mine.for_C ?_
  k_steps
  rename PySem.Heap.IsList _ _ (List.toArray _) => hScr
  obtain ⟨script, eScr⟩ := Mine.name_ints hScr (by assumption)
  subst eScr
  k_dflt (refine' Mine.rng_cell_int (y := Str.ofString "due") [] (fun i d => d = Mine.invs (script.take i)) ?hh ?hr ?hsm ?hn ?F ?N ?hk ?hx ?hc ?U ?hd ?hy ?p0 ?turn ?done; (case hh => rfl); (case hr => assumption); (case hn => exact rangeSize_nat _ _); (case hsm => exact small_one (by omega) (by omega) (by omega) (by omega)); (case F => k_asm); (case N => k_asm); (case hk => rfl); (case hx => rfl); (case hc => rfl); (case U => k_updF); (case hd => assumption); (case hy => with_unfolding_all rfl); (case p0 => rfl))
  case turn =>
    intro i k tt d td um oC h tk I oI hi hk hp hdC F N off
    try simp only [LCg.Off1, and_true] at off
    try dsimp only at N
    try k_fold
    k_steps
    exact Mine.cendI (by assumption) (by assumption) hdC (by k_mem) (by kst_in) (by with_unfolding_all rfl) (by intro z h1 h2; simp only [if_neg h1, h2, Bool.false_eq_true, if_false]) (Mine.end04 hk hi hp)
  case done =>
    intro d td um oC vC h tk hp hdC F N
    have hd := Mine.take_all hp
    clear hp
    try dsimp only at N
    k_steps
    rw [Mine.dec_sorted (c := script)]
    · k_steps
    all_goals assumption
