import PyProof.Rows.All
import Wide.All
import OpenK.AllK
import Wide.FinOn
import PySem.Challenge.RW_cy0001_05
open PySem PySem.W PyProof.Rows
set_option Elab.async false
set_option linter.unusedVariables false
open PySem PySem.W PyProof.Rows PySem.Spec PySem.Calls
set_option Elab.async false
namespace Mine
/-- the end of a comprehension's test: its bool, and nothing changed but the tokens -/
def TstEnd (P : Bool) (s₀ : Shared) (b : Bool) (s' : Shared) : Prop := b = P ∧ ∃ tk, s' = { s₀ with toks := tk }
/-- between two links of a chain -/
def TstMid (P : Bool) (s₀ : Shared) (K : Prop) (b : Bool) (s' : Shared) : Prop := b = P ∧ (∃ tk, s' = { s₀ with toks := tk }) ∧ K
theorem tst_end {P b : Bool} {s₀ : Shared} {tk : Nat} (e : b = P) : TstEnd P s₀ b { s₀ with toks := tk } := ⟨e, tk, rfl⟩
theorem tst_mid {P b : Bool} {s₀ : Shared} {tk : Nat} {K : Prop} (e : b = P) (k : K) : TstMid P s₀ K b { s₀ with toks := tk } := ⟨e, ⟨tk, rfl⟩, k⟩
theorem tst_link {M : Model} {A : Around} {E : Value → Shared → Prop} {s s₀ : Shared} {a : Value} {op op' : CmpOp} {ops : List CmpOp} {r r' : Sem Value} {rs : List (Sem Value)} {pos : Pos} {p q : Bool}
    (h : wpAny M A r (fun b s₁ => wpAny M A (compareOp op a b) (fun c s₂ => wpAny M A (truthy c)
      (fun t s₃ => TstMid p s₀ (wpAny M A (testChain pos b (op' :: ops) (r' :: rs)) (TstEnd q s₀) E s₃) t s₃) E s₂) E s₁) E s) :
    wpAny M A (testChain pos a (op :: op' :: ops) (r :: r' :: rs)) (TstEnd (p && q) s₀) E s := by
  refine test_link (wpAny_mono h (fun b s₁ h₁ => wpAny_mono h₁ (fun c s₂ h₂ => wpAny_mono h₂ (fun t s₃ h₃ => ?_) fun _ _ e => e) fun _ _ e => e) fun _ _ e => e)
  obtain ⟨e, ⟨tk, es⟩, k⟩ := h₃
  cases t with
  | true =>
    simp only [if_true]
    subst e
    simpa using k
  | false =>
    simp only [Bool.false_eq_true, if_false]
    subst e
    exact ⟨by simp, tk, es⟩
section
variable {prog : Program} {w : World} {A : Around} {h₀ : Heap} {L : Addr} {m : Str → Option Value} {env : Env} {ct elt : Expr} {x : Str} {scope : Scope} {cl : List (Str × Addr)} {s : Shared} {S : List (Addr × Obj) → Prop} {P : Nat → Value → Prop} {Fin : List Value → List (Addr × Obj) → Prop} {news : List (Addr × Obj)}
theorem fold_filter (p : Int → Bool) (g : Int → Int) : ∀ (ks l : List Int), ks.foldl (fun l k => if p k = true then l ++ [g k] else l) l = l ++ (ks.filter p).map g
  | [], l => by simp
  | k :: r, l => by
    rw [List.foldl_cons, fold_filter p g r]
    by_cases h : p k = true
    · simp [h]
    · simp [h]
theorem compT_rest {n : Nat} {ks : List Int} (p : Int → Bool) (g : Int → Int) (hks : ks.length = n) (hP : ∀ i v, i < n → P i v → ∃ k t, ks[i]? = some k ∧ v = .int k t)
    (test : ∀ k t I oI C oC D m₂ ys h tk (E' : Value → Shared → Prop), k ∈ ks → LCg.NsObj oC m₂ → m₂ x = some (.int k t) → Fr h₀ L h m → News h₀ L h ((I, oI) :: (C, oC) :: (D, LCg.lst ys) :: news) → LCg.Off3 I C D news → ((@Ne Nat I C) ∧ (@Ne Nat I D) ∧ (@Ne Nat C D)) → KPfMark →
      wpAny (model prog w) A (isTrue ct (compEnvC scope cl C env) (eval ct (compEnvC scope cl C env))) (TstEnd (p k) { s with heap := h, toks := tk }) E' { s with heap := h, toks := tk })
    (el : ∀ k t I oI C oC D m₂ ys h tk (E' : Value → Shared → Prop), k ∈ ks → p k = true → LCg.NsObj oC m₂ → m₂ x = some (.int k t) → Fr h₀ L h m → News h₀ L h ((I, oI) :: (C, oC) :: (D, LCg.lst ys) :: news) → LCg.Off3 I C D news → ((@Ne Nat I C) ∧ (@Ne Nat I D) ∧ (@Ne Nat C D)) → KPfMark →
      wpAny (model prog w) A (eval elt (compEnvC scope cl C env)) (LCg.CompEnd h₀ L m { s with heap := h, toks := tk } I oI C oC D (LCg.lst ys) S (fun y news' => KCfEl news (g k) y news')) E' { s with heap := h, toks := tk })
    (hS : S news)
    (fin : ∀ ys, IntsAre ys ((ks.filter p).map g) → ((ks.filter p).map g).length ≤ n → Fin ys news) : LCt.CompRestT prog w A h₀ L m env ct elt x scope cl s S P Fin n 0 [] news := by
  refine kci_rest (fun l k => if p k = true then l ++ [g k] else l) hks hP ?_ ?_ ?_
  · intro k t I oI C oC D m₂ ys l h tk E' hk hy hC hx F N off ne mk
    refine wpAny_mono (test k t I oI C oC D m₂ ys h tk E' hk hC hx F N off ne mk) (fun b s' hb => ?_) fun _ _ e => e
    obtain ⟨hb, tk', rfl⟩ := hb
    cases b with
    | true =>
      simp only [if_true]
      refine wpAny_mono (el k t I oI C oC D m₂ ys h tk' E' hk hb.symm hC hx F N off ne mk) (fun y s₃ hr => ?_) fun _ _ e => e
      obtain ⟨h', tk₂, nw, e, F', N', off', hS', hn, t', hy'⟩ := hr
      refine ⟨h', tk₂, nw, e, F', N', off', hS', hn, g k, t', hy', ?_⟩
      simp [hb.symm]
    | false =>
      simp only [Bool.false_eq_true, if_false]
      refine ⟨h, tk', news, rfl, F, N, off, hS, rfl, ?_⟩
      simp [hb.symm]
  · unfold KPfDone
    intro ys hy hl
    rw [fold_filter] at hy
    exact fin ys (by simpa using hy) (by rw [List.length_map, ← hks]; exact List.length_filter_le _ _)
  · intro l k
    dsimp only
    split <;> simp
theorem compT_range {n : Nat} {a : Int} (p : Int → Bool) (g : Int → Int)
    (test : ∀ k t I oI C oC D m₂ ys h tk (E' : Value → Shared → Prop), a ≤ k → k < a + (n : Int) → LCg.NsObj oC m₂ → m₂ x = some (.int k t) → Fr h₀ L h m → News h₀ L h ((I, oI) :: (C, oC) :: (D, LCg.lst ys) :: news) → LCg.Off3 I C D news → ((@Ne Nat I C) ∧ (@Ne Nat I D) ∧ (@Ne Nat C D)) → KPfMark →
      wpAny (model prog w) A (isTrue ct (compEnvC scope cl C env) (eval ct (compEnvC scope cl C env))) (TstEnd (p k) { s with heap := h, toks := tk }) E' { s with heap := h, toks := tk })
    (el : ∀ k t I oI C oC D m₂ ys h tk (E' : Value → Shared → Prop), a ≤ k → k < a + (n : Int) → p k = true → LCg.NsObj oC m₂ → m₂ x = some (.int k t) → Fr h₀ L h m → News h₀ L h ((I, oI) :: (C, oC) :: (D, LCg.lst ys) :: news) → LCg.Off3 I C D news → ((@Ne Nat I C) ∧ (@Ne Nat I D) ∧ (@Ne Nat C D)) → KPfMark →
      wpAny (model prog w) A (eval elt (compEnvC scope cl C env)) (LCg.CompEnd h₀ L m { s with heap := h, toks := tk } I oI C oC D (LCg.lst ys) S (fun y news' => KCfEl news (g k) y news')) E' { s with heap := h, toks := tk })
    (hS : S news)
    (fin : ∀ ys, IntsAre ys (((rangeKs a n).filter p).map g) → (((rangeKs a n).filter p).map g).length ≤ n → Fin ys news) : LCt.CompRestT prog w A h₀ L m env ct elt x scope cl s S (fun i v => ∃ t, v = .int (a + (i : Int)) t) Fin n 0 [] news :=
  compT_rest (ks := rangeKs a n) p g (rangeKs_length a n) (fun i v hi hv => by
    obtain ⟨t, e⟩ := hv
    exact ⟨a + (i : Int), t, by simp [rangeKs, hi], e⟩)
    (fun k t I oI C oC D m₂ ys h tk E' hk hC hx F N off ne mk => test k t I oI C oC D m₂ ys h tk E' (mem_rangeKs hk).1 (mem_rangeKs hk).2 hC hx F N off ne mk)
    (fun k t I oI C oC D m₂ ys h tk E' hk hp hC hx F N off ne mk => el k t I oI C oC D m₂ ys h tk E' (mem_rangeKs hk).1 (mem_rangeKs hk).2 hp hC hx F N off ne mk) hS fin
theorem compT_list {vs : List Value} {ns : List Int} (p : Int → Bool) (g : Int → Int) (hi : IntsAre vs ns)
    (test : ∀ k t I oI C oC D m₂ ys h tk (E' : Value → Shared → Prop), k ∈ ns → LCg.NsObj oC m₂ → m₂ x = some (.int k t) → Fr h₀ L h m → News h₀ L h ((I, oI) :: (C, oC) :: (D, LCg.lst ys) :: news) → LCg.Off3 I C D news → ((@Ne Nat I C) ∧ (@Ne Nat I D) ∧ (@Ne Nat C D)) → KPfMark →
      wpAny (model prog w) A (isTrue ct (compEnvC scope cl C env) (eval ct (compEnvC scope cl C env))) (TstEnd (p k) { s with heap := h, toks := tk }) E' { s with heap := h, toks := tk })
    (el : ∀ k t I oI C oC D m₂ ys h tk (E' : Value → Shared → Prop), k ∈ ns → p k = true → LCg.NsObj oC m₂ → m₂ x = some (.int k t) → Fr h₀ L h m → News h₀ L h ((I, oI) :: (C, oC) :: (D, LCg.lst ys) :: news) → LCg.Off3 I C D news → ((@Ne Nat I C) ∧ (@Ne Nat I D) ∧ (@Ne Nat C D)) → KPfMark →
      wpAny (model prog w) A (eval elt (compEnvC scope cl C env)) (LCg.CompEnd h₀ L m { s with heap := h, toks := tk } I oI C oC D (LCg.lst ys) S (fun y news' => KCfEl news (g k) y news')) E' { s with heap := h, toks := tk })
    (hS : S news)
    (fin : ∀ ys, IntsAre ys ((ns.filter p).map g) → ((ns.filter p).map g).length ≤ ns.length → Fin ys news) : LCt.CompRestT prog w A h₀ L m env ct elt x scope cl s S (fun i v => vs.toArray[i]? = some v) Fin vs.toArray.size 0 [] news :=
  compT_rest (ks := ns) p g (by rw [List.size_toArray]; exact hi.length.symm) (fun i v _ hv => by
    obtain ⟨k, t, e, hk⟩ := IntsAre.at hi i v (by simpa using hv)
    exact ⟨k, t, hk, e⟩) test el hS (fun ys h1 h2 => fin ys h1 (by rw [List.size_toArray, hi.length] at h2; exact h2))
end
end Mine
namespace Mine
section
variable {prog : Program} {w : World} {A : Around} {h₀ : Heap} {L : Addr} {m : Str → Option Value} {env : Env} {ct elt : Expr} {x : Str} {scope : Scope} {cl : List (Str × Addr)} {s : Shared} {S : List (Addr × Obj) → Prop} {P : Nat → Value → Prop} {Fin : List Value → List (Addr × Obj) → Prop} {news : List (Addr × Obj)}
theorem compT_list_and {vs : List Value} {ns : List Int} (p q : Int → Bool) (g : Int → Int) (hi : IntsAre vs ns)
    (test : ∀ k t I oI C oC D m₂ ys h tk (E' : Value → Shared → Prop), k ∈ ns → LCg.NsObj oC m₂ → m₂ x = some (.int k t) → Fr h₀ L h m → News h₀ L h ((I, oI) :: (C, oC) :: (D, LCg.lst ys) :: news) → LCg.Off3 I C D news → ((@Ne Nat I C) ∧ (@Ne Nat I D) ∧ (@Ne Nat C D)) → KPfMark →
      wpAny (model prog w) A (isTrue ct (compEnvC scope cl C env) (eval ct (compEnvC scope cl C env))) (TstEnd (p k && q k) { s with heap := h, toks := tk }) E' { s with heap := h, toks := tk })
    (el : ∀ k t I oI C oC D m₂ ys h tk (E' : Value → Shared → Prop), k ∈ ns → (p k && q k) = true → LCg.NsObj oC m₂ → m₂ x = some (.int k t) → Fr h₀ L h m → News h₀ L h ((I, oI) :: (C, oC) :: (D, LCg.lst ys) :: news) → LCg.Off3 I C D news → ((@Ne Nat I C) ∧ (@Ne Nat I D) ∧ (@Ne Nat C D)) → KPfMark →
      wpAny (model prog w) A (eval elt (compEnvC scope cl C env)) (LCg.CompEnd h₀ L m { s with heap := h, toks := tk } I oI C oC D (LCg.lst ys) S (fun y news' => KCfEl news (g k) y news')) E' { s with heap := h, toks := tk })
    (hS : S news)
    (fin : ∀ ys, IntsAre ys ((ns.filter (fun k => p k && q k)).map g) → ((ns.filter (fun k => p k && q k)).map g).length ≤ ns.length → Fin ys news) : LCt.CompRestT prog w A h₀ L m env ct elt x scope cl s S (fun i v => vs.toArray[i]? = some v) Fin vs.toArray.size 0 [] news :=
  compT_list (fun k => p k && q k) g hi test el hS fin
end
end Mine
open PySem PySem.W PyProof.Rows PySem.Spec PySem.Calls
set_option Elab.async false
namespace Mine
/-- what bisect_left's loop knows: behind lo₀ all below lo are less than x, from hi on up to hi₀ none is -/
def BL (a : List Int) (x lo₀ hi₀ lo hi : Int) : Prop :=
  a.Pairwise (· ≤ ·) → (∀ j : Nat, lo₀ ≤ (j : Int) → (j : Int) < lo → a.getD j 0 < x) ∧ ∀ j : Nat, hi ≤ (j : Int) → (j : Int) < hi₀ → x ≤ a.getD j 0
def BR (a : List Int) (x lo₀ hi₀ lo hi : Int) : Prop :=
  a.Pairwise (· ≤ ·) → (∀ j : Nat, lo₀ ≤ (j : Int) → (j : Int) < lo → a.getD j 0 ≤ x) ∧ ∀ j : Nat, hi ≤ (j : Int) → (j : Int) < hi₀ → x < a.getD j 0
theorem getD_mono {a : List Int} (h : a.Pairwise (· ≤ ·)) {i j : Nat} (hij : i ≤ j) (hj : j < a.length) : a.getD i 0 ≤ a.getD j 0 := by
  have hi : i < a.length := Nat.lt_of_le_of_lt hij hj
  simp only [List.getD_eq_getElem?_getD, List.getElem?_eq_getElem hi, List.getElem?_eq_getElem hj, Option.getD_some]
  rcases Nat.eq_or_lt_of_le hij with e | e
  · subst e; exact Int.le_refl _
  · exact List.pairwise_iff_getElem.mp h i j hi hj e
theorem bl_start {a : List Int} {x lo hi : Int} : BL a x lo hi lo hi := fun _ => ⟨fun j h1 h2 => by omega, fun j h1 h2 => by omega⟩
theorem br_start {a : List Int} {x lo hi : Int} : BR a x lo hi lo hi := fun _ => ⟨fun j h1 h2 => by omega, fun j h1 h2 => by omega⟩
theorem bl_up {a : List Int} {x lo₀ hi₀ lo hi mid : Int} (h : BL a x lo₀ hi₀ lo hi) (h0 : 0 ≤ mid) (hm : mid < a.length) (ht : a.getD mid.toNat 0 < x) : BL a x lo₀ hi₀ (mid + 1) hi := fun hs =>
  ⟨fun j _ h2 => Int.lt_of_le_of_lt (getD_mono hs (by omega) (by omega)) ht, (h hs).2⟩
theorem bl_dn {a : List Int} {x lo₀ hi₀ lo hi mid : Int} (h : BL a x lo₀ hi₀ lo hi) (h0 : 0 ≤ mid) (hm : hi₀ ≤ a.length) (ht : ¬ a.getD mid.toNat 0 < x) : BL a x lo₀ hi₀ lo mid := fun hs =>
  ⟨(h hs).1, fun j h1 h2 => Int.le_trans (Int.not_lt.mp ht) (getD_mono hs (by omega) (by omega))⟩
theorem br_dn {a : List Int} {x lo₀ hi₀ lo hi mid : Int} (h : BR a x lo₀ hi₀ lo hi) (h0 : 0 ≤ mid) (hm : hi₀ ≤ a.length) (ht : x < a.getD mid.toNat 0) : BR a x lo₀ hi₀ lo mid := fun hs =>
  ⟨(h hs).1, fun j h1 h2 => Int.lt_of_lt_of_le ht (getD_mono hs (by omega) (by omega))⟩
theorem br_up {a : List Int} {x lo₀ hi₀ lo hi mid : Int} (h : BR a x lo₀ hi₀ lo hi) (h0 : 0 ≤ mid) (hm : mid < a.length) (ht : ¬ x < a.getD mid.toNat 0) : BR a x lo₀ hi₀ (mid + 1) hi := fun hs =>
  ⟨fun j _ h2 => Int.le_trans (getD_mono hs (by omega) (by omega)) (Int.not_lt.mp ht), (h hs).2⟩
end Mine
namespace Mine
theorem mid_is {lo hi : Int} (h : 0 ≤ lo) (h' : lo ≤ hi) : (lo + hi).fdiv 2 = (lo + hi) / 2 := Int.fdiv_eq_ediv_of_nonneg _ (by omega)
theorem mid_0 {lo hi : Int} (h : 0 ≤ lo) (h' : lo ≤ hi) : 0 ≤ (lo + hi).fdiv 2 := by rw [mid_is h h']; omega
theorem mid_n {lo hi n : Int} (h : 0 ≤ lo) (h' : lo < hi) (hn : hi ≤ n) : (lo + hi).fdiv 2 < n := by rw [mid_is h (by omega)]; omega
theorem mid_ge {lo hi : Int} (h : 0 ≤ lo) (h' : lo ≤ hi) : lo ≤ (lo + hi).fdiv 2 := by rw [mid_is h (by omega)]; omega
theorem mid_up {lo hi : Int} (h : 0 ≤ lo) (h' : lo < hi) : (hi - ((lo + hi).fdiv 2 + 1)).toNat < (hi - lo).toNat := by rw [mid_is h (by omega)]; omega
theorem mid_dn {lo hi : Int} (h : 0 ≤ lo) (h' : lo < hi) : ((lo + hi).fdiv 2 - lo).toNat < (hi - lo).toNat := by rw [mid_is h (by omega)]; omega
/-- the loop of bisect_left, its word: lo₀ and hi₀ are where it began -/
abbrev BLW (ns : List Int) (x lo₀ hi₀ lo hi : Int) : Prop := 0 ≤ lo₀ ∧ lo₀ ≤ lo ∧ lo ≤ hi ∧ hi ≤ hi₀ ∧ hi₀ ≤ (ns.length : Int) ∧ BL ns x lo₀ hi₀ lo hi
abbrev BRW (ns : List Int) (x lo₀ hi₀ lo hi : Int) : Prop := 0 ≤ lo₀ ∧ lo₀ ≤ lo ∧ lo ≤ hi ∧ hi ≤ hi₀ ∧ hi₀ ≤ (ns.length : Int) ∧ BR ns x lo₀ hi₀ lo hi
theorem blw_start {ns : List Int} {x lo₀ hi₀ : Int} (h0 : 0 ≤ lo₀) (h1 : lo₀ ≤ hi₀) (h2 : hi₀ ≤ (ns.length : Int)) : BLW ns x lo₀ hi₀ lo₀ hi₀ := ⟨h0, Int.le_refl _, h1, Int.le_refl _, h2, bl_start⟩
theorem brw_start {ns : List Int} {x lo₀ hi₀ : Int} (h0 : 0 ≤ lo₀) (h1 : lo₀ ≤ hi₀) (h2 : hi₀ ≤ (ns.length : Int)) : BRW ns x lo₀ hi₀ lo₀ hi₀ := ⟨h0, Int.le_refl _, h1, Int.le_refl _, h2, br_start⟩
theorem blw_up {ns : List Int} {x lo₀ hi₀ lo hi : Int} (h0 : 0 ≤ lo₀) (h1 : lo₀ ≤ lo) (h3 : hi ≤ hi₀) (h4 : hi₀ ≤ (ns.length : Int)) (b : BL ns x lo₀ hi₀ lo hi) (hlt : lo < hi) (ht : ns.getD ((lo + hi).fdiv 2).toNat 0 < x) : BLW ns x lo₀ hi₀ ((lo + hi).fdiv 2 + 1) hi := by
  have m0 := mid_0 (lo := lo) (hi := hi) (by omega) (by omega)
  have m1 := mid_ge (lo := lo) (hi := hi) (by omega) (by omega)
  have m2 := mid_n (lo := lo) (hi := hi) (n := hi) (by omega) (by omega) (Int.le_refl _)
  exact ⟨h0, by omega, by omega, h3, h4, bl_up b m0 (by omega) ht⟩
theorem blw_dn {ns : List Int} {x lo₀ hi₀ lo hi : Int} (h0 : 0 ≤ lo₀) (h1 : lo₀ ≤ lo) (h3 : hi ≤ hi₀) (h4 : hi₀ ≤ (ns.length : Int)) (b : BL ns x lo₀ hi₀ lo hi) (hlt : lo < hi) (ht : ¬ ns.getD ((lo + hi).fdiv 2).toNat 0 < x) : BLW ns x lo₀ hi₀ lo ((lo + hi).fdiv 2) := by
  have m0 := mid_0 (lo := lo) (hi := hi) (by omega) (by omega)
  have m1 := mid_ge (lo := lo) (hi := hi) (by omega) (by omega)
  have m2 := mid_n (lo := lo) (hi := hi) (n := hi) (by omega) (by omega) (Int.le_refl _)
  exact ⟨h0, h1, m1, by omega, h4, bl_dn b m0 h4 ht⟩
theorem brw_dn {ns : List Int} {x lo₀ hi₀ lo hi : Int} (h0 : 0 ≤ lo₀) (h1 : lo₀ ≤ lo) (h3 : hi ≤ hi₀) (h4 : hi₀ ≤ (ns.length : Int)) (b : BR ns x lo₀ hi₀ lo hi) (hlt : lo < hi) (ht : x < ns.getD ((lo + hi).fdiv 2).toNat 0) : BRW ns x lo₀ hi₀ lo ((lo + hi).fdiv 2) := by
  have m0 := mid_0 (lo := lo) (hi := hi) (by omega) (by omega)
  have m1 := mid_ge (lo := lo) (hi := hi) (by omega) (by omega)
  have m2 := mid_n (lo := lo) (hi := hi) (n := hi) (by omega) (by omega) (Int.le_refl _)
  exact ⟨h0, h1, m1, by omega, h4, br_dn b m0 h4 ht⟩
theorem brw_up {ns : List Int} {x lo₀ hi₀ lo hi : Int} (h0 : 0 ≤ lo₀) (h1 : lo₀ ≤ lo) (h3 : hi ≤ hi₀) (h4 : hi₀ ≤ (ns.length : Int)) (b : BR ns x lo₀ hi₀ lo hi) (hlt : lo < hi) (ht : ¬ x < ns.getD ((lo + hi).fdiv 2).toNat 0) : BRW ns x lo₀ hi₀ ((lo + hi).fdiv 2 + 1) hi := by
  have m0 := mid_0 (lo := lo) (hi := hi) (by omega) (by omega)
  have m1 := mid_ge (lo := lo) (hi := hi) (by omega) (by omega)
  have m2 := mid_n (lo := lo) (hi := hi) (n := hi) (by omega) (by omega) (Int.le_refl _)
  exact ⟨h0, by omega, by omega, h3, h4, br_up b m0 (by omega) ht⟩
end Mine
open PySem PySem.W PyProof.Rows PySem.Spec PySem.Calls
set_option Elab.async false
namespace Mine
section
variable {prog : Program} {w : World} {A : Around} {E : Value → Shared → Prop} {s : Shared} {h₀ : Heap} {L : Addr} {news : List (Addr × Obj)}
theorem led_list {l : Addr} {vs : List Value} {c : Nat} {h : Heap} (N : News h₀ L h news) (hm : (l, W.listOf vs.toArray c) ∈ news) : h.IsList l vs.toArray := ⟨_, (N _ hm).1, rfl, c, rfl⟩
theorem len_led {l : Addr} {vs : List Value} {ns : List Int} {c : Nat} {Q : Value → Shared → Prop} (N : News h₀ L s.heap news) (hm : (l, W.listOf vs.toArray c) ∈ news) (hi : IntsAre vs ns) (hfit : ns.length < 2 ^ 62)
    (h : Q (.int (ns.length : Nat) (s.toks + 1)) { s with toks := s.toks + 1 + 1 }) : wpAny (model prog w) A (call (.builtin "len") [.ref l]) Q E s := len_ints_fit (led_list N hm) hi hfit h
theorem item_led {value slice : Expr} {l : Addr} {vs : List Value} {ns : List Int} {c : Nat} {k : Int} {u : Tok} {Q : Value → Shared → Prop} (N : News h₀ L s.heap news) (hm : (l, W.listOf vs.toArray c) ∈ news) (hi : IntsAre vs ns)
    (h0 : 0 ≤ k) (h1 : k < ns.length) (hfit : k < 2 ^ 63) (h : ∀ t, Q (.int (ns.getD k.toNat 0) t) s)
    (hs : subscripted slice false (.ref l) (.int k u) = operate [.ref l, .int k u] (getItem (.ref l) (.int k u)) := by with_unfolding_all rfl) (hg : ∀ r, letTemporaryGo value (.ref l) r = pure () := by intro _; with_unfolding_all rfl) :
    wpAny (model prog w) A (subscriptTail value slice (.ref l) (.int k u)) Q E s := item_list_ints (led_list N hm) hi h0 h1 hfit h hs hg
end
/-- what a def called with these arguments hands back: an int of which post is true; the frame and the ledger stand -/
def Tells (prog : Program) (w : World) (K : Frag) (p : Program) (loose : List Str) (mean : ExcName → Option Value) (mg mb : Str → Option Value) (f : Addr) (args : List Value) (pre : List (Addr × Obj) → Prop) (post : Int → Prop) : Prop :=
  ∀ (dp un : Nat) (gd : Option (List Code)) (cn : Str) (cs : Scope) (a : Addr) (ccd : Value) (cl : List (Str × Addr)) (outer : List Env) (A₀ : Around) (base h₀ : Heap) (L : Addr) (m : Str → Option Value) (news : List (Addr × Obj)) (s : Shared) (Q E : Value → Shared → Prop),
    Below A₀ base outer h₀ → Fr h₀ L s.heap m → K.In h₀ → News h₀ L s.heap news → Top p loose mean mg mb h₀ → cs.kind = .function → pre news → dp + 1 < recursionLimit → un + 8 < cLine →
    (∀ k t h' tk', post k → Fr h₀ L h' m → News h₀ L h' news → Q (.int k t) { s with heap := h', toks := tk' }) →
    wpAny (model prog w) (ktrTop dp un gd cn cs L a ccd cl outer) (call (.ref f) args) Q E s
/-- bisect_left(a, x) -/
def BL2 (prog : Program) (w : World) (K : Frag) (p : Program) (loose : List Str) (mean : ExcName → Option Value) (mg mb : Str → Option Value) (f : Addr) : Prop :=
  ∀ (l : Addr) (vs : List Value) (ns : List Int) (c : Nat) (x : Int) (t : Tok), IntsAre vs ns → ns.length < 2 ^ 62 →
    Tells prog w K p loose mean mg mb f [.ref l, .int x t] (fun news => (l, W.listOf vs.toArray c) ∈ news) (fun k => 0 ≤ k ∧ k ≤ ns.length ∧ BL ns x 0 ns.length k k)
def BR2 (prog : Program) (w : World) (K : Frag) (p : Program) (loose : List Str) (mean : ExcName → Option Value) (mg mb : Str → Option Value) (f : Addr) : Prop :=
  ∀ (l : Addr) (vs : List Value) (ns : List Int) (c : Nat) (x : Int) (t : Tok), IntsAre vs ns → ns.length < 2 ^ 62 →
    Tells prog w K p loose mean mg mb f [.ref l, .int x t] (fun news => (l, W.listOf vs.toArray c) ∈ news) (fun k => 0 ≤ k ∧ k ≤ ns.length ∧ BR ns x 0 ns.length k k)
theorem with_fn {prog : Program} {w : World} {A : Around} {t : Sem Flow} {Q : Flow → Shared → Prop} {E : Value → Shared → Prop} {s : Shared} {K : Frag} {p : Program} {loose : List Str} {mean : ExcName → Option Value} {mg mb : Str → Option Value} {h : Heap} {f : Addr} (name : Str)
    (C : Program → World → Frag → Program → List Str → (ExcName → Option Value) → (Str → Option Value) → (Str → Option Value) → Addr → Prop) (X : K.In h) (T : Top p loose mean mg mb h) (hf : nsIn K mainGlobals name = some (some (.ref f)))
    (prove : C prog w K p loose mean mg mb f) (use : C prog w K p loose mean mg mb f → wpAny (model prog w) A t Q E s) : wpAny (model prog w) A t Q E s := use prove
end Mine
namespace Mine
section
variable {prog : Program} {w : World} {K : Frag} {p : Program} {loose : List Str} {mean : ExcName → Option Value} {mg mb : Str → Option Value} {f : Addr} {dp un : Nat} {gd : Option (List Code)} {cn : Str} {cs : Scope} {a : Addr} {ccd : Value} {cl : List (Str × Addr)} {outer : List Env} {A₀ : Around} {base h₀ : Heap} {L : Addr} {m : Str → Option Value} {news : List (Addr × Obj)} {s : Shared} {l : Addr} {vs : List Value} {ns : List Int} {c : Nat} {x : Int} {t : Tok} {Q E : Value → Shared → Prop}
theorem bl2_use (C : BL2 prog w K p loose mean mg mb f) (B : Below A₀ base outer h₀) (F : Fr h₀ L s.heap m) (X : K.In h₀) (N : News h₀ L s.heap news) (T : Top p loose mean mg mb h₀) (hk : cs.kind = .function) (hm : (l, W.listOf vs.toArray c) ∈ news) (hi : IntsAre vs ns) (hfit : ns.length < 2 ^ 62) (hd : dp + 1 < recursionLimit) (hu : un + 8 < cLine)
    (ret : ∀ (k : Int) t h' tk', 0 ≤ k → k ≤ ns.length → BL ns x 0 ns.length k k → Fr h₀ L h' m → News h₀ L h' news → Q (.int k t) { s with heap := h', toks := tk' }) :
    wpAny (model prog w) (ktrTop dp un gd cn cs L a ccd cl outer) (call (.ref f) [.ref l, .int x t]) Q E s :=
  C l vs ns c x t hi hfit _ _ _ _ _ _ _ _ _ _ _ _ _ _ _ _ _ _ B F X N T hk hm hd hu fun k t h' tk' h F' N' => ret k t h' tk' h.1 h.2.1 h.2.2 F' N'
theorem br2_use (C : BR2 prog w K p loose mean mg mb f) (B : Below A₀ base outer h₀) (F : Fr h₀ L s.heap m) (X : K.In h₀) (N : News h₀ L s.heap news) (T : Top p loose mean mg mb h₀) (hk : cs.kind = .function) (hm : (l, W.listOf vs.toArray c) ∈ news) (hi : IntsAre vs ns) (hfit : ns.length < 2 ^ 62) (hd : dp + 1 < recursionLimit) (hu : un + 8 < cLine)
    (ret : ∀ (k : Int) t h' tk', 0 ≤ k → k ≤ ns.length → BR ns x 0 ns.length k k → Fr h₀ L h' m → News h₀ L h' news → Q (.int k t) { s with heap := h', toks := tk' }) :
    wpAny (model prog w) (ktrTop dp un gd cn cs L a ccd cl outer) (call (.ref f) [.ref l, .int x t]) Q E s :=
  C l vs ns c x t hi hfit _ _ _ _ _ _ _ _ _ _ _ _ _ _ _ _ _ _ B F X N T hk hm hd hu fun k t h' tk' h F' N' => ret k t h' tk' h.1 h.2.1 h.2.2 F' N'
theorem bl_done {lo hi : Int} (h0 : 0 ≤ lo) (h1 : lo ≤ hi) (h2 : hi ≤ (ns.length : Int)) (b : BL ns x 0 ns.length lo hi) (h : ¬ lo < hi) : 0 ≤ lo ∧ lo ≤ (ns.length : Int) ∧ BL ns x 0 ns.length lo lo := by
  have e : hi = lo := by omega
  subst e
  exact ⟨h0, h2, b⟩
theorem br_done {lo hi : Int} (h0 : 0 ≤ lo) (h1 : lo ≤ hi) (h2 : hi ≤ (ns.length : Int)) (b : BR ns x 0 ns.length lo hi) (h : ¬ lo < hi) : 0 ≤ lo ∧ lo ≤ (ns.length : Int) ∧ BR ns x 0 ns.length lo lo := by
  have e : hi = lo := by omega
  subst e
  exact ⟨h0, h2, b⟩
end
end Mine
open PySem PySem.W PyProof.Rows PySem.Spec PySem.Calls
set_option Elab.async false
namespace Mine
theorem filter_split {ns : List Int} {k : Nat} {p : Int → Bool} (hk : k ≤ ns.length) (h1 : ∀ j : Nat, j < k → p (ns.getD j 0) = true) (h2 : ∀ j : Nat, k ≤ j → j < ns.length → p (ns.getD j 0) = false) : (ns.filter p).length = k := by
  have e : ns = ns.take k ++ ns.drop k := (List.take_append_drop k ns).symm
  have a1 : (ns.take k).filter p = ns.take k := List.filter_eq_self.mpr fun y hy => by
    obtain ⟨j, hj, rfl⟩ := List.mem_iff_getElem.mp hy
    have hj' : j < k := by rw [List.length_take] at hj; omega
    have := h1 j hj'
    have hl : j < ns.length := by omega
    simp only [List.getD_eq_getElem?_getD, List.getElem?_eq_getElem hl, Option.getD_some] at this
    rw [List.getElem_take]; exact this
  have a2 : (ns.drop k).filter p = [] := List.filter_eq_nil_iff.mpr fun y hy => by
    obtain ⟨j, hj, rfl⟩ := List.mem_iff_getElem.mp hy
    rw [List.length_drop] at hj
    have hl : k + j < ns.length := by omega
    have := h2 (k + j) (by omega) hl
    simp only [List.getD_eq_getElem?_getD, List.getElem?_eq_getElem hl, Option.getD_some] at this
    rw [List.getElem_drop]; simp [this]
  rw [e, List.filter_append, a1, a2, List.append_nil, List.length_take]
  omega
theorem bl_count {ns : List Int} {x k : Int} (hs : ns.Pairwise (· ≤ ·)) (h0 : 0 ≤ k) (h1 : k ≤ (ns.length : Int)) (b : BL ns x 0 ns.length k k) : k = ((ns.filter (fun y => decide (y < x))).length : Int) := by
  obtain ⟨b1, b2⟩ := b hs
  have := filter_split (ns := ns) (k := k.toNat) (p := fun y => decide (y < x)) (by omega) (fun j hj => by simpa using b1 j (by omega) (by omega)) (fun j h hj => by simpa using b2 j (by omega) (by omega))
  omega
theorem br_count {ns : List Int} {x k : Int} (hs : ns.Pairwise (· ≤ ·)) (h0 : 0 ≤ k) (h1 : k ≤ (ns.length : Int)) (b : BR ns x 0 ns.length k k) : k = ((ns.filter (fun y => decide (y ≤ x))).length : Int) := by
  obtain ⟨b1, b2⟩ := b hs
  have := filter_split (ns := ns) (k := k.toNat) (p := fun y => decide (y ≤ x)) (by omega) (fun j hj => by simpa using b1 j (by omega) (by omega)) (fun j h hj => by simpa using b2 j (by omega) (by omega))
  omega
theorem count05 (lo hi : Int) : ∀ ns : List Int, ((ns.filter (fun y => decide (y ≤ hi))).length : Int) - (ns.filter (fun y => decide (y < lo))).length
    = ((ns.filter (fun k => decide (lo ≤ k) && decide (k ≤ hi))).length : Int) - (ns.filter (fun k => decide (hi < k) && decide (k < lo))).length
  | [] => by simp
  | a :: r => by
    have ih := count05 lo hi r
    simp only [List.filter_cons]
    by_cases h1 : a ≤ hi <;> by_cases h2 : a < lo <;> simp [h1, h2, show (lo ≤ a) = ¬ (a < lo) from by simp, show (hi < a) = ¬ (a ≤ hi) from by simp] <;> omega
theorem end05 {ns : List Int} {lo hi kl kr : Int} (hs : ns.Pairwise (· ≤ ·)) (r0 : 0 ≤ kr) (r1 : kr ≤ (ns.length : Int)) (hr : BR ns hi 0 ns.length kr kr) (l0 : 0 ≤ kl) (l1 : kl ≤ (ns.length : Int)) (hl : BL ns lo 0 ns.length kl kl) :
    (kr - kl == ((List.map (fun k => k) (ns.filter (fun k => decide (lo ≤ k) && decide (k ≤ hi)))).length : Int) - ((List.map (fun k => k) (ns.filter (fun k => decide (hi < k) && decide (k < lo)))).length : Int)) = true := by
  rw [beq_iff_eq, List.length_map, List.length_map, br_count hs r0 r1 hr, bl_count hs l0 l1 hl]
  exact count05 lo hi ns
end Mine
namespace Mine
set_option maxRecDepth 100000 in
set_option maxHeartbeats 8000000 in
open_top hd05 for PySem.Challenge.rw_cy0001_05
end Mine
local macro_rules | `(tactic| walk_at "eval ListComp") => `(tactic| (k_here; lct_look; k_dflt (refine LCt.ListComp_T (F₀ := by k_asm) (by with_unfolding_all rfl) (by decide) (by rfl) (by decide) (by rfl) ?_)))
local macro_rules | `(tactic| walk_at "CompSrcT") => `(tactic| (k_here; k_dflt (refine LCt.CompSrcT.ledger (by rfl) (by k_asm) (by k_asm) (by k_mem) (by kcf_size) ?_; intro g'; (refine' Mine.compT_list_and _ _ _ (by first | assumption | l_ints) (fun k' t' I' oI' C' oC' D' m' ys' h' tk' E' hk' hC' hx' F' N' off' ne' hM' => ?_) (fun k' t' I' oI' C' oC' D' m' ys' h' tk' E' hk' hp' hC' hx' F' N' off' ne' hM' => ?_) (by lcg_src) ?_); (all_goals (try (simp only [LCg.Off3, and_true] at off'))); kcf_last)))
local macro_rules | `(tactic| walk_at "TstEnd") => `(tactic| (refine Mine.tst_end ?_; with_unfolding_all rfl))
local macro_rules | `(tactic| walk_at "TstMid") => `(tactic| (refine Mine.tst_mid (by with_unfolding_all rfl) ?_))
local macro_rules | `(tactic| walk_at "testChain") => `(tactic| (with_unfolding_all refine Mine.tst_link ?_))
local macro_rules | `(tactic| walk_at "call builtin:len") => `(tactic| (k_here; (with_reducible show wpAny _ _ (call (Value.builtin "len") [Value.ref _]) _ _ _); k_dflt (refine' Mine.len_led ?k1 ?k2 ?k3 ?k4 ?_; (case k1 => k_asm); (case k2 => first | assumption | k_mem); (case k3 => assumption); (case k4 => omega)); k_whole))
local macro_rules | `(tactic| walk_at "subscriptTail Name Name ref int") => `(tactic| (k_here; (with_reducible show wpAny _ _ (subscriptTail _ _ (Value.ref _) (Value.int _ _)) _ _ _); k_dflt (refine' Mine.item_led ?k1 ?k2 ?k3 ?k4 ?k5 ?k6 ?_; (case k1 => k_asm); (case k2 => first | assumption | k_mem); (case k3 => assumption); (case k4 => first | omega | exact Mine.mid_0 (by omega) (by omega)); (case k5 => first | omega | exact Mine.mid_n (by omega) (by omega) (by omega)); (case k6 => first | omega | exact Mine.mid_n (by omega) (by omega) (by omega))); k_whole; intro _))
local macro_rules | `(tactic| walk_at "exec While Compare cons nil") => `(tactic| k_extra "bis while")
local macro_rules | `(tactic| walk_at "call ref") => `(tactic| (k_here; k_dflt (first
  | (refine' Mine.bl2_use ?kC ?kB ?kF ?kX ?kN ?kT ?kK ?km ?ki ?kf ?kd ?ku ?_; (case kC => assumption); (case kB => k_asm); (case kF => k_asm); (case kX => k_asm); (case kN => k_asm); (case kT => k_asm); (case kK => first | exact rfl | assumption); (case km => first | assumption | k_mem); (case ki => assumption); (case kf => omega); (case kd => ktr_room); (case ku => ktr_units))
  | (refine' Mine.br2_use ?kC ?kB ?kF ?kX ?kN ?kT ?kK ?km ?ki ?kf ?kd ?ku ?_; (case kC => assumption); (case kB => k_asm); (case kF => k_asm); (case kX => k_asm); (case kN => k_asm); (case kT => k_asm); (case kK => first | exact rfl | assumption); (case km => first | assumption | k_mem); (case ki => assumption); (case kf => omega); (case kd => ktr_room); (case ku => ktr_units))); k_whole; intro k' t' h' tk' hb0' hb1' hB' F' N'; (try dsimp only); (try k_fold)))
set_option maxRecDepth 100000 in
set_option maxHeartbeats 16000000 in
theorem PySem.Challenge.cw_cy0001_05_holds : PySem.Challenge.rw_cy0001_05.Holds := by
  refine Mine.hd05 ?_
  k_go0
  all_goals try k_fold
  refine Mine.with_fn (Str.ofString "bisect_left") Mine.BL2 (by k_asm) (by k_asm) (by k_dflt k_is) ?_ ?_
  · intro l vs ns c x t hi hfit dp un gd cn cs a ccd cl outer A₀ base h₀ L m news s Q E B F X N T hk hm hd hu hret
    try dsimp only at hm
    refine wpAny_call ?_
    k_dflt (refine' code_def ?k1 ?k2 ?k3 ?k4 ?k5 ?kA ?kF ?kK ?k6 ?k7 ?k8 ?k9 ?kB ?_ ?c2 ?c3 ?c4 ?c5; (case kA => exact rfl); (case kF => exact rfl); (case kK => assumption); (case k1 => k_asm); (case k2 => k_asm); (case k3 => k_asm); (case k4 => k_asm); (case k5 => k_asm); (case k6 => k_is); (case k7 => k_is); (case k8 => ktr_room); (case k9 => (refine' kp_binds ?kx ?ke; (case kx => k_in); (case ke => exact fun _ => rfl))); (case c5 => decide); (case kB => exact locs rfl); (case c2 => exact rfl); (case c3 => exact rfl); (case c4 => exact rfl); k_whole; intro g' L' h' FG' F' N' B' X' T'; (try dsimp only); (try k_lift B'); (try k_fold))
    k_with_none
    k_with "bis while" => k_while (fun _ lo hi => Mine.BLW ns x 0 ns.length lo hi) (fun _ lo hi => (hi - lo).toNat) "lo" "hi"
    k_with "state" => first | exact Mine.blw_start (by omega) (by omega) (by omega) | exact Mine.blw_up (by assumption) (by assumption) (by assumption) (by assumption) (by assumption) (by assumption) (by assumption) | exact Mine.blw_dn (by assumption) (by assumption) (by assumption) (by assumption) (by assumption) (by assumption) (by assumption)
    k_with "measure" => first | exact Mine.mid_up (by omega) (by omega) | exact Mine.mid_dn (by omega) (by omega)
    k_steps
    exact hret _ _ _ _ (Mine.bl_done (by assumption) (by assumption) (by assumption) (by assumption) (by assumption)) (by k_asm) (by k_asm)
  intro hBL2
  k_with_none
  refine Mine.with_fn (Str.ofString "bisect_right") Mine.BR2 (by k_asm) (by k_asm) (by k_dflt k_is) ?_ ?_
  · intro l vs ns c x t hi hfit dp un gd cn cs a ccd cl outer A₀ base h₀ L m news s Q E B F X N T hk hm hd hu hret
    try dsimp only at hm
    refine wpAny_call ?_
    k_dflt (refine' code_def ?k1 ?k2 ?k3 ?k4 ?k5 ?kA ?kF ?kK ?k6 ?k7 ?k8 ?k9 ?kB ?_ ?c2 ?c3 ?c4 ?c5; (case kA => exact rfl); (case kF => exact rfl); (case kK => assumption); (case k1 => k_asm); (case k2 => k_asm); (case k3 => k_asm); (case k4 => k_asm); (case k5 => k_asm); (case k6 => k_is); (case k7 => k_is); (case k8 => ktr_room); (case k9 => (refine' kp_binds ?kx ?ke; (case kx => k_in); (case ke => exact fun _ => rfl))); (case c5 => decide); (case kB => exact locs rfl); (case c2 => exact rfl); (case c3 => exact rfl); (case c4 => exact rfl); k_whole; intro g' L' h' FG' F' N' B' X' T'; (try dsimp only); (try k_lift B'); (try k_fold))
    k_with_none
    k_with "bis while" => k_while (fun _ lo hi => Mine.BRW ns x 0 ns.length lo hi) (fun _ lo hi => (hi - lo).toNat) "lo" "hi"
    k_with "state" => first | exact Mine.brw_start (by omega) (by omega) (by omega) | exact Mine.brw_up (by assumption) (by assumption) (by assumption) (by assumption) (by assumption) (by assumption) (by assumption) | exact Mine.brw_dn (by assumption) (by assumption) (by assumption) (by assumption) (by assumption) (by assumption) (by assumption)
    k_with "measure" => first | exact Mine.mid_up (by omega) (by omega) | exact Mine.mid_dn (by omega) (by omega)
    k_steps
    exact hret _ _ _ _ (Mine.br_done (by assumption) (by assumption) (by assumption) (by assumption) (by assumption)) (by k_asm) (by k_asm)
  intro hBR2
  k_with_none
  k_steps
  rw [Mine.end05 (by assumption) (by assumption) (by assumption) (by assumption) (by assumption) (by assumption) (by assumption)]
  k_steps
