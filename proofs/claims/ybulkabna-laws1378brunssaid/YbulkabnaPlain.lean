/-
  Runs of consecutive numbers: the plain laws. No Go in sight.
-/
import Derived.KernelRfl
namespace Go.Proofs.Ybulkabna

/-- One more number, at the end. -/
def step (R : List (Int × Int)) (x : Int) : List (Int × Int) :=
  match R.getLast? with
  | none => [(x, x)]
  | some (f, l) => if x ≤ l + 1 then R.dropLast ++ [(f, max l x)] else R ++ [(x, x)]
def merge (S : List Int) : List (Int × Int) := S.foldl step []

theorem merge_nil : merge [] = [] := rfl
theorem merge_snoc (S : List Int) (x : Int) : merge (S ++ [x]) = step (merge S) x := by simp [merge, List.foldl_append]
theorem step_nil (x : Int) : step [] x = [(x, x)] := rfl
theorem step_in (R0 : List (Int × Int)) (f l x : Int) (h : x ≤ l + 1) : step (R0 ++ [(f, l)]) x = R0 ++ [(f, max l x)] := by simp [step, h]
theorem step_out (R0 : List (Int × Int)) (f l x : Int) (h : ¬ x ≤ l + 1) : step (R0 ++ [(f, l)]) x = R0 ++ [(f, l), (x, x)] := by simp [step, h]

def size (R : List (Int × Int)) : Int := (R.map fun p => p.2 - p.1 + 1).sum
theorem size_app (R Q : List (Int × Int)) : size (R ++ Q) = size R + size Q := by simp [size]
theorem size_one (p : Int × Int) : size [p] = p.2 - p.1 + 1 := by simp [size]

/-- What the runs of a sorted list are. -/
structure Inv (S : List Int) (R : List (Int × Int)) : Prop where
  shape : (S = [] ∧ R = []) ∨ ∃ R0 f l, R = R0 ++ [(f, l)] ∧ l ∈ S ∧ ∀ x ∈ S, x ≤ l
  wf : ∀ p ∈ R, p.1 ≤ p.2
  sep : R.Pairwise fun p q => p.2 + 1 < q.1
  cov : ∀ x ∈ S, ∃ p ∈ R, p.1 ≤ x ∧ x ≤ p.2
  mem : ∀ p ∈ R, ∀ y, p.1 ≤ y → y ≤ p.2 → y ∈ S
  cnt : size R ≤ S.length

theorem Inv.nil : Inv [] [] := ⟨.inl ⟨rfl, rfl⟩, by simp, List.Pairwise.nil, by simp, by simp, by simp [size]⟩

theorem Inv.snoc {S : List Int} {R : List (Int × Int)} (h : Inv S R) {x : Int} (hx : ∀ y ∈ S, y ≤ x) : Inv (S ++ [x]) (step R x) := by
  rcases h.shape with ⟨rfl, rfl⟩ | ⟨R0, f, l, rfl, hl, hmax⟩
  · rw [step_nil]
    refine ⟨.inr ⟨[], x, x, rfl, by simp, by simp⟩, by simp, by simp, by simp, ?_, by simp [size]⟩
    intro p hp y h1 h2
    simp at hp; subst hp
    have : y = x := by simp at h1 h2; omega
    simp [this]
  · have hlx := hx l hl
    have hw := h.wf
    have hsep := h.sep
    rw [List.pairwise_append] at hsep
    obtain ⟨s1, _, s3⟩ := hsep
    by_cases hin : x ≤ l + 1
    · rw [step_in _ _ _ _ hin]
      have hm : max l x = x := by omega
      rw [hm]
      refine ⟨.inr ⟨R0, f, x, rfl, by simp, ?_⟩, ?_, ?_, ?_, ?_, ?_⟩
      · intro y hy
        simp at hy
        rcases hy with hy | rfl
        · exact hx y hy
        · omega
      · intro p hp
        simp at hp
        rcases hp with hp | rfl
        · exact hw p (by simp [hp])
        · have := hw (f, l) (by simp); simp at this; simp; omega
      · rw [List.pairwise_append]
        exact ⟨s1, by simp, fun p hp q hq => by simp at hq; subst hq; exact s3 p hp (f, l) (by simp)⟩
      · intro y hy
        simp at hy
        rcases hy with hy | rfl
        · obtain ⟨p, hp, h1, h2⟩ := h.cov y hy
          simp at hp
          rcases hp with hp | rfl
          · exact ⟨p, by simp [hp], h1, h2⟩
          · exact ⟨(f, x), by simp, h1, by simp at h2 ⊢; omega⟩
        · have := hw (f, l) (by simp)
          exact ⟨(f, y), by simp, by simp at this ⊢; omega, by simp⟩
      · intro p hp y h1 h2
        simp at hp
        rcases hp with hp | rfl
        · have := h.mem p (by simp [hp]) y h1 h2
          simp [this]
        · simp at h1 h2
          by_cases hyl : y ≤ l
          · have := h.mem (f, l) (by simp) y h1 hyl
            simp [this]
          · have : y = x := by omega
            simp [this]
      · have := h.cnt
        rw [size_app, size_one] at this ⊢
        simp at this ⊢
        omega
    · rw [step_out _ _ _ _ hin]
      refine ⟨.inr ⟨R0 ++ [(f, l)], x, x, by simp, by simp, ?_⟩, ?_, ?_, ?_, ?_, ?_⟩
      · intro y hy
        simp at hy
        rcases hy with hy | rfl
        · exact hx y hy
        · omega
      · intro p hp
        simp at hp
        rcases hp with hp | rfl | rfl
        · exact hw p (by simp [hp])
        · exact hw _ (by simp)
        · simp
      · have e : R0 ++ [(f, l), (x, x)] = (R0 ++ [(f, l)]) ++ [(x, x)] := by simp
        rw [e, List.pairwise_append]
        refine ⟨h.sep, by simp, fun p hp q hq => ?_⟩
        simp at hq; subst hq
        simp at hp
        rcases hp with hp | rfl
        · have a := s3 p hp (f, l) (by simp)
          have b := hw (f, l) (by simp)
          simp at a b ⊢; omega
        · simp; omega
      · intro y hy
        simp at hy
        rcases hy with hy | rfl
        · obtain ⟨p, hp, h1, h2⟩ := h.cov y hy
          have hp' : p ∈ R0 ++ [(f, l), (x, x)] := by
            simp at hp ⊢
            rcases hp with hp | hp
            · exact .inl hp
            · exact .inr (.inl hp)
          exact ⟨p, hp', h1, h2⟩
        · exact ⟨(y, y), by simp, by simp, by simp⟩
      · intro p hp y h1 h2
        simp at hp
        rcases hp with hp | rfl | rfl
        · have := h.mem p (by simp [hp]) y h1 h2
          simp [this]
        · have := h.mem (f, l) (by simp) y h1 h2
          simp [this]
        · have : y = x := by simp at h1 h2; omega
          simp [this]
      · have := h.cnt
        have e : R0 ++ [(f, l), (x, x)] = (R0 ++ [(f, l)]) ++ [(x, x)] := by simp
        rw [e, size_app, size_one]
        simp at this ⊢
        omega

/-- Ascending. -/
def Asc (S : List Int) : Prop := ∀ i j, i < j → j < S.length → S.getD i 0 ≤ S.getD j 0

theorem take_snoc {S : List Int} {k : Nat} (h : k < S.length) : S.take (k + 1) = S.take k ++ [S.getD k 0] := by
  rw [List.take_succ_eq_append_getElem h]; simp [List.getD, h]

theorem mem_take {S : List Int} {k : Nat} {y : Int} (h : y ∈ S.take k) : ∃ i, i < k ∧ i < S.length ∧ S.getD i 0 = y := by
  obtain ⟨i, hi, e⟩ := List.mem_iff_getElem.1 h
  simp at hi e
  have h1 : i < k := by omega
  have h2 : i < S.length := by omega
  exact ⟨i, h1, h2, by simp [List.getD, h2, e]⟩

theorem merge_take {S : List Int} {k : Nat} (h : k < S.length) : merge (S.take (k + 1)) = step (merge (S.take k)) (S.getD k 0) := by
  rw [take_snoc h, merge_snoc]

theorem inv_take {S : List Int} (ha : Asc S) : ∀ k, k ≤ S.length → Inv (S.take k) (merge (S.take k))
  | 0, _ => by simpa [merge_nil] using Inv.nil
  | k + 1, hk => by
    rw [merge_take (by omega), take_snoc (by omega)]
    refine (inv_take ha k (by omega)).snoc fun y hy => ?_
    obtain ⟨i, h1, h2, rfl⟩ := mem_take hy
    exact ha i k h1 (by omega)

theorem inv_all {S : List Int} (ha : Asc S) : Inv S (merge S) := by
  have := inv_take ha S.length (Nat.le_refl _)
  simpa using this
end Go.Proofs.Ybulkabna
