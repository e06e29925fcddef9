import Derived.Test.YbulkxfoSymAll
namespace Go.Proofs.Ybulkxfo
open Go.Sort
variable {α : Type} [Inhabited α]
set_option linter.unusedSectionVars false

/-- Each block of bs elements is ascending. -/
def Blk (lt : α → α → Bool) (bs n : Nat) (d : Array α) : Prop := ∀ u, SortedIn lt (u * bs) (min (u * bs + bs) n) d
/-- The first t blocks of 20 are ascending. -/
def Ins (lt : α → α → Bool) (t : Nat) (d : Array α) : Prop := ∀ u, u < t → SortedIn lt (u * 20) (u * 20 + 20) d
/-- The first t blocks of 2 bs are ascending; behind them each block of bs. -/
def Mix (lt : α → α → Bool) (bs n t : Nat) (d : Array α) : Prop := (∀ u, u < t → SortedIn lt (u * (2 * bs)) (u * (2 * bs) + 2 * bs) d) ∧ ∀ u, 2 * t ≤ u → SortedIn lt (u * bs) (min (u * bs + bs) n) d

theorem sorted_mono {lt : α → α → Bool} {d : Array α} {x y x' y' : Nat} (h : SortedIn lt x y d) (hx : x ≤ x') (hy : y' ≤ y) : SortedIn lt x' y' d := fun i j h1 h2 h3 => h i j (by omega) h2 (by omega)
theorem sorted_empty {lt : α → α → Bool} {d : Array α} {x y : Nat} (h : y ≤ x) : SortedIn lt x y d := fun i j h1 h2 h3 => by omega

theorem ins_step {lt : α → α → Bool} {t : Nat} {d d' : Array α} (h : Ins lt t d) (hk : ∀ i, i < t * 20 ∨ t * 20 + 20 ≤ i → d'[i]! = d[i]!) (hs : SortedIn lt (t * 20) (t * 20 + 20) d') : Ins lt (t + 1) d' := by
  intro u hu
  rcases Nat.lt_succ_iff_lt_or_eq.1 hu with hlt | rfl
  · exact sorted_keep hk (h u hlt) (by omega)
  · exact hs
theorem ins_end {lt : α → α → Bool} {t n : Nat} {d d' : Array α} (h : Ins lt t d) (hn : n < t * 20 + 20) (hk : ∀ i, i < t * 20 ∨ n ≤ i → d'[i]! = d[i]!) (hs : SortedIn lt (t * 20) n d') : Blk lt 20 n d' := by
  intro u
  rcases Nat.lt_trichotomy u t with hlt | rfl | hgt
  · exact sorted_mono (sorted_keep hk (h u hlt) (by omega)) (Nat.le_refl _) (by omega)
  · exact sorted_mono hs (Nat.le_refl _) (by omega)
  · exact sorted_empty (by omega)

theorem mix_start {lt : α → α → Bool} {bs n : Nat} {d : Array α} (h : Blk lt bs n d) : Mix lt bs n 0 d := ⟨fun u hu => absurd hu (by omega), fun u _ => h u⟩
theorem two_mul_at (bs t : Nat) : (2 * t) * bs = t * (2 * bs) := by rw [Nat.mul_comm 2 t, Nat.mul_assoc]
theorem two_mul_at1 (bs t : Nat) : (2 * t + 1) * bs = t * (2 * bs) + bs := by rw [Nat.add_mul, two_mul_at, Nat.one_mul]
theorem mix_first {lt : α → α → Bool} {bs n t A : Nat} {d : Array α} (h : Mix lt bs n t d) (hA : A = t * (2 * bs)) (hn : A + bs ≤ n) : SortedIn lt A (A + bs) d := by
  have := h.2 (2 * t) (Nat.le_refl _)
  rw [two_mul_at, ← hA] at this
  exact sorted_mono this (Nat.le_refl _) (by omega)
theorem mix_second {lt : α → α → Bool} {bs n t A y : Nat} {d : Array α} (h : Mix lt bs n t d) (hA : A = t * (2 * bs)) (hy : y ≤ A + 2 * bs) (hn : y ≤ n) : SortedIn lt (A + bs) y d := by
  have := h.2 (2 * t + 1) (by omega)
  rw [two_mul_at1, ← hA] at this
  exact sorted_mono this (Nat.le_refl _) (by omega)
theorem mul_lt_step (bs u t : Nat) (h : u < t) : u * (2 * bs) + 2 * bs ≤ t * (2 * bs) := by
  have := Nat.mul_le_mul_right (2 * bs) (show u + 1 ≤ t from h)
  rwa [Nat.add_mul, Nat.one_mul] at this
theorem mix_step {lt : α → α → Bool} {bs n t A : Nat} {d d' : Array α} (h : Mix lt bs n t d) (hA : A = t * (2 * bs)) (hk : ∀ i, i < A ∨ A + 2 * bs ≤ i → d'[i]! = d[i]!) (hs : SortedIn lt A (A + 2 * bs) d') : Mix lt bs n (t + 1) d' := by
  refine ⟨fun u hu => ?_, fun u hu => ?_⟩
  · rcases Nat.lt_succ_iff_lt_or_eq.1 hu with hlt | rfl
    · have := mul_lt_step bs u t hlt
      exact sorted_keep hk (h.1 u hlt) (by omega)
    · rw [← hA]; exact hs
  · have e := Nat.mul_le_mul_right bs hu
    rw [show 2 * (t + 1) = 2 * t + 1 + 1 by omega, Nat.add_mul, two_mul_at1, Nat.one_mul] at e
    exact sorted_keep hk (h.2 u (by omega)) (by omega)
theorem mix_end {lt : α → α → Bool} {bs n t A : Nat} {d d' : Array α} (h : Mix lt bs n t d) (hA : A = t * (2 * bs)) (hn : n < A + 2 * bs) (hk : ∀ i, i < A ∨ n ≤ i → d'[i]! = d[i]!) (hs : SortedIn lt A n d') : Blk lt (2 * bs) n d' := by
  intro u
  rcases Nat.lt_trichotomy u t with hlt | rfl | hgt
  · have := mul_lt_step bs u t hlt
    exact sorted_mono (sorted_keep hk (h.1 u hlt) (by omega)) (Nat.le_refl _) (by omega)
  · rw [← hA]; exact sorted_mono hs (Nat.le_refl _) (by omega)
  · have := mul_lt_step bs t u hgt
    exact sorted_empty (by omega)
theorem mix_end2 {lt : α → α → Bool} {bs n t A : Nat} {d : Array α} (h : Mix lt bs n t d) (hA : A = t * (2 * bs)) (hb : 0 < bs) (hn : n ≤ A + bs) : Blk lt (2 * bs) n d := by
  refine mix_end h hA (by omega) (fun i _ => rfl) ?_
  have := h.2 (2 * t) (Nat.le_refl _)
  rw [two_mul_at, ← hA] at this
  exact sorted_mono this (Nat.le_refl _) (by omega)
theorem blk_end {lt : α → α → Bool} {bs n : Nat} {d : Array α} (h : Blk lt bs n d) (hn : n ≤ bs) : SortedIn lt 0 n d := by
  have := h 0
  rw [Nat.zero_mul] at this
  exact sorted_mono this (Nat.le_refl _) (by omega)
end Go.Proofs.Ybulkxfo
