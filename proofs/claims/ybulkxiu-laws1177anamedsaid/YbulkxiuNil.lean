import Derived.Test.YbulkxiuOrder
import Derived.Shelf.Small.Bits
namespace Go.Proofs
open Go.Shelf
shelf_lay Lays.n125 Nm 125 at Yba as Yba.bitsLen
end Go.Proofs
namespace Go.Proofs.Ybulkxiu
open Go.RowKit
set_option maxRecDepth 100000

theorem clip_any (b o n c : Nat) (w : World) (h : n ≤ c) : Calls Yba.prog 27 #[.slice (some ⟨b, o, none⟩) n c] w fun e w' => e = .returned (.slice (some ⟨b, o, none⟩) n n) ∧ w' = w := by
  go_enter Yba.func27, Yba.ntmps27
  go_wp2
  go_ret
  exact ⟨rfl, rfl⟩
theorem clip_nil (w : World) : Calls Yba.prog 27 #[.slice none 0 0] w fun e w' => e = .returned (.slice none 0 0) ∧ w' = w := by
  go_enter Yba.func27, Yba.ntmps27
  go_wp2
  go_ret
  exact ⟨rfl, rfl⟩
theorem ins_nil (f : Value) (w : World) : Calls Yba.prog 33 #[.slice none 0 0, .int .i64 0, .int .i64 0, f] w fun e w' => e = .returned (.tuple #[]) ∧ w' = w := by
  go_enter Yba.func33, Yba.ntmps33
  go_wp2
  go_loopg [8] 0 (fun kx s8 wr => kx = 0 ∧ s8 = .int .i64 1 ∧ Hid (wr = w))
  case atStart => exact ⟨rfl, rfl, rfl⟩
  case round =>
    obtain ⟨rfl, rfl, HW⟩ := hrel
    go_wp2
    go_end0
    exact ⟨rfl, HW.out⟩
theorem pdq_nil (f : Value) (lim : Int) (w : World) : Calls Yba.prog 28 #[.slice none 0 0, .int .i64 0, .int .i64 0, .int .i64 lim, f] w fun e w' => e = .returned (.tuple #[]) ∧ w' = w := by
  go_enter Yba.func28, Yba.ntmps28
  go_wp2
  go_loopg [1, 2, 3, 10, 11] 0 (fun kx s1 s2 s3 s10 s11 wr => kx = 0 ∧ s1 = .int .i64 0 ∧ s2 = .int .i64 0 ∧ Hid (wr = w))
  case atStart => exact ⟨rfl, rfl, rfl, rfl⟩
  case round =>
    obtain ⟨rfl, rfl, rfl, HW⟩ := hrel
    go_wp2_with (go_at_call 33; refine (ins_nil _ _).mono ?_; rintro e w' ⟨rfl, rfl⟩)
    refine bodyPost_ret (results_none rfl _ _ _) rfl ?_
    exact ⟨rfl, HW.out⟩
theorem sort_nil (f : Value) (w : World) : Calls Yba.prog 22 #[.slice none 0 0, f] w fun e w' => e = .returned (.tuple #[]) ∧ w' = w := by
  have hl := Any.bits_Len Yba.bitsLen 0 w (by omega) (by omega)
  change Calls Yba.prog 29 _ _ _ at hl
  go_enter Yba.func22, Yba.ntmps22
  go_wp2_with (first | (go_at_call 29; refine hl.mono ?_; rintro e w' ⟨rfl, rfl⟩) | (go_at_call 28; refine (pdq_nil _ _ _).mono ?_; rintro e w' ⟨rfl, rfl⟩))
  go_end0
  exact ⟨rfl, rfl⟩
end Go.Proofs.Ybulkxiu
