import Derived.Test.YbulkxiuProg
import Derived.WalkKit
import Derived.WalkSpells
import Derived.WalkLawsBesides
import Derived.Laws.BytesArg
import Derived.Deep.LoopGhost
import Derived.BigQuiet
namespace Go.Proofs.Ybulkxiu
open Go.RowKit
set_option maxRecDepth 100000

theorem toAside {p : Prop} (h : p) : Aside p := h
/-- The id of step i. -/
def idN (i : Nat) : List Int := [101, 97 + (i / 26 : Nat), 97 + (i % 26 : Nat)]
def idS (i : Nat) : ByteArray := strOfNums (idN i)
theorem id_any (i : Nat) (w : World) (hi : i < 512) : Calls Yba.prog 10 #[.int .i64 i] w fun e w' => e = .returned (.string (idS i)) ∧ w' = w.alloc (.cells #[.int .u8 101, .int .u8 (97 + (i : Int) / 26), .int .u8 (97 + (i : Int) % 26)] 5) := by
  have hc := run_convert_bytes_arg (P := Yba.prog) (w.alloc (.cells #[.int .u8 101, .int .u8 (97 + (i : Int) / 26), .int .u8 (97 + (i : Int) % 26)] 5)) 53 5 Yba.underlying53 Yba.underlying5 w.heap.size 0 3 3 (idN i) rfl (fun j hj => by
    rw [Nat.zero_add, cell_of_row _ w.heap.size j _ 5 (0, 0) (heap_alloc_new _ _)]
    have : j = 0 ∨ j = 1 ∨ j = 2 := by omega
    rcases this with rfl | rfl | rfl <;> simp [idN]) 9 Yba.underlying9
  go_enter Yba.func10, Yba.ntmps10
  go_wp2
  go_ret
  exact ⟨rfl, rfl⟩
theorem last_three (x y z : Int) (h0 : 0 ≤ z) (h1 : z < 256) (h : 2 < (strOfNums [x, y, z]).size) : ((strOfNums [x, y, z])[2].toNat : Int) = z := by
  show ((UInt8.ofNat z.toNat).toNat : Int) = z
  rw [UInt8.toNat_ofNat']
  omega
theorem hash_three (x y z : Int) (w : World) (h0 : 0 ≤ z) (h1 : z < 256) : Calls Yba.prog 9 #[.string (strOfNums [x, y, z])] w fun e w' => e = .returned (.int .u64 z) ∧ w = w' := by
  have hs : (strOfNums [x, y, z]).size = 3 := rfl
  go_enter Yba.func9, Yba.ntmps9
  go_wp2
  go_ret
  refine ⟨?_, rfl⟩
  have e : IntKind.u64.wrap ((strOfNums [x, y, z])[2].toNat : Int) = z := by
    rw [last_three x y z h0 h1 (by rw [hs]; omega), IntKind.wrap_u64]; omega
  show Ending.returned (Value.int .u64 (IntKind.u64.wrap ((strOfNums [x, y, z])[2].toNat : Int))) = _
  rw [e]
theorem hash_zz (w : World) : Calls Yba.prog 9 #[.string ⟨#[122, 122]⟩] w fun e w' => e = .returned (.int .u64 122) ∧ w = w' := by
  go_enter Yba.func9, Yba.ntmps9
  go_wp2
  go_ret
  exact ⟨rfl, rfl⟩

/-- (*authGraph).event -/
theorem event_any (gB nb N cap n eb : Nat) (w : World) (hg : w.cell? ⟨gB, 0, none⟩ = some (.slice (some ⟨nb, 0, none⟩) N cap)) (h1 : n < N) (hN : N ≤ 512) (he : w.cell? ⟨nb, n * 6, none⟩ = some (.pointer (some ⟨eb, 0, none⟩))) :
    Calls Yba.prog 16 #[.pointer (some ⟨gB, 0, none⟩), .int .u32 (n + 1)] w fun e w' => e = .returned (.pointer (some ⟨eb, 0, none⟩)) ∧ w = w' := by
  have n0 : (0 : Int) ≤ (n : Int) := by omega
  have n1 : (n : Int) < (N : Int) := by omega
  have hw : IntKind.u32.wrap (n : Int) = n := by rw [IntKind.wrap_u32]; omega
  go_enter Yba.func16, Yba.ntmps16
  go_wp2
  go_ret
  exact ⟨rfl, rfl⟩
/-- (*authGraph).node -/
theorem node_any (gB nb N cap n eb : Nat) (w : World) (hg : w.cell? ⟨gB, 0, none⟩ = some (.slice (some ⟨nb, 0, none⟩) N cap)) (h1 : n < N) (hN : N ≤ 512) (he : w.cell? ⟨eb, 7, none⟩ = some (.int .u32 (n + 1))) :
    Calls Yba.prog 14 #[.pointer (some ⟨gB, 0, none⟩), .pointer (some ⟨eb, 0, none⟩)] w fun e w' => e = .returned (.pointer (some ⟨nb, n * 6, none⟩)) ∧ ∃ q, w' = w.drewN q := by
  have n0 : (0 : Int) ≤ (n : Int) := by omega
  have n1 : (n : Int) < (N : Int) := by omega
  have hw : IntKind.u32.wrap (n : Int) = n := by rw [IntKind.wrap_u32]; omega
  go_enter Yba.func14, Yba.ntmps14
  go_wp2
  go_quiet (fail)
  go_wp2
  go_ret
  exact ⟨rfl, _, rfl⟩
/-- (*authNode).passes -/
theorem passes_any (nb o par jmp : Nat) (w : World) (hp : w.cell? ⟨nb, o + 2, none⟩ = some (.int .u32 par)) (hj : w.cell? ⟨nb, o + 4, none⟩ = some (.int .u32 jmp)) :
    Calls Yba.prog 15 #[.pointer (some ⟨nb, o, none⟩)] w fun e w' => e = .returned (.bool (decide (par ≠ 0 ∧ jmp ≠ par))) ∧ ∃ q, w' = w.drewN q := by
  by_cases h0 : par = 0
  · subst h0
    go_enter Yba.func15, Yba.ntmps15
    go_wp2
    go_quiet (fail)
    go_wp2
    go_ret
    exact ⟨by simp, _, rfl⟩
  · have b0 : ((par : Int) != 0) = true := by simp; omega
    go_enter Yba.func15, Yba.ntmps15
    go_wp2
    go_quiet (fail)
    go_wp2
    go_ret
    refine ⟨?_, _, rfl⟩
    show Ending.returned (Value.bool ((jmp : Int) != (par : Int))) = _
    congr 2
    by_cases h : jmp = par
    · simp [h]
    · have h' : ¬ (jmp : Int) = (par : Int) := by omega
      simp [h, h', h0]

/-- (*eventIndex).record -/
theorem record_any (xB rb R cr db cd n : Nat) (w : World) (hx : w.cell? ⟨xB, 2, none⟩ = some (.slice (some ⟨rb, 0, none⟩) 1 cr)) (hr : w.cell? ⟨rb, 0, none⟩ = some (.slice (some ⟨db, 0, none⟩) R cd)) (hn : n < R) (hR : R ≤ 512) :
    Calls Yba.prog 20 #[.pointer (some ⟨xB, 0, none⟩), .int .u32 (n + 1)] w fun e w' => e = .returned (.pointer (some ⟨db, n * 11, none⟩)) ∧ w = w' := by
  have n0 : (0 : Int) ≤ (n : Int) := by omega
  have n1 : (n : Int) < (R : Int) := by omega
  have hw : IntKind.u32.wrap (n : Int) = n := by rw [IntKind.wrap_u32]; omega
  have hd : (n : Int) / 1024 = 0 := by omega
  have hm : (n : Int) % 1024 = n := by omega
  go_enter Yba.func20, Yba.ntmps20
  go_wp2
  go_ret
  exact ⟨rfl, rfl⟩
/-- (*eventIndex).text -/
theorem text_any (xB ib ci ab L ca a b : Nat) (w : World) (hx : w.cell? ⟨xB, 3, none⟩ = some (.slice (some ⟨ib, 0, none⟩) 1 ci)) (hi : w.cell? ⟨ib, 0, none⟩ = some (.slice (some ⟨ab, 0, none⟩) L ca)) (hab : a < b) (hb : b ≤ L) (hL : L ≤ ca) (hxs : xB < w.heap.size) (his : ib < w.heap.size) :
    Calls Yba.prog 21 #[.pointer (some ⟨xB, 0, none⟩), .agg #[.int .u32 0, .int .u32 a, .int .u32 b]] w fun e w' => e = .returned (.slice (some ⟨ab, a, none⟩) (b - a) (ca - a)) ∧ ∃ q, w' = (w.alloc (.cells #[.int .u32 0, .int .u32 a, .int .u32 b] 83)).drewN q := by
  have B : RowKit.Below w.heap.size w (w.alloc (.cells #[.int .u32 0, .int .u32 a, .int .u32 b] 83)) := (RowKit.Below.refl _ _).alloc (Nat.le_refl _) _
  have q0 := (B.cell (p := ⟨xB, 3, none⟩) hxs).trans hx
  have q1 := (B.cell (p := ⟨ib, 0, none⟩) his).trans hi
  have hN := heap_alloc_new w (.cells #[.int .u32 0, .int .u32 a, .int .u32 b] 83)
  have c0 : (w.alloc (.cells #[.int .u32 0, .int .u32 a, .int .u32 b] 83)).cell? ⟨w.heap.size, 0, none⟩ = some (.int .u32 0) := by rw [cell_of_row _ _ 0 _ 83 (0, 0) hN]; rfl
  have c1 : (w.alloc (.cells #[.int .u32 0, .int .u32 a, .int .u32 b] 83)).cell? ⟨w.heap.size, 1, none⟩ = some (.int .u32 a) := by rw [cell_of_row _ _ 1 _ 83 (0, 0) hN]; rfl
  have c2 : (w.alloc (.cells #[.int .u32 0, .int .u32 a, .int .u32 b] 83)).cell? ⟨w.heap.size, 2, none⟩ = some (.int .u32 b) := by rw [cell_of_row _ _ 2 _ 83 (0, 0) hN]; rfl
  have i0 : (0 : Int) ≤ (a : Int) := by omega
  have i1 : (a : Int) ≤ (b : Int) := by omega
  have i2 : (b : Int) ≤ (ca : Int) := by omega
  have i3 : ¬ ca - a = 0 := by omega
  have i4 : ¬ ca ≤ a := by omega
  clear hN B hx hi
  go_enter Yba.func21, Yba.ntmps21
  go_wp2
  generalize hw1 : w.alloc (.cells #[.int .u32 0, .int .u32 a, .int .u32 b] 83) = w1 at *
  have HW1 : Hid (w.alloc (.cells #[.int .u32 0, .int .u32 a, .int .u32 b] 83) = w1) := hw1
  clear hw1
  generalize w.heap.size = W at *
  go_quiet (fail)
  go_wp2
  go_ret
  exact ⟨rfl, nq, by rw [HW1.out]⟩
end Go.Proofs.Ybulkxiu
