import Derived.Test.YbulkxiuBk
namespace Go.Proofs.Ybulkxiu
open Go.RowKit
set_option maxRecDepth 100000
theorem info3 : (Yba.prog.info? 3).map (fun i => (i.zero, i.size, i.bytes)) = some (some (.int .i64 0), 1, 8) := by kernel_rfl
theorem info9 : (Yba.prog.info? 9).map (fun i => (i.zero, i.size, i.bytes)) = some (some (.string ⟨#[]⟩), 1, 16) := by kernel_rfl
theorem info41 : (Yba.prog.info? 41).map (fun i => (i.zero, i.size, i.bytes)) = some (some (.slice none 0 0), 1, 24) := by kernel_rfl
theorem info5 : (Yba.prog.info? 5).map (fun i => (i.zero, i.size, i.bytes)) = some (some (.int .u8 0), 1, 1) := by kernel_rfl
/-- The cites read so far. -/
structure LS (F : Fx) (w0 : World) (s : GS) (i : Nat) (cs : List (Option Nat)) (tgx : Nat → Nat) (s16 s17 : Value) (wx : World) : Prop where
  b : BI F w0 { s with tg := tgx } i wx
  r16 : RowF F.B0 wx tgx 29 3 1 s16 cs.length (csC cs)
  r17 : RowF F.B0 wx tgx 33 9 1 s17 cs.length (ctC cs)
theorem LS.fr {S : Nat → Prop} {F : Fx} {w0 : World} {s : GS} {i : Nat} {cs : List (Option Nat)} {tgx tg' : Nat → Nat} {s16 s17 : Value} {wx w' : World} (h : LS F w0 s i cs tgx s16 s17 wx) (f : Fr S wx tgx w' tg') (hS : ∀ T, S T → T = 37) : LS F w0 s i cs tg' s16 s17 w' :=
  ⟨h.b.fr f (fun T q => by have := hS T q; omega), h.r16.fr f (fun q => by have := hS _ q; omega), h.r17.fr f (fun q => by have := hS _ q; omega)⟩
/-- One cite more. -/
theorem LS.add {F : Fx} {w0 : World} {s : GS} {i : Nat} {cs : List (Option Nat)} {tgx tg1 tg2 tg3 : Nat → Nat} {s16 s17 v16 v17 : Value} {wx w1 w2 w3 : World} {x : Option Nat} (h : LS F w0 s i cs tgx s16 s17 wx) (f1 : Fr (fun T => T = 29) wx tgx w1 tg1) (r1 : RowF F.B0 w1 tg1 29 3 1 v16 (cs.length + 1) (csC (cs ++ [x]))) (f2 : Fr (fun _ => False) w1 tg1 w2 tg2) (f3 : Fr (fun T => T = 33) w2 tg2 w3 tg3) (r3 : RowF F.B0 w3 tg3 33 9 1 v17 (cs.length + 1) (ctC (cs ++ [x]))) : LS F w0 s i (cs ++ [x]) tg3 v16 v17 w3 := by
  have e : (cs ++ [x]).length = cs.length + 1 := by simp
  refine ⟨?_, ?_, ?_⟩
  · have b1 := h.b.fr f1 (fun T q => by omega)
    have b2 := b1.fr f2 (fun T q => q.elim)
    have b3 := b2.fr f3 (fun T q => by omega)
    exact b3
  · rw [e]; exact (r1.fr f2 (fun q => q)).fr f3 (by omega)
  · rw [e]; exact r3
end Go.Proofs.Ybulkxiu
