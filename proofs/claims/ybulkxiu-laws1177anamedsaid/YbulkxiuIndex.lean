import Derived.Test.YbulkxiuMap
namespace Go.Proofs.Ybulkxiu
open Go.RowKit
set_option maxRecDepth 100000

/-- The record before j of j's own hash, from 1; 0: none. -/
def sameN (j : Nat) : Nat := if j < 26 then 0 else j - 25
/-- The last record below i of letter c. -/
def lastN (i c : Nat) : Nat := c + 26 * ((i - 1 - c) / 26)
/-- What slots holds behind i records. -/
def slotF (i : Nat) (h : Int) : Option Value := if 97 ≤ h ∧ h < 123 ∧ h - 97 < i then some (.int .u32 ((lastN i (h - 97).toNat : Nat) + 1 : Int)) else none
theorem lastN_spec {i c : Nat} (hc : c < 26) (hi : c < i) : lastN i c < i ∧ lastN i c % 26 = c ∧ i ≤ lastN i c + 26 := by
  unfold lastN; omega

def evV : Option Nat → Value
  | none => .pointer none
  | some e => .pointer (some ⟨e, 0, none⟩)
/-- The index lies in memory: i records; evp j: the event of record j. -/
structure XMem (w : World) (xB rb cr db cd ib ci ab ca mb nm i : Nat) (evp : Nat → Option Nat) : Prop where
  small : i ≤ 512
  x0 : w.cell? ⟨xB, 0, none⟩ = some (.func (.func 9) #[] #[])
  x1 : w.cell? ⟨xB, 1, none⟩ = some (.map (some mb))
  x2 : 0 < i → w.cell? ⟨xB, 2, none⟩ = some (.slice (some ⟨rb, 0, none⟩) 1 cr)
  r0 : 0 < i → w.cell? ⟨rb, 0, none⟩ = some (.slice (some ⟨db, 0, none⟩) i cd)
  x3 : 0 < i → w.cell? ⟨xB, 3, none⟩ = some (.slice (some ⟨ib, 0, none⟩) 1 ci)
  i0 : 0 < i → w.cell? ⟨ib, 0, none⟩ = some (.slice (some ⟨ab, 0, none⟩) (3 * i) ca)
  cap : 3 * i ≤ ca
  c0 : ∀ j, j < i → w.cell? ⟨db, j * 11, none⟩ = some (evV (evp j))
  c1 : ∀ j, j < i → w.cell? ⟨db, j * 11 + 1, none⟩ = some (.int .u64 0)
  c2 : ∀ j, j < i → w.cell? ⟨db, j * 11 + 2, none⟩ = some (.int .u32 0)
  c3 : ∀ j, j < i → w.cell? ⟨db, j * 11 + 3, none⟩ = some (.int .u8 0)
  c4 : ∀ j, j < i → w.cell? ⟨db, j * 11 + 4, none⟩ = some (.int .u8 0)
  c5 : ∀ j, j < i → w.cell? ⟨db, j * 11 + 5, none⟩ = some (.bool false)
  c6 : ∀ j, j < i → w.cell? ⟨db, j * 11 + 6, none⟩ = some (.bool false)
  c7 : ∀ j, j < i → w.cell? ⟨db, j * 11 + 7, none⟩ = some (.int .u32 0)
  c8 : ∀ j, j < i → w.cell? ⟨db, j * 11 + 8, none⟩ = some (.int .u32 (3 * j : Nat))
  c9 : ∀ j, j < i → w.cell? ⟨db, j * 11 + 9, none⟩ = some (.int .u32 (3 * j + 3 : Nat))
  c10 : ∀ j, j < i → w.cell? ⟨db, j * 11 + 10, none⟩ = some (.int .u32 (sameN j))
  by0 : ∀ j, j < i → ∀ t, t < 3 → w.cell? ⟨ab, 3 * j + t, none⟩ = some (.int .u8 ((idN j).getD t 0))
  mp : MapV w 77 .u64 mb nm (slotF i)

theorem XMem.of {w w' : World} {xB rb cr db cd ib ci ab ca mb nm i : Nat} {evp : Nat → Option Nat} (h : XMem w xB rb cr db cd ib ci ab ca mb nm i evp) (hc : ∀ a v, w.cell? a = some v → w'.cell? a = some v) (hm : w'.heap[mb]? = w.heap[mb]?) : XMem w' xB rb cr db cd ib ci ab ca mb nm i evp :=
  ⟨h.small, hc _ _ h.x0, hc _ _ h.x1, fun p => hc _ _ (h.x2 p), fun p => hc _ _ (h.r0 p), fun p => hc _ _ (h.x3 p), fun p => hc _ _ (h.i0 p), h.cap, fun j p => hc _ _ (h.c0 j p), fun j p => hc _ _ (h.c1 j p), fun j p => hc _ _ (h.c2 j p), fun j p => hc _ _ (h.c3 j p), fun j p => hc _ _ (h.c4 j p), fun j p => hc _ _ (h.c5 j p), fun j p => hc _ _ (h.c6 j p), fun j p => hc _ _ (h.c7 j p), fun j p => hc _ _ (h.c8 j p), fun j p => hc _ _ (h.c9 j p), fun j p => hc _ _ (h.c10 j p), fun j p t q => hc _ _ (h.by0 j p t q), h.mp.of hm⟩
theorem XMem.below {w w' : World} {xB rb cr db cd ib ci ab ca mb nm i : Nat} {evp : Nat → Option Nat} (h : XMem w xB rb cr db cd ib ci ab ca mb nm i evp) (b : RowKit.Below w.heap.size w w') : XMem w' xB rb cr db cd ib ci ab ca mb nm i evp :=
  h.of (fun _ _ e => (b.cell (World.block_lt_of_cell? w _ e)).trans e) (b.block _ h.mp.lt)

theorem idS_inj {i j : Nat} (hi : i < 512) (hj : j < 512) (h : idS i = idS j) : i = j := by
  have h1 : (idS i).data.toList = (idS j).data.toList := by rw [h]
  simp only [idS, strOfNums_data, idN, List.map_cons, List.map_nil, List.cons.injEq] at h1
  obtain ⟨_, h2, h3, _⟩ := h1
  have e2 := congrArg UInt8.toNat h2
  have e3 := congrArg UInt8.toNat h3
  rw [UInt8.toNat_ofNat', UInt8.toNat_ofNat'] at e2 e3
  omega
end Go.Proofs.Ybulkxiu
