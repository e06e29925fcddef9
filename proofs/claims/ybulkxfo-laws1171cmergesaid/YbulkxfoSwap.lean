import Derived.Test.YbulkxfoKit
namespace Go.Proofs.Ybulkxfo
open Go.Shelf Go.RowKit Go.Lib Go.Sort
variable {P : Program} {α : Type} [Inhabited α]

set_option maxHeartbeats 4000000 in
set_option maxRecDepth 1000000 in
/-- swapRangeCmpFunc(data, a, b, n): n exchanges of data[a+i] and data[b+i]. -/
theorem swapRange_any {k : Nat} (T : TF P k) (F : P.funcs[19]? = some Yba.f19) (enc : α → List Value) (g : Nat) (cb : Array Value) (blk off cap a b n : Nat) (d0 d : Array α) (w0 w : World)
    (R : RowK enc k w0 blk off d0) (hs : d0.size = d.size) (S : SWK enc k w0 blk off d w) (ha : a + n ≤ d.size) (hb : b + n ≤ d.size) (hsz : d.size < 4611686018427387904) :
    Calls P 19 #[.slice (some ⟨blk, off, none⟩) d.size cap, .int .i64 a, .int .i64 b, .int .i64 n, .func (.func g) #[] cb] w fun e w' => e = .returned (.tuple #[]) ∧ SWK enc k w0 blk off (swr a b n d) w' := by
  have mixed := T.mixed; have t0 := T.t0; have a0 := T.a0; have z0 := T.z0; have v0 := T.v0; have t3 := T.t3; have a3 := T.a3; have z3 := T.z3; have v3 := T.v3; have t4 := T.t4; have a4 := T.a4; have z4 := T.z4; have v4 := T.v4; have t23 := T.t23; have a23 := T.a23; have z23 := T.z23; have v23 := T.v23; have t25 := T.t25; have a25 := T.a25; have z25 := T.z25; have v25 := T.v25; have aE := T.aE; have zE := T.zE
  have S0 : Aside (SWK enc k w0 blk off d w) := S
  clear S T
  go_enter F, Yba.ntmps19
  go_wp2
  go_loopg [10] n (fun kx s10 wr => ∃ i : Nat, s10 = .int .i64 i ∧ i ≤ n ∧ n - i ≤ kx ∧ Aside (SWK enc k w0 blk off (swr a b i d) wr))
  case atStart => exact ⟨0, rfl, Nat.zero_le _, by omega, S0⟩
  case round =>
    clear S0
    obtain ⟨i, rfl, hi, hkx, S1⟩ := hrel
    by_cases hlt : i < n
    · have hlt' : (i : Int) < (n : Int) := by omega
      have hds : (swr a b i d).size = d.size := size_swr a b i d
      have ea : ((a : Int) + (i : Int)).toNat = a + i := by omega
      have pa : (0 : Int) ≤ (a : Int) + (i : Int) := by omega
      have ba : (a : Int) + (i : Int) < (d.size : Int) := by omega
      have ra : IntKind.i64.wrap ((a : Int) + (i : Int)) = (a : Int) + (i : Int) := by rw [IntKind.wrap_i64]; omega
      have eb : ((b : Int) + (i : Int)).toNat = b + i := by omega
      have pb : (0 : Int) ≤ (b : Int) + (i : Int) := by omega
      have bb : (b : Int) + (i : Int) < (d.size : Int) := by omega
      have rb : IntKind.i64.wrap ((b : Int) + (i : Int)) = (b : Int) + (i : Int) := by rw [IntKind.wrap_i64]; omega
      have hnx : swr a b (i + 1) d = swp (swr a b i d) (a + i) (b + i) := rfl
      have HNX : Hid _ := hnx
      clear hnx
      generalize swr a b i d = dk at S1 hds HNX
      have S2 : Aside (SWK enc k w0 blk off (swp dk (a + i) (b + i)) ((wr.drew.setCells blk (off + (a + i) * k) (enc dk[b + i]!)).setCells blk (off + (b + i) * k) (enc dk[a + i]!))) := S1.out.swapped R (a + i) (b + i) (by omega) (by omega)
      have l44a := S1.out.ld1 R (by omega) P (a + i) (by omega)
      have l44b := S1.out.ld1 R (by omega) P (b + i) (by omega)
      have s44a := S1.out.st1 R (by omega) P (a + i) (by omega) dk[b + i]!
      have s44b := S1.out.st2 R (by omega) P (a + i) (b + i) (by omega) (by omega) dk[b + i]! dk[a + i]!
      have n44a : (enc dk[a + i]!).length = k := R.hk _
      have n44b : (enc dk[b + i]!).length = k := R.hk _
      generalize enc dk[a + i]! = cI44 at S2 l44a s44b n44a
      generalize enc dk[b + i]! = cJ44 at S2 l44b s44a s44b n44b
      clear S1
      go_wp2_with fail
      go_big_region_o
      clear l44a l44b s44a s44b
      generalize (wr.drew.setCells blk (off + (a + i) * k) cJ44).setCells blk (off + (b + i) * k) cI44 = w2 at S2 ⊢
      go_wp2
      go_roundg (n - (i + 1))
      case measure => omega
      case rel => exact ⟨i + 1, by go_num, by omega, Nat.le_refl _, by rw [HNX.out]; exact S2⟩
    · obtain rfl : i = n := by omega
      go_wp2
      go_end0
      exact ⟨rfl, S1.out⟩
end Go.Proofs.Ybulkxfo
