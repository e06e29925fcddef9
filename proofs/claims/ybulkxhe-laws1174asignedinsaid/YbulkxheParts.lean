import Derived.Test.YbulkxheProg
import Derived.WalkKit
import Derived.WalkSpells
import Derived.WalkLawsBesides
import Derived.LaidEqlPtr
import Derived.Deep.QuietTactic
import Derived.BigQuiet
import Derived.Deep.AppendLies
namespace Go.Proofs.Ybulkxhe
open Go.RowKit
set_option maxHeartbeats 400000 in
theorem build_any (f : Bool) (fr ow rd kd : Int) (s : ByteArray) (w : World) :
    Calls Yba.prog 7 #[.agg #[.bool f, .int .i64 fr, .int .i64 ow, .int .i64 rd, .int .u8 kd, .string s]] w fun e w' =>
      ∃ g, w.heap.size ≤ g ∧ g < w'.heap.size ∧ e = .returned (.tuple #[.iface (if f then 30 else 24) (.pointer (some ⟨g, 0, none⟩)), .pointer (if f then none else some ⟨g, 0, none⟩)]) ∧ Below w.heap.size w w' := by
  cases f
  · go_enter Yba.func7, Yba.ntmps7
    go_wp2
    go_ret2
    exact ⟨w.heap.size + 1, by omega, by simp, rfl, ((Below.refl _ _).alloc (Nat.le_refl _) _).alloc (by simp) _⟩
  · go_enter Yba.func7, Yba.ntmps7
    go_wp2
    go_ret2
    exact ⟨w.heap.size + 1 + 1 + 1, by omega, by simp, rfl, ((((Below.refl _ _).alloc (Nat.le_refl _) _).alloc (by simp) _).alloc (by simp; omega) _).alloc (by simp; omega) _⟩

theorem ta_24_24 (p : Option Addr) (w : World) : (Instr.typeAssert (.iface 24 (.pointer p)) 20 24 true).run Yba.prog w = .ok (.tuple #[.pointer p, .bool true]) w := by kernel_rfl
theorem ta_24_30 (p : Option Addr) (w : World) : (Instr.typeAssert (.iface 24 (.pointer p)) 20 30 true).run Yba.prog w = .ok (.tuple #[.pointer none, .bool false]) w := by kernel_rfl
theorem ta_30_24 (p : Option Addr) (w : World) : (Instr.typeAssert (.iface 30 (.pointer p)) 20 24 true).run Yba.prog w = .ok (.tuple #[.pointer none, .bool false]) w := by kernel_rfl
theorem ta_30_30 (p : Option Addr) (w : World) : (Instr.typeAssert (.iface 30 (.pointer p)) 20 30 true).run Yba.prog w = .ok (.tuple #[.pointer p, .bool true]) w := by kernel_rfl
/-- payload: what it is handed it hands on. -/
theorem payload_24 (fr : Int) (g : Nat) (w : World) :
    Calls Yba.prog 8 #[.agg #[.int .i64 fr, .iface 24 (.pointer (some ⟨g, 0, none⟩))]] w fun e w' =>
      e = .returned (.iface 24 (.pointer (some ⟨g, 0, none⟩))) ∧ w' = w.alloc (.cells #[.int .i64 fr, .iface 24 (.pointer (some ⟨g, 0, none⟩))] 28) := by
  have h1 := ta_24_24
  have h2 := ta_24_30
  go_enter Yba.func8, Yba.ntmps8
  go_wp2
  go_ret
  exact ⟨rfl, rfl⟩
theorem payload_30 (fr : Int) (g : Nat) (w : World) :
    Calls Yba.prog 8 #[.agg #[.int .i64 fr, .iface 30 (.pointer (some ⟨g, 0, none⟩))]] w fun e w' =>
      e = .returned (.iface 30 (.pointer (some ⟨g, 0, none⟩))) ∧ w' = w.alloc (.cells #[.int .i64 fr, .iface 30 (.pointer (some ⟨g, 0, none⟩))] 28) := by
  have h1 := ta_30_24
  have h2 := ta_30_30
  go_enter Yba.func8, Yba.ntmps8
  go_wp2
  go_ret
  exact ⟨rfl, rfl⟩
abbrev Msg := Int × Bool × Nat
def mcells (p : Msg) : List Value := [.int .i64 p.1, .iface (if p.2.1 then 30 else 24) (.pointer (some ⟨p.2.2, 0, none⟩))]
def inb (ps : List Msg) : List Value := ps.flatMap mcells
def wants (ps : List Msg) : List Value := (ps.filter fun p => !p.2.1).map fun p => .pointer (some ⟨p.2.2, 0, none⟩)
theorem inb_at (ps : List Msg) (k : Nat) (p : Msg) (h : ps[k]? = some p) : (inb ps)[k * 2]? = some (.int .i64 p.1) ∧ (inb ps)[k * 2 + 1]? = some (.iface (if p.2.1 then 30 else 24) (.pointer (some ⟨p.2.2, 0, none⟩))) := by
  induction ps generalizing k with
  | nil => simp at h
  | cons q ps ih =>
    cases k with
    | zero => simp at h; subst h; simp [inb, mcells]
    | succ k =>
      have := ih k (by simpa using h)
      simp only [inb, List.flatMap_cons] at this ⊢
      have e : mcells q = [.int .i64 q.1, .iface (if q.2.1 then 30 else 24) (.pointer (some ⟨q.2.2, 0, none⟩))] := rfl
      rw [e, show (k + 1) * 2 = k * 2 + 1 + 1 by omega]
      simpa using this
theorem wants_le (ps : List Msg) : (wants ps).length ≤ ps.length := by
  unfold wants; rw [List.length_map]; exact List.length_filter_le _ _
theorem wants_yes (ps : List Msg) (k : Nat) (fr : Int) (blk : Nat) (h : ps[k]? = some (fr, false, blk)) : wants (ps.take (k + 1)) = wants (ps.take k) ++ [.pointer (some ⟨blk, 0, none⟩)] := by
  rw [List.take_add_one, h]; simp [wants]
theorem wants_no (ps : List Msg) (k : Nat) (fr : Int) (blk : Nat) (h : ps[k]? = some (fr, true, blk)) : wants (ps.take (k + 1)) = wants (ps.take k) := by
  rw [List.take_add_one, h]; simp [wants]
theorem news_one (w : World) (x : Value) (t : TypeId) (n : Nat) (h : w.heap.size = n) : ∀ j u, [x][j]? = some u → (w.alloc (.cells #[x] t)).cell? ((⟨n, 0, none⟩ : Addr).add j) = some u := by
  subst h; exact cell_one_new w x t
theorem Yba.info24 : (Yba.prog.info? 24).map (fun i => (i.zero, i.size, i.bytes)) = some (some (.pointer none), 1, 8) := by kernel_rfl
theorem Yba.info28 : (Yba.prog.info? 28).map (fun i => (i.zero, i.size, i.bytes)) = some (some (.agg #[.int .i64 0, .nilIface]), 2, 24) := by kernel_rfl
set_option maxHeartbeats 800000 in
set_option maxRecDepth 100000 in
theorem signedIn_any (ps : List Msg) (g cap : Nat) (w : World) (hl : ps.length ≤ 1024) (hgw : g < w.heap.size)
    (hc : ∀ j u, (inb ps)[j]? = some u → w.cell? ⟨g, j, none⟩ = some u) :
    Calls Yba.prog 9 #[.slice (some ⟨g, 0, none⟩) ps.length cap] w fun e w' =>
      ∃ v, e = .returned v ∧ w'.ownsRow w.heap.size 24 1 v (wants ps).length (wants ps) ∧ Below w.heap.size w w' := by
  obtain ⟨i0, hi, hz0, hz1, hz2⟩ := info_parts Yba.info24
  go_enter Yba.func9, Yba.ntmps9
  go_wp2
  go_loopw [3, 10] (fun v i wr => ∃ k : Nat, k ≤ ps.length ∧ i = .int .i64 k ∧ wr.ownsRow w.heap.size 24 1 v (wants (ps.take k)).length (wants (ps.take k)) ∧ Below w.heap.size w wr)
    (fun _ i _ => ps.length - (intOf i).toNat)
  case atStart => exact ⟨0, Nat.zero_le _, rfl, World.ownsRow_nil _ _ _ _, Below.refl _ _⟩
  case round =>
    obtain ⟨k, hk, rfl, hown, hnx⟩ := hrel
    by_cases hlt : k < ps.length
    · obtain ⟨p, hp⟩ : ∃ p, ps[k]? = some p := ⟨ps[k], by simp [hlt]⟩
      obtain ⟨h1, h2⟩ := inb_at ps k p hp
      have c1 := (hnx.cell (p := ⟨g, k * 2, none⟩) hgw).trans (hc _ _ h1)
      have c2 := (hnx.cell (p := ⟨g, k * 2 + 1, none⟩) hgw).trans (hc _ _ h2)
      obtain ⟨fr, f, blk⟩ := p
      clear h1 h2 hc
      cases f
      · have HP : Hid (ps[k]? = some (fr, false, blk)) := hp
        clear hp
        simp at c2 c1
        go_wp2_with fail
        refine (payload_24 fr blk _).mono ?_
        rintro e w1 ⟨rfl, rfl⟩
        have t1 := ta_24_24
        have hon := (hown.alloc (.cells #[.int .i64 fr, .iface 24 (.pointer (some ⟨blk, 0, none⟩))] 28)).alloc (.cells #[.int .i64 fr, .iface 24 (.pointer (some ⟨blk, 0, none⟩))] 28)
        have hw := wants_le (ps.take k)
        have hlk : (ps.take k).length ≤ k := List.length_take_le _ _
        have hsz := hnx.size
        go_wp2_with (at_builtin; refine wpList_append_own _ rfl _ _ 34 rfl w.heap.size 24 i0 (.pointer none) 1 8 Yba.underlying34 hi hz0 hz1 hz2 rfl (by decide) _ _ _ rfl (hon.alloc _) ⟨wr.heap.size + 1 + 1, 0, none⟩ 1 1 [.pointer (some ⟨blk, 0, none⟩)] rfl rfl ?c1 ?c2 ?c3 ?c4 ?c5 ?_)
        case c1 => exact news_one _ _ _ _ (by simp)
        case c2 => intro u hu; simp at hu; subst hu; rfl
        case c3 => unfold maxLen; omega
        case c4 => omega
        case c5 => simp; omega
        intro v' w1 hown' hgrow _
        have hb : Below w.heap.size w w1 := (((hnx.alloc (by omega) _).alloc (by simp; omega) _).alloc (by simp; omega) _).grown hgrow (by simp; omega) (fun j hj => (hown.lt j hj).1)
        have hon2 : w1.ownsRow w.heap.size 24 1 v' (wants (ps.take (k + 1))).length (wants (ps.take (k + 1))) := by
          rw [wants_yes _ _ _ _ HP.out]; simpa using hown'
        clear hown' hgrow hon hown hnx t1 c1 c2
        go_wp2
        go_roundw
        case rel => exact ⟨k + 1, by omega, by go_num, hon2, hb⟩
        case measure => simp [intOf]; omega
      · have HP : Hid (ps[k]? = some (fr, true, blk)) := hp
        clear hp
        simp at c2 c1
        go_wp2_with fail
        refine (payload_30 fr blk _).mono ?_
        rintro e w1 ⟨rfl, rfl⟩
        have t1 := ta_30_24
        have hon := (hown.alloc (.cells #[.int .i64 fr, .iface 30 (.pointer (some ⟨blk, 0, none⟩))] 28)).alloc (.cells #[.int .i64 fr, .iface 30 (.pointer (some ⟨blk, 0, none⟩))] 28)
        have hsz := hnx.size
        have hb := (hnx.alloc (by omega) (.cells #[.int .i64 fr, .iface 30 (.pointer (some ⟨blk, 0, none⟩))] 28)).alloc (by simp; omega) (.cells #[.int .i64 fr, .iface 30 (.pointer (some ⟨blk, 0, none⟩))] 28)
        go_wp2
        go_roundw
        case rel => exact ⟨k + 1, by omega, by go_num, by rw [wants_no _ _ _ _ HP.out]; exact hon, hb⟩
        case measure => simp [intOf]; omega
    · go_wp2
      go_ret
      rw [List.take_of_length_le (by omega)] at hown
      exact ⟨_, rfl, hown, hnx⟩
end Go.Proofs.Ybulkxhe
