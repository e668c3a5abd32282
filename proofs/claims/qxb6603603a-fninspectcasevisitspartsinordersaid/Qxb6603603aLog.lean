import Derived.Test.Qxb6603603aSt
namespace Go.Proofs.Qxb6603603a
open Go.RowKit

set_option maxHeartbeats 400000 in
theorem lbytes_nil (op : Int) (d : Bool) (w : World) : Calls Try.prog 6 #[.int .u8 op, .slice none 0 0, .bool d] w fun e w' => e = .returned (.bool true) ∧ w' = w := by
  go_enter Try.func6, Try.ntmps6
  go_wp2
  refine wp_loop_rounds 1 ?_
  rw [rounds_succ]
  go_wp2
  go_ret
  exact ⟨rfl, rfl⟩

/-- the call has returned some bool -/
def SomeBool (e : Ending) : Prop := ∃ t : Bool, e = .returned (.bool t)
theorem SomeBool.mk (t : Bool) : SomeBool (.returned (.bool t)) := ⟨t, rfl⟩

set_option maxHeartbeats 400000 in
theorem lbytes (op : Int) (d : Bool) (g off cap : Nat) (ss : List ByteArray) (w : World) (hl : ss.length ≤ maxLen)
    (hc : ∀ i, i < ss.length → w.cell? ⟨g, off + i, none⟩ = some (.string (ss.getD i ByteArray.empty))) :
    Calls Try.prog 6 #[.int .u8 op, .slice (some ⟨g, off, none⟩) ss.length cap, .bool d] w fun e w' => SomeBool e ∧ w' = w := by
  unfold maxLen at hl
  have HC := hide hc
  clear hc
  by_cases h20 : ss.length ≤ 1048576
  · go_enter Try.func6, Try.ntmps6
    go_wp2
    go_loop [7, 8] (fun sz si => ∃ (i : Nat) (z : Int), i ≤ ss.length ∧ si = .int .i64 (i : Int) ∧ sz = .int .i64 z ∧ 0 ≤ z ∧ z ≤ 1048576) (fun _ si => ss.length - (intOf si).toNat)
    case atStart => exact ⟨0, _, by omega, rfl, rfl, by omega, by omega⟩
    case round =>
      obtain ⟨i, z, hi, rfl, rfl, hz0, hz1⟩ := hrel
      by_cases hlt : i < ss.length
      · have hci := HC.out i hlt
        generalize ss.getD i ByteArray.empty = x at hci
        by_cases hx : x.size ≤ 1048576
        · by_cases hx2 : z + (x.size : Int) ≤ 1048576
          · go_wp2
            exact ⟨⟨i + 1, z + (x.size : Int), by omega, by go_num, rfl, by omega, by omega⟩, by simp [intOf]; omega⟩
          · go_wp2
            go_ret
            exact ⟨SomeBool.mk _, rfl⟩
        · go_wp2
          go_ret
          exact ⟨SomeBool.mk _, rfl⟩
      · go_wp2
        go_ret
        exact ⟨SomeBool.mk _, rfl⟩
  · go_enter Try.func6, Try.ntmps6
    go_wp2
    go_ret
    exact ⟨SomeBool.mk _, rfl⟩

theorem ret_bl {a b : Bool} (h : a = b) : Ending.returned (.bool a) = .returned (.bool b) := by rw [h]

/-- an owned row's cells -/
theorem own_cell {w : World} {B e g n cap : Nat} {xs : List Value} (h : w.ownsRow B e 1 (.slice (some ⟨g, 0, none⟩) n cap) n xs) : ∀ i u, xs[i]? = some u → w.cell? ⟨g, 0 + i, none⟩ = some u := by
  obtain ⟨hl, h2⟩ := h
  rcases h2 with ⟨h2, _⟩ | ⟨g', cap', cur, hv, _, hg, _, _, hs, ht⟩
  · cases h2
  · simp only [Value.slice.injEq, Option.some.injEq, Addr.mk.injEq] at hv
    obtain ⟨⟨rfl, _, _⟩, _, rfl⟩ := hv
    intro i u hu
    rw [cell_of_row w g (0 + i) cur e (0, 0) hg, Nat.zero_add]
    have hi : i < n * 1 := by
      rw [← hl]
      by_cases hc : i < xs.length
      · exact hc
      · rw [List.getElem?_eq_none (by omega)] at hu; cases hu
    rw [← ht, List.getElem?_take_of_lt hi] at hu
    simpa using hu

/-- zzSameStrings at a row of the call's own and a copy -/
theorem same_own (B : Nat) (sa : Option Addr) (sc gb ob cb : Nat) (ss' ss : List ByteArray) (w : World) (hs : ss' = ss) (hn : ss.length ≤ 1000000)
    (hown : w.ownsRow B 9 1 (.slice sa ss'.length sc) ss'.length (ss'.map Value.string))
    (hB : ∀ i, i < ss.length → w.cell? ⟨gb, ob + i, none⟩ = some (.string (ss.getD i ByteArray.empty))) :
    Calls Try.prog 9 #[.slice sa ss'.length sc, .slice (some ⟨gb, ob, none⟩) ss.length cb] w fun e w' => e = .returned (.bool true) ∧ ∃ n, w' = w.drewN n := by
  subst hs
  by_cases h0 : ss'.length = 0
  · rw [h0]
    refine (same_nil sa (some ⟨gb, ob, none⟩) sc cb w).mono ?_
    rintro e w' ⟨rfl, rfl⟩
    exact ⟨rfl, 0, rfl⟩
  · obtain ⟨g, cap, e⟩ := own_form hown (by omega)
    simp only [Value.slice.injEq, true_and] at e
    obtain ⟨rfl, rfl⟩ := e
    exact same_yes g 0 sc gb ob cb ss' w hn (fun i hi => own_cell hown i _ (by simp [hi])) hB

set_option maxRecDepth 100000 in
set_option maxHeartbeats 2000000 in
theorem law_some (op : Int) (d : Bool) (g off cap : Nat) (ss : List ByteArray) (w : World) (hl : ss.length ≤ maxLen)
    (hc : ∀ i, i < ss.length → g < w.heap.size ∧ w.cell? ⟨g, off + i, none⟩ = some (.string (ss.getD i ByteArray.empty))) :
    Calls Try.prog 3 #[.int .u8 op, .slice (some ⟨g, off, none⟩) ss.length cap, .bool d] w fun e w' => e = .returned (.bool true) ∧ Below w.heap.size w w' := by
  have HC := hide hc
  have hlb := hide (lbytes op d g off cap ss w hl (fun i hi => (hc i hi).2))
  clear hc
  unfold maxLen at hl
  go_enter Try.func3, Try.ntmps3
  go_wp2_with (go_at_call 6; fail)
  refine hlb.out.mono ?_
  rintro e w' ⟨⟨t, rfl⟩, rfl⟩
  clear hlb
  cases t with
  | false =>
    go_wp2_with fail
    go_ret
    exact ⟨rfl, Below.refl _ _⟩
  | true =>
    by_cases h16 : ss.length ≤ 65536
    · go_wp2_with fail
      go_loop [7, 8] (fun st si => ∃ (i : Nat) (tot : Int), i ≤ ss.length ∧ si = .int .i64 (i : Int) ∧ st = .int .i64 tot ∧ 0 ≤ tot ∧ tot ≤ (i : Int) * 1048592) (fun _ si => ss.length - (intOf si).toNat)
      case atStart => exact ⟨0, 0, by omega, rfl, rfl, by omega, by omega⟩
      case round =>
        obtain ⟨i, tot, hi, rfl, rfl, ht0, ht1⟩ := hrel
        by_cases hlt : i < ss.length
        · have hci := (HC.out i hlt).2
          generalize ss.getD i ByteArray.empty = x at hci
          by_cases hx : x.size ≤ 1048576
          · go_wp2_with fail
            exact ⟨⟨i + 1, tot + (16 + (x.size : Int)), by omega, by go_num, by go_num, by omega, by omega⟩, by simp [intOf]; omega⟩
          · go_wp2_with fail
            go_ret
            exact ⟨rfl, Below.refl _ _⟩
        · have hin : i = ss.length := by omega
          subst hin
          by_cases ht : tot ≤ 1048576
          · go_wp2_with (go_at_call 7; fail)
            refine (clone_any g off cap ss _ h16 HC.out).mono ?_
            rintro e w1 ⟨rfl, hcp⟩
            have HCP := hide hcp
            have hsz1 : w'.heap.size < w1.heap.size := by have := hcp.size; omega
            clear hcp
            go_wp2_with (go_at_call 8; fail)
            refine (zl op d _ w'.heap.size 0 ss.length ss h16 (fun i hi => ⟨hsz1, HCP.out.cell i hi⟩)).mono ?_
            rintro e w2 ⟨sa, sc, oa, oc, rfl, hso, hoo, hb2⟩
            obtain ⟨g3, c3, e3⟩ := own_form hoo (by omega)
            simp only [Value.slice.injEq, true_and] at e3
            obtain ⟨rfl, rfl⟩ := e3
            have hc3 : w2.cell? ⟨g3, 0, none⟩ = some (.int .i64 0) := own_cell hoo 0 (.int .i64 0) rfl
            have HB := hide (HCP.out.below.trans (hb2.mono (by omega)))
            have HSO := hide hso
            have HCN : Hid (∀ i, i < ss.length → w2.cell? ⟨w'.heap.size, 0 + i, none⟩ = some (.string (ss.getD i ByteArray.empty))) := fun i hi => (hb2.cell (p := ⟨w'.heap.size, 0 + i, none⟩) hsz1).trans (HCP.out.cell i hi)
            clear hso hoo hb2
            cases d with
            | false =>
              go_wp2_with fail
              go_ret
              exact ⟨ret_bl (by simp [lr]), HB.out⟩
            | true =>
              have e1 : (((lk true ss.length : Nat) : Int) == (ss.length : Int) + 1) = true := by simp [lk]; omega
              go_wp2_with (go_at_call 9; fail)
              refine (same_own w1.heap.size sa sc w'.heap.size 0 ss.length (lr true ss) ss w2 rfl (by omega) HSO.out HCN.out).mono ?_
              rintro e w3 ⟨rfl, nd, rfl⟩
              go_wp2_with fail
              go_ret
              exact ⟨rfl, below_drewN HB.out _⟩
          · go_wp2_with fail
            go_ret
            exact ⟨rfl, Below.refl _ _⟩
    · go_wp2_with fail
      go_ret
      exact ⟨rfl, Below.refl _ _⟩

set_option maxRecDepth 100000 in
set_option maxHeartbeats 2000000 in
theorem law_nil (op : Int) (d : Bool) (w : World) :
    Calls Try.prog 3 #[.int .u8 op, .slice none 0 0, .bool d] w fun e w' => e = .returned (.bool true) ∧ Below w.heap.size w w' := by
  go_enter Try.func3, Try.ntmps3
  go_wp2_with (go_at_call 6; refine (lbytes_nil op d _).mono ?_; rintro e w' ⟨rfl, rfl⟩)
  refine wp_loop_rounds 1 ?_
  rw [rounds_succ]
  go_wp2_with (first | (go_at_call 7; refine (clone_nil _).mono ?_; rintro e w1 ⟨rfl, rfl⟩) | (go_at_call 8; fail))
  refine (zl_nil op d _).mono ?_
  rintro e w2 ⟨sa, sc, oa, oc, rfl, hso, hoo, hb2⟩
  obtain ⟨g3, c3, e3⟩ := own_form hoo (by omega)
  simp only [Value.slice.injEq, true_and] at e3
  obtain ⟨rfl, rfl⟩ := e3
  have hc3 : w2.cell? ⟨g3, 0, none⟩ = some (.int .i64 0) := own_cell hoo 0 (.int .i64 0) rfl
  have HB := hide hb2
  clear hso hoo hb2
  cases d with
  | false =>
    go_wp2_with fail
    go_ret
    exact ⟨ret_bl (by simp [lr]), HB.out⟩
  | true =>
    have e1 : (((lk true 0 : Nat) : Int) == 1) = true := by simp [lk]
    go_wp2_with (go_at_call 9; fail)
    refine (same_nil sa none sc 0 _).mono ?_
    rintro e w3 ⟨rfl, rfl⟩
    go_wp2_with fail
    go_ret
    exact ⟨rfl, HB.out⟩

set_option maxHeartbeats 400000 in
theorem lbytes_empty (op : Int) (d : Bool) (ad : Addr) (cap : Nat) (w : World) : Calls Try.prog 6 #[.int .u8 op, .slice (some ad) 0 cap, .bool d] w fun e w' => e = .returned (.bool true) ∧ w' = w := by
  go_enter Try.func6, Try.ntmps6
  go_wp2
  refine wp_loop_rounds 1 ?_
  rw [rounds_succ]
  go_wp2
  go_ret
  exact ⟨rfl, rfl⟩

set_option maxHeartbeats 400000 in
theorem clone_empty (ad : Addr) (cap : Nat) (w : World) : Calls Try.prog 7 #[.slice (some ad) 0 cap] w fun e w' => e = .returned (.slice (some ⟨w.heap.size, 0, none⟩) 0 0) ∧ Copied w.heap.size 0 0 [] w w' := by
  have hmk : ∀ w : World, (Instr.makeSlice 22 (.int .i64 0) (.int .i64 0)).run Try.prog w = .ok (.slice (some ⟨w.heap.size, 0, none⟩) 0 0) (w.alloc (.cells (madeCells #[.string ByteArray.empty] 0) 9)) := fun w => run_make_row' (P := Try.prog) 22 9 (.string ByteArray.empty) 16 Try.underlying22 Try.info9 rfl .i64 .i64 0 (by omega) (by omega) w
  have hnil := fun (w : World) (a : Option Addr) (l c : Nat) => Lib.run_eql_slice_nil (P := Try.prog) w 22 9 a l c 0 0 Try.underlying22
  go_enter Try.func7, Try.ntmps7
  go_wp2
  refine wp_loop_rounds 1 ?_
  rw [rounds_succ]
  go_wp2
  go_ret
  exact ⟨rfl, Copied.start _ _ _ _⟩

set_option maxRecDepth 100000 in
set_option maxHeartbeats 2000000 in
theorem law_empty (op : Int) (d : Bool) (ad : Addr) (cap : Nat) (w : World) :
    Calls Try.prog 3 #[.int .u8 op, .slice (some ad) 0 cap, .bool d] w fun e w' => e = .returned (.bool true) ∧ Below w.heap.size w w' := by
  go_enter Try.func3, Try.ntmps3
  go_wp2_with (go_at_call 6; refine (lbytes_empty op d ad cap _).mono ?_; rintro e w' ⟨rfl, rfl⟩)
  refine wp_loop_rounds 1 ?_
  rw [rounds_succ]
  go_wp2_with (go_at_call 7; fail)
  refine (clone_empty ad cap _).mono ?_
  rintro e w1 ⟨rfl, hcp⟩
  have HCP := hide hcp
  have hsz1 := hide hcp.size
  clear hcp
  go_wp2_with (go_at_call 8; fail)
  refine (zl op d _ _ 0 0 [] (by decide) (fun i hi => by cases hi)).mono ?_
  rintro e w2 ⟨sa, sc, oa, oc, rfl, hso, hoo, hb2⟩
  obtain ⟨g3, c3, e3⟩ := own_form hoo (by omega)
  simp only [Value.slice.injEq, true_and] at e3
  obtain ⟨rfl, rfl⟩ := e3
  have hc3 : w2.cell? ⟨g3, 0, none⟩ = some (.int .i64 0) := own_cell hoo 0 (.int .i64 0) rfl
  have HB := hide (HCP.out.below.trans (hb2.mono (by have := hsz1.out; omega)))
  clear hso hoo hb2
  cases d with
  | false =>
    go_wp2_with fail
    go_ret
    exact ⟨ret_bl (by simp [lr]), HB.out⟩
  | true =>
    have e1 : (((lk true 0 : Nat) : Int) == 1) = true := by simp [lk]
    go_wp2_with (go_at_call 9; fail)
    refine (same_nil sa _ sc 0 _).mono ?_
    rintro e w3 ⟨rfl, rfl⟩
    go_wp2_with fail
    go_ret
    exact ⟨rfl, HB.out⟩
end Go.Proofs.Qxb6603603a
