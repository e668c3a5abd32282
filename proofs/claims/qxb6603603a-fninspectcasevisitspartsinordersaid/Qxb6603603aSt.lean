import Derived.Test.Qxb6603603aZL
import Derived.Deep.QuietTactic
import Derived.BigQuiet
namespace Go.Proofs.Qxb6603603a
open Go.RowKit

theorem clone_nil (w : World) : Calls Try.prog 7 #[.slice none 0 0] w fun e w' => e = .returned (.slice none 0 0) ∧ w' = w := by
  have hnil := fun (w : World) (a : Option Addr) (l c : Nat) => Lib.run_eql_slice_nil (P := Try.prog) w 22 9 a l c 0 0 Try.underlying22
  go_enter Try.func7, Try.ntmps7
  go_wp2
  go_ret
  exact ⟨rfl, rfl⟩

/-- the copy as it is made -/
structure Copied (B n i : Nat) (ss : List ByteArray) (w wr : World) : Prop where
  size : wr.heap.size = B + 1
  t : ∃ cur : Array Value, wr.heap[B]? = some (.cells cur 9 (0, 0)) ∧ cur.size = n ∧ ∀ j, j < i → cur[j]? = some (.string (ss.getD j ByteArray.empty))
  below : Below B w wr

theorem Copied.start (w : World) (n : Nat) (ss : List ByteArray) (z : Value) : Copied w.heap.size n 0 ss w (w.alloc (.cells (madeCells #[z] n) 9)) :=
  ⟨size_al _ _, ⟨_, at_al _ _ _ rfl, size_madeCells _ _, fun j hj => by omega⟩, (Below.refl _ _).alloc (Nat.le_refl _) _⟩

theorem Copied.slot {B n i : Nat} {ss : List ByteArray} {w wr : World} (h : Copied B n i ss w wr) (hi : i < n) : ∃ v, wr.cell? ⟨B, i, none⟩ = some v ∧ wr.frozen? ⟨B, i, none⟩ = false := by
  obtain ⟨cur, h1, h2, _⟩ := h.t
  exact ⟨cur[i]'(by omega), by rw [cell_of_row wr B i cur 9 (0, 0) h1]; simp [h2, hi], frozen_of_row wr B i cur 9 h1⟩

theorem Copied.step {B n i : Nat} {ss : List ByteArray} {w wr : World} (h : Copied B n i ss w wr) (hi : i < n) (x : ByteArray) (hx : ss.getD i ByteArray.empty = x) : Copied B n (i + 1) ss w (wr.setCell ⟨B, i, none⟩ (.string x)) := by
  obtain ⟨cur, t1, t2, t3⟩ := h.t
  refine ⟨by simpa using h.size, ⟨cur.setIfInBounds i (.string x), heap_setCell_same wr B i cur 9 _ t1, by simp [t2], fun j hj => ?_⟩, h.below.setCell (Nat.le_refl _) _⟩
  rw [Array.getElem?_setIfInBounds]
  by_cases e : i = j
  · subst e
    rw [if_pos rfl, if_pos (by omega), hx]
  · rw [if_neg e]; exact t3 j (by omega)

theorem Copied.cell {B n : Nat} {ss : List ByteArray} {w wr : World} (h : Copied B n n ss w wr) (i : Nat) (hi : i < n) : wr.cell? ⟨B, 0 + i, none⟩ = some (.string (ss.getD i ByteArray.empty)) := by
  obtain ⟨cur, t1, t2, t3⟩ := h.t
  rw [cell_of_row wr B (0 + i) cur 9 (0, 0) t1, Nat.zero_add]; exact t3 i hi

set_option maxHeartbeats 400000 in
theorem clone_any (g off cap : Nat) (ss : List ByteArray) (w : World) (hn : ss.length ≤ 65536)
    (hc : ∀ i, i < ss.length → g < w.heap.size ∧ w.cell? ⟨g, off + i, none⟩ = some (.string (ss.getD i ByteArray.empty))) :
    Calls Try.prog 7 #[.slice (some ⟨g, off, none⟩) ss.length cap] w fun e w' => e = .returned (.slice (some ⟨w.heap.size, 0, none⟩) ss.length ss.length) ∧ Copied w.heap.size ss.length ss.length ss w w' := by
  have hmk := run_make_row' (P := Try.prog) 22 9 (.string ByteArray.empty) 16 Try.underlying22 Try.info9 rfl .i64 .i64 ss.length (by omega) (by omega)
  have HC : Hid (∀ i, i < ss.length → g < w.heap.size ∧ w.cell? ⟨g, off + i, none⟩ = some (.string (ss.getD i ByteArray.empty))) := hc
  clear hc
  have hnil := fun (w : World) (a : Option Addr) (l c : Nat) => Lib.run_eql_slice_nil (P := Try.prog) w 22 9 a l c 0 0 Try.underlying22
  go_enter Try.func7, Try.ntmps7
  go_wp2
  go_loopw [4] (fun si wr => ∃ i : Nat, i ≤ ss.length ∧ si = .int .i64 (i : Int) ∧ Hid (Copied w.heap.size ss.length i ss w wr)) (fun si _ => ss.length - (intOf si).toNat)
  case atStart => exact ⟨0, by omega, rfl, Copied.start _ _ _ _⟩
  case round =>
    obtain ⟨i, hi, rfl, hb⟩ := hrel
    by_cases hlt : i < ss.length
    · obtain ⟨hg, hcn⟩ := HC.out i hlt
      have hcn' : wr.cell? ⟨g, off + i, none⟩ = some (.string (ss.getD i ByteArray.empty)) := (hb.out.below.cell (p := ⟨g, off + i, none⟩) hg).trans hcn
      clear hcn
      obtain ⟨vc, hcT, hfT⟩ := hb.out.slot hlt
      go_wp2
      exact ⟨⟨i + 1, by omega, by go_num, hb.out.step hlt _ (by simp [hlt])⟩, by simp [intOf]; omega⟩
    · have hin : i = ss.length := by omega
      subst hin
      go_wp2
      go_ret
      exact ⟨rfl, hb.out⟩

set_option maxHeartbeats 400000 in
theorem same_nil (a b : Option Addr) (ca cb : Nat) (w : World) : Calls Try.prog 9 #[.slice a 0 ca, .slice b 0 cb] w fun e w' => e = .returned (.bool true) ∧ w' = w := by
  go_enter Try.func9, Try.ntmps9
  go_wp2
  refine wp_loop_rounds 1 ?_
  rw [rounds_succ]
  go_wp2
  go_ret
  exact ⟨rfl, rfl⟩

set_option maxHeartbeats 400000 in
/-- zzSameStrings at two slices that hold the same strings -/
theorem same_yes (ga oa ca gb ob cb : Nat) (ss : List ByteArray) (w : World) (hn : ss.length ≤ 1000000)
    (hA : ∀ i, i < ss.length → w.cell? ⟨ga, oa + i, none⟩ = some (.string (ss.getD i ByteArray.empty)))
    (hB : ∀ i, i < ss.length → w.cell? ⟨gb, ob + i, none⟩ = some (.string (ss.getD i ByteArray.empty))) :
    Calls Try.prog 9 #[.slice (some ⟨ga, oa, none⟩) ss.length ca, .slice (some ⟨gb, ob, none⟩) ss.length cb] w fun e w' => e = .returned (.bool true) ∧ ∃ n, w' = w.drewN n := by
  have HA := hide hA
  have HB := hide hB
  clear hA hB
  go_enter Try.func9, Try.ntmps9
  go_wp2
  go_loopw [5] (fun i wr => ∃ k n : Nat, k ≤ ss.length ∧ i = .int .i64 (k : Int) ∧ wr = w.drewN n) (fun i _ => ss.length - (intOf i).toNat)
  case atStart => exact ⟨0, 0, by omega, rfl, rfl⟩
  case round =>
    obtain ⟨k, n, hk, rfl, rfl⟩ := hrel
    by_cases hlt : k < ss.length
    · have ha := HA.out k hlt
      have hb := HB.out k hlt
      go_wp2
      go_quiet (fail)
      go_wp2
      exact ⟨⟨k + 1, n + nq, by omega, by go_num, rfl⟩, by simp [intOf]; omega⟩
    · go_wp2
      go_ret
      exact ⟨rfl, n, rfl⟩
end Go.Proofs.Qxb6603603a
