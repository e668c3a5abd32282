import Derived.Test.Qxb6603603aInsp
import Derived.Deep.OwnRows
namespace Go.Proofs.Qxb6603603a
open Go.RowKit

theorem hide {p : Prop} (h : p) : Hid p := h

/-- how many visits, and which names are seen -/
def lk (d : Bool) (n : Nat) : Nat := if d then 1 + n else 1
def lr (d : Bool) (ss : List ByteArray) : List ByteArray := if d then ss else []

theorem Try.info38 : (Try.prog.info? 38).map (fun i => (i.zero, i.size, i.bytes)) = some (some .nilIface, 1, 16) := by kernel_rfl

/-- a slice of strings in memory below block B -/
def Strs (B : Nat) (w : World) (v : Value) (ss : List ByteArray) : Prop :=
  (v = .slice none 0 0 ∧ ss = []) ∨ ∃ g off cap, v = .slice (some ⟨g, off, none⟩) ss.length cap ∧ ∀ i, i < ss.length → g < B ∧ w.cell? ⟨g, off + i, none⟩ = some (.string (ss.getD i ByteArray.empty))

/-- the terms as they are built -/
structure Built (B n i : Nat) (ss : List ByteArray) (d : Bool) (w wr : World) : Prop where
  size : wr.heap.size = B + 5 + i
  d : wr.heap[B]? = some (.cells #[.bool d] 4 (0, 0))
  v : wr.heap[B + 1]? = some (.cells #[.int .i64 0] 3 (0, 0))
  s : wr.heap[B + 2]? = some (.cells #[.slice none 0 0] 22 (0, 0))
  o : wr.heap[B + 3]? = some (.cells #[.slice none 0 0] 25 (0, 0))
  t : ∃ cur : Array Value, wr.heap[B + 4]? = some (.cells cur 38 (0, 0)) ∧ cur.size = n ∧ ∀ j, j < i → cur[j]? = some (.iface 34 (.pointer (some ⟨B + 5 + j, 0, none⟩)))
  c : ∀ j, j < i → ∃ a b, wr.heap[B + 5 + j]? = some (.cells #[a, b, .string (ss.getD j ByteArray.empty)] 36 (0, 0))
  below : Below B w wr

theorem size_al (w : World) (X : Obj) : (w.alloc X).heap.size = w.heap.size + 1 := by show (w.heap.push X).size = _; simp
theorem at_al (w : World) (X : Obj) (i : Nat) (h : i = w.heap.size) : (w.alloc X).heap[i]? = some X := by subst h; exact heap_alloc_new w X
theorem old_al (w : World) (X : Obj) (i : Nat) (h : i < w.heap.size) : (w.alloc X).heap[i]? = w.heap[i]? := Below.heap_alloc w X i h

theorem Built.start (w : World) (n : Nat) (ss : List ByteArray) (d : Bool) : Built w.heap.size n 0 ss d w (((((w.alloc (.cells #[.bool d] 4)).alloc (.cells #[.int .i64 0] 3)).alloc (.cells #[.slice none 0 0] 22)).alloc (.cells #[.slice none 0 0] 25)).alloc (.cells (madeCells #[.nilIface] n) 38)) := by
  refine ⟨?_, ?_, ?_, ?_, ?_, ⟨madeCells #[.nilIface] n, ?_, size_madeCells _ _, fun j hj => by omega⟩, fun j hj => by omega, ?_⟩
  · simp only [size_al]
  · rw [old_al _ _ _ (by simp only [size_al]; omega), old_al _ _ _ (by simp only [size_al]; omega), old_al _ _ _ (by simp only [size_al]; omega), old_al _ _ _ (by simp only [size_al]; omega), at_al _ _ _ rfl]
  · rw [old_al _ _ _ (by simp only [size_al]; omega), old_al _ _ _ (by simp only [size_al]; omega), old_al _ _ _ (by simp only [size_al]; omega), at_al _ _ _ (by simp only [size_al])]
  · rw [old_al _ _ _ (by simp only [size_al]; omega), old_al _ _ _ (by simp only [size_al]; omega), at_al _ _ _ (by simp only [size_al])]
  · rw [old_al _ _ _ (by simp only [size_al]; omega), at_al _ _ _ (by simp only [size_al])]
  · rw [at_al _ _ _ (by simp only [size_al])]
  · exact (((((Below.refl _ _).alloc (Nat.le_refl _) _).alloc (by simp only [size_al]; omega) _).alloc (by simp only [size_al]; omega) _).alloc (by simp only [size_al]; omega) _).alloc (by simp only [size_al]; omega) _

theorem Built.slot {B n i : Nat} {ss : List ByteArray} {d : Bool} {w wr : World} (h : Built B n i ss d w wr) (hi : i < n) : ∃ v, wr.cell? ⟨B + 1 + 1 + 1 + 1, i, none⟩ = some v ∧ wr.frozen? ⟨B + 1 + 1 + 1 + 1, i, none⟩ = false := by
  obtain ⟨cur, h1, h2, _⟩ := h.t
  exact ⟨cur[i]'(by omega), by rw [cell_of_row wr (B + 1 + 1 + 1 + 1) i cur 38 (0, 0) h1]; simp [h2, hi], frozen_of_row wr (B + 1 + 1 + 1 + 1) i cur 38 h1⟩

theorem Built.step {B n i : Nat} {ss : List ByteArray} {d : Bool} {w wr : World} (h : Built B n i ss d w wr) (hi : i < n) (a b : Value) (x : ByteArray) (hx : ss.getD i ByteArray.empty = x) :
    Built B n (i + 1) ss d w ((wr.setCell ⟨B + 1 + 1 + 1 + 1, i, none⟩ (.iface 34 (.pointer (some ⟨wr.heap.size, 0, none⟩)))).alloc (.cells #[a, b, .string x] 36)) := by
  have hs := h.size
  have hset : ∀ k, k < B + 5 + i → k ≠ B + 4 → ((wr.setCell ⟨B + 1 + 1 + 1 + 1, i, none⟩ (.iface 34 (.pointer (some ⟨wr.heap.size, 0, none⟩)))).alloc (.cells #[a, b, .string x] 36)).heap[k]? = wr.heap[k]? := fun k h1 h2 => by
    rw [old_al _ _ _ (by simp; omega)]
    exact Below.heap_setCell _ _ _ _ h2
  obtain ⟨cur, t1, t2, t3⟩ := h.t
  refine ⟨by simp only [size_al, World.heap_size_setCell']; omega, ?_, ?_, ?_, ?_, ⟨cur.setIfInBounds i (.iface 34 (.pointer (some ⟨wr.heap.size, 0, none⟩))), ?_, by simp [t2], fun j hj => ?_⟩, fun j hj => ?_, ?_⟩
  · rw [hset _ (by omega) (by omega)]; exact h.d
  · rw [hset _ (by omega) (by omega)]; exact h.v
  · rw [hset _ (by omega) (by omega)]; exact h.s
  · rw [hset _ (by omega) (by omega)]; exact h.o
  · rw [old_al _ _ _ (by simp; omega)]
    exact heap_setCell_same wr (B + 4) i cur 38 _ t1
  · rw [Array.getElem?_setIfInBounds]
    by_cases e : i = j
    · subst e
      rw [if_pos rfl, if_pos (by omega), hs]
    · rw [if_neg e]; exact t3 j (by omega)
  · by_cases e : j = i
    · subst e
      exact ⟨a, b, by rw [at_al _ _ _ (by simp; omega), hx]⟩
    · obtain ⟨a', b', hc⟩ := h.c j (by omega)
      exact ⟨a', b', by rw [hset _ (by omega) (by omega)]; exact hc⟩
  · exact (h.below.setCell (by show B ≤ B + 4; omega) _).alloc (by simp; omega) _

theorem Built.vis {B n : Nat} {ss : List ByteArray} {d : Bool} {w wr : World} (h : Built B n n ss d w wr) (X : Obj) : Vis (B + 6 + n) (B + 1) (B + 1 + 1) (B + 1 + 1 + 1) (wr.alloc X) 0 [] [] := by
  have hs := h.size
  refine ⟨by omega, by omega, by omega, by omega, by omega, by omega, by simp only [size_al]; omega, ?_, ⟨.slice none 0 0, ?_, World.ownsRow_nil _ _ _ _⟩, ⟨.slice none 0 0, ?_, World.ownsRow_nil _ _ _ _⟩⟩
  · rw [old_al _ _ _ (by omega)]; exact h.v
  · rw [old_al _ _ _ (by omega)]; exact h.s
  · rw [old_al _ _ _ (by omega)]; exact h.o

/-- Inspect at the Logical that has been built -/
theorem insp_log {B n : Nat} {ss : List ByteArray} {d : Bool} {w wr : World} (h : Built B n n ss d w wr) (hn : ss.length = n) (h6 : n ≤ 65536) (op : Int) :
    Calls Try.prog 14 #[.iface 40 (.pointer (some ⟨wr.heap.size, 0, none⟩)), .func (.func 15) #[] #[.pointer (some ⟨B + 1, 0, none⟩), .pointer (some ⟨B + 1 + 1, 0, none⟩), .pointer (some ⟨B + 1 + 1 + 1, 0, none⟩), .pointer (some ⟨B, 0, none⟩)]]
      (wr.alloc (.cells #[.int .u8 op, .slice (some ⟨B + 1 + 1 + 1 + 1, 0, none⟩) n n] 43)) fun e w' =>
      e = .returned (.tuple #[]) ∧ Vis (B + 6 + n) (B + 1) (B + 1 + 1) (B + 1 + 1 + 1) w' (lk d n) (lr d ss) [0] ∧ Keep (B + 6 + n) (B + 1) (B + 1 + 1) (B + 1 + 1 + 1) (wr.alloc (.cells #[.int .u8 op, .slice (some ⟨B + 1 + 1 + 1 + 1, 0, none⟩) n n] 43)) w' := by
  have hs := h.size
  have hd : (wr.alloc (.cells #[.int .u8 op, .slice (some ⟨B + 1 + 1 + 1 + 1, 0, none⟩) n n] 43)).cell? ⟨B, 0, none⟩ = some (.bool d) := cell_of_one (t := 4) (by rw [old_al _ _ _ (by omega)]; exact h.d)
  cases d with
  | false => exact insp_no (h.vis _) (by omega) (by omega) (by omega) hd
  | true =>
    obtain ⟨cur, t1, t2, t3⟩ := h.t
    subst hn
    refine insp_yes (T := B + 1 + 1 + 1 + 1) ss (fun i => B + 5 + i) (h.vis _) (by omega) (by omega) (by omega) hd (by omega) (by omega) (by omega) (by omega) (by omega) ?_ (by omega) (by omega) (by omega) (by omega) ?_ ?_
    · rw [cell_of_row _ wr.heap.size 1 _ 43 (0, 0) (at_al _ _ _ rfl)]; rfl
    · intro i hi
      rw [cell_of_row _ (B + 1 + 1 + 1 + 1) i cur 38 (0, 0) (by rw [old_al _ _ _ (by omega)]; exact t1)]
      exact t3 i hi
    · intro i hi
      refine ⟨by omega, by omega, by omega, by omega, ?_⟩
      obtain ⟨a, b, hc⟩ := h.c i hi
      rw [cell_of_row _ (B + 5 + i) 2 _ 36 (0, 0) (by rw [old_al _ _ _ (by omega)]; exact hc)]
      rfl

theorem own_slice {w : World} {H e size n : Nat} {v : Value} {xs : List Value} (h : w.ownsRow H e size v n xs) : ∃ a cap, v = .slice a n cap := by
  obtain ⟨_, h5⟩ := h
  rcases h5 with ⟨rfl, rfl⟩ | ⟨g, cap, cur, h6, _⟩
  · exact ⟨_, _, rfl⟩
  · exact ⟨_, cap, h6⟩

/-- the three variables written again: their cells -/
theorem Vis.set3 {H V S O : Nat} {w : World} {k : Nat} {names : List ByteArray} {oth : List Int} (h : Vis H V S O w k names oth) (x y z : Value) :
    (((w.setCell ⟨V, 0, none⟩ x).setCell ⟨S, 0, none⟩ y).setCell ⟨O, 0, none⟩ z).cell? ⟨V, 0, none⟩ = some x ∧
    (((w.setCell ⟨V, 0, none⟩ x).setCell ⟨S, 0, none⟩ y).setCell ⟨O, 0, none⟩ z).cell? ⟨S, 0, none⟩ = some y ∧
    (((w.setCell ⟨V, 0, none⟩ x).setCell ⟨S, 0, none⟩ y).setCell ⟨O, 0, none⟩ z).cell? ⟨O, 0, none⟩ = some z := by
  obtain ⟨sv, hS, _⟩ := h.s
  obtain ⟨ov, hO, _⟩ := h.o
  refine ⟨?_, ?_, ?_⟩
  · refine cell_of_one (t := 3) ?_
    rw [Below.heap_setCell _ _ _ _ h.vo, Below.heap_setCell _ _ _ _ h.vs]
    exact one_setCell h.v
  · refine cell_of_one (t := 22) ?_
    rw [Below.heap_setCell _ _ _ _ h.so]
    exact one_setCell (v := sv) (by rw [Below.heap_setCell _ _ _ _ h.vs.symm]; exact hS)
  · exact cell_of_one (t := 25) (one_setCell (v := ov) (by rw [Below.heap_setCell _ _ _ _ h.so.symm, Below.heap_setCell _ _ _ _ h.vo.symm]; exact hO))

/-- what ZZinspectLogicalOfColumns hands back -/
def Zret (B : Nat) (w : World) (d : Bool) (ss : List ByteArray) (e : Ending) (w' : World) : Prop :=
  ∃ sa sc oa oc, e = .returned (.tuple #[.int .i64 (lk d ss.length : Int), .slice sa (lr d ss).length sc, .slice oa 1 oc]) ∧
    w'.ownsRow B 9 1 (.slice sa (lr d ss).length sc) (lr d ss).length ((lr d ss).map Value.string) ∧
    w'.ownsRow B 3 1 (.slice oa 1 oc) 1 [.int .i64 0] ∧ Below B w w'

theorem own_base {w : World} {H B e size n : Nat} {v : Value} {xs : List Value} (h : w.ownsRow H e size v n xs) (hb : B ≤ H) : w.ownsRow B e size v n xs := by
  obtain ⟨h1, h2⟩ := h
  refine ⟨h1, ?_⟩
  rcases h2 with h2 | ⟨g, cap, cur, hv, hg, r⟩
  · exact .inl h2
  · exact .inr ⟨g, cap, cur, hv, by omega, r⟩

theorem Keep.below {H V S O B : Nat} {w w' : World} (h : Keep H V S O w w') (hH : B ≤ H) (hV : B ≤ V) (hS : B ≤ S) (hO : B ≤ O) : Below B w w' :=
  ⟨h.os, h.tape, h.output, h.size, fun k hk => h.block k (by omega) (by omega) (by omega) (by omega)⟩

set_option maxRecDepth 100000 in
set_option maxHeartbeats 1000000 in
theorem zl (op : Int) (d : Bool) (w : World) (g off cap : Nat) (ss : List ByteArray) (hn : ss.length ≤ 65536)
    (hc : ∀ i, i < ss.length → g < w.heap.size ∧ w.cell? ⟨g, off + i, none⟩ = some (.string (ss.getD i ByteArray.empty))) :
    Calls Try.prog 8 #[.int .u8 op, .slice (some ⟨g, off, none⟩) ss.length cap, .bool d] w fun e w' => Zret w.heap.size w d ss e w' := by
  have hmk := run_make_row' (P := Try.prog) 33 38 .nilIface 16 Try.underlying33 Try.info38 rfl .i64 .i64 ss.length (by omega) (by omega)
  have HC : Hid (∀ i, i < ss.length → g < w.heap.size ∧ w.cell? ⟨g, off + i, none⟩ = some (.string (ss.getD i ByteArray.empty))) := hc
  clear hc
  go_enter Try.func8, Try.ntmps8
  go_wp2_with fail
  go_loopw [16] (fun si wr => ∃ i : Nat, i ≤ ss.length ∧ si = .int .i64 (i : Int) ∧ Hid (Built w.heap.size ss.length i ss d w wr)) (fun si _ => ss.length - (intOf si).toNat)
  case atStart =>
    exact ⟨0, by omega, rfl, Built.start _ _ _ _⟩
  case round =>
    obtain ⟨i, hi, rfl, hb⟩ := hrel
    by_cases hlt : i < ss.length
    · obtain ⟨hg, hcn⟩ := HC.out i hlt
      have hcn' : wr.cell? ⟨g, off + i, none⟩ = some (.string (ss.getD i ByteArray.empty)) := (hb.out.below.cell (p := ⟨g, off + i, none⟩) hg).trans hcn
      clear hcn
      obtain ⟨vc, hcT, hfT⟩ := hb.out.slot hlt
      have hTlt : w.heap.size + 1 + 1 + 1 + 1 < wr.heap.size := by have := hb.out.size; omega
      go_wp2_with fail
      exact ⟨⟨i + 1, by omega, by go_num, hb.out.step hlt _ _ _ (by simp [hlt])⟩, by simp [intOf]; omega⟩
    · have hin : i = ss.length := by omega
      subst hin
      go_wp2_with fail
      refine (insp_log hb.out rfl hn op).mono ?_
      rintro e w2 ⟨rfl, hv, hk⟩
      obtain ⟨sv, hS, hso⟩ := hv.s
      obtain ⟨ov, hO, hoo⟩ := hv.o
      obtain ⟨sa, sc, rfl⟩ := own_slice hso
      obtain ⟨oa, oc, rfl⟩ := own_slice hoo
      have c1 := cell_of_one hv.v
      have f1 := free_of_one hv.v
      have c2 := cell_of_one hS
      have f2 := free_of_one hS
      have c3 := cell_of_one hO
      have f3 := free_of_one hO
      have HV : Hid (Vis (w.heap.size + 6 + ss.length) (w.heap.size + 1) (w.heap.size + 1 + 1) (w.heap.size + 1 + 1 + 1) w2 (lk d ss.length) (lr d ss) [0]) := hv
      have HSO := hide hso
      have HOO := hide hoo
      have HK := hide hk
      clear hv hS hO hso hoo hk
      go_wp2_with fail
      go_region
      go_wp2_with fail
      have k1 := fun x y z => (HV.out.set3 x y z).1
      have k2 := fun x y z => (HV.out.set3 x y z).2.1
      have k3 := fun x y z => (HV.out.set3 x y z).2.2
      refine bodyPost_ret (v := .tuple #[.int .i64 (lk d ss.length : Int), .slice sa (lr d ss).length sc, .slice oa 1 oc]) (by simp [results, Try.results8, go_sem, k1, k2, k3]) rfl ?_
      have hb2 := (hb.out.below.alloc (by have := hb.out.size; omega) (.cells #[.int .u8 op, .slice (some ⟨w.heap.size + 1 + 1 + 1 + 1, 0, none⟩) ss.length ss.length] 43)).trans (HK.out.below (B := w.heap.size) (by omega) (by omega) (by omega) (by omega))
      exact ⟨sa, sc, oa, oc, rfl, (own_base (ownsRow_setCell_below (ownsRow_setCell_below (ownsRow_setCell_below HSO.out HV.out.ltV _) HV.out.ltS _) HV.out.ltO _) (by omega)).drew, (own_base (ownsRow_setCell_below (ownsRow_setCell_below (ownsRow_setCell_below HOO.out HV.out.ltV _) HV.out.ltS _) HV.out.ltO _) (by omega)).drew, (((hb2.setCell (by show _ ≤ w.heap.size + 1; omega) _).setCell (by show _ ≤ w.heap.size + 1 + 1; omega) _).setCell (by show _ ≤ w.heap.size + 1 + 1 + 1; omega) _).drew⟩

set_option maxRecDepth 100000 in
set_option maxHeartbeats 1000000 in
theorem zl_nil (op : Int) (d : Bool) (w : World) :
    Calls Try.prog 8 #[.int .u8 op, .slice none 0 0, .bool d] w fun e w' => Zret w.heap.size w d [] e w' := by
  have hmk : ∀ w : World, (Instr.makeSlice 33 (.int .i64 0) (.int .i64 0)).run Try.prog w = .ok (.slice (some ⟨w.heap.size, 0, none⟩) 0 0) (w.alloc (.cells (madeCells #[.nilIface] 0) 38)) := fun w => run_make_row' (P := Try.prog) 33 38 .nilIface 16 Try.underlying33 Try.info38 rfl .i64 .i64 0 (by omega) (by omega) w
  go_enter Try.func8, Try.ntmps8
  go_wp2_with fail
  refine wp_loop_rounds 1 ?_
  rw [rounds_succ]
  go_wp2_with fail
  have hb := Built.start w 0 [] d
  have hcall := insp_log hb rfl (by omega) op
  rw [hb.size] at hcall
  refine hcall.mono ?_
  clear hcall
  rintro e w2 ⟨rfl, hv, hk⟩
  obtain ⟨sv, hS, hso⟩ := hv.s
  obtain ⟨ov, hO, hoo⟩ := hv.o
  obtain ⟨sa, sc, rfl⟩ := own_slice hso
  obtain ⟨oa, oc, rfl⟩ := own_slice hoo
  have c1 := cell_of_one hv.v
  have f1 := free_of_one hv.v
  have c2 := cell_of_one hS
  have f2 := free_of_one hS
  have c3 := cell_of_one hO
  have f3 := free_of_one hO
  have HV : Hid (Vis (w.heap.size + 6 + 0) (w.heap.size + 1) (w.heap.size + 1 + 1) (w.heap.size + 1 + 1 + 1) w2 (lk d 0) (lr d []) [0]) := hv
  have HSO := hide hso
  have HOO := hide hoo
  have HK := hide hk
  clear hv hS hO hso hoo hk
  go_wp2_with fail
  go_region
  go_wp2_with fail
  have k1 := fun x y z => (HV.out.set3 x y z).1
  have k2 := fun x y z => (HV.out.set3 x y z).2.1
  have k3 := fun x y z => (HV.out.set3 x y z).2.2
  refine bodyPost_ret (v := .tuple #[.int .i64 (lk d 0 : Int), .slice sa (lr d []).length sc, .slice oa 1 oc]) (by simp [results, Try.results8, go_sem, k1, k2, k3]) rfl ?_
  have hb2 := (hb.below.alloc (by have := hb.size; omega) (.cells #[.int .u8 op, .slice (some ⟨w.heap.size + 1 + 1 + 1 + 1, 0, none⟩) 0 0] 43)).trans (HK.out.below (B := w.heap.size) (by omega) (by omega) (by omega) (by omega))
  exact ⟨sa, sc, oa, oc, rfl, (own_base (ownsRow_setCell_below (ownsRow_setCell_below (ownsRow_setCell_below HSO.out HV.out.ltV _) HV.out.ltS _) HV.out.ltO _) (by omega)).drew, (own_base (ownsRow_setCell_below (ownsRow_setCell_below (ownsRow_setCell_below HOO.out HV.out.ltV _) HV.out.ltS _) HV.out.ltO _) (by omega)).drew, (((hb2.setCell (by show _ ≤ w.heap.size + 1; omega) _).setCell (by show _ ≤ w.heap.size + 1 + 1; omega) _).setCell (by show _ ≤ w.heap.size + 1 + 1 + 1; omega) _).drew⟩
end Go.Proofs.Qxb6603603a
