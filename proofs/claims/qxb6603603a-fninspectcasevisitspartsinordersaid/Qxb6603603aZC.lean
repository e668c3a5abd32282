import Derived.Test.Qxb6603603aCase
namespace Go.Proofs.Qxb6603603a
open Go.RowKit

theorem Try.info51 : (Try.prog.info? 51).map (fun i => (i.zero, i.size, i.bytes)) = some (some (.agg #[.nilIface, .nilIface]), 2, 32) := by kernel_rfl

/-- a slice of strings, by its elements' cells -/
def Sl (w : World) (a : Option Addr) (ss : List ByteArray) : Prop := ∀ i, i < ss.length → ∃ g off, a = some ⟨g, off, none⟩ ∧ g < w.heap.size ∧ w.cell? ⟨g, off + i, none⟩ = some (.string (ss.getD i ByteArray.empty))

theorem mk47 (n : Nat) (hn : n ≤ 65536) (w : World) : (Instr.makeSlice 47 (.int .i64 (n : Int)) (.int .i64 (n : Int))).run Try.prog w = .ok (.slice (some ⟨w.heap.size, 0, none⟩) n n) (w.alloc (.cells (madeCells #[.nilIface, .nilIface] (n * 2)) 51)) := by
  obtain ⟨i0, hi, hz0, hz1, hz2⟩ := info_parts Try.info51
  have := run_make (P := Try.prog) w 47 51 i0 (.agg #[.nilIface, .nilIface]) Try.underlying47 hi hz0 .i64 .i64 (n : Int) (n : Int) (by omega) (by omega) (by rw [hz2]; omega) (by omega)
  simpa [hz1, Value.cells] using this

/-- a column reference behind block B + 3 -/
def ColAt (B : Nat) (wr : World) (p : Nat) (nm : ByteArray) : Prop := B + 4 ≤ p ∧ ∃ a b, wr.heap[p]? = some (.cells #[a, b, .string nm] 36 (0, 0))

def OptAt (B : Nat) (wr : World) (v : Value) (o : Option ByteArray) : Prop :=
  (v = .nilIface ∧ o = none) ∨ ∃ p nm, v = .iface 34 (.pointer (some ⟨p, 0, none⟩)) ∧ o = some nm ∧ ColAt B wr p nm

/-- the CASE as it is built -/
structure CB (B T n i : Nat) (cs rs : List ByteArray) (opv elv : Value) (op el : Option ByteArray) (w wr : World) : Prop where
  lo : B + 4 ≤ T
  hi : T < wr.heap.size
  v : wr.heap[B]? = some (.cells #[.int .i64 0] 3 (0, 0))
  s : wr.heap[B + 1]? = some (.cells #[.slice none 0 0] 22 (0, 0))
  o : wr.heap[B + 2]? = some (.cells #[.slice none 0 0] 25 (0, 0))
  c : wr.heap[B + 3]? = some (.cells #[opv, .slice (some ⟨T, 0, none⟩) n n, elv] 49 (0, 0))
  t : ∃ (cur : Array Value) (Pc Pr : Nat → Nat), wr.heap[T]? = some (.cells cur 51 (0, 0)) ∧ cur.size = n * 2 ∧ ∀ j, j < i →
    cur[j * 2]? = some (.iface 34 (.pointer (some ⟨Pc j, 0, none⟩))) ∧ cur[j * 2 + 1]? = some (.iface 34 (.pointer (some ⟨Pr j, 0, none⟩))) ∧
    ColAt B wr (Pc j) (cs.getD j ByteArray.empty) ∧ ColAt B wr (Pr j) (rs.getD j ByteArray.empty)
  op : OptAt B wr opv op
  el : OptAt B wr elv el
  below : Below B w wr

theorem ColAt.move {B : Nat} {wr wr' : World} {p : Nat} {nm : ByteArray} (h : ColAt B wr p nm) (hb : wr'.heap[p]? = wr.heap[p]?) : ColAt B wr' p nm := by
  obtain ⟨h1, a, b, h2⟩ := h
  exact ⟨h1, a, b, hb.trans h2⟩
theorem ColAt.lt {B : Nat} {wr : World} {p : Nat} {nm : ByteArray} (h : ColAt B wr p nm) : p < wr.heap.size := by
  obtain ⟨_, a, b, h2⟩ := h
  exact lt_of_block h2
theorem ColAt.ne {B : Nat} {wr : World} {p q : Nat} {nm : ByteArray} {c : Array Value} {t : Nat} (h : ColAt B wr p nm) (hq : wr.heap[q]? = some (.cells c t (0, 0))) (ht : t ≠ 36) : p ≠ q := by
  obtain ⟨_, a, b, h2⟩ := h
  intro e
  subst e
  rw [h2] at hq
  simp at hq
  exact ht hq.2.symm

theorem cell_al {w : World} {X : Obj} {b o : Nat} (h : b < w.heap.size) : (w.alloc X).cell? ⟨b, o, none⟩ = w.cell? ⟨b, o, none⟩ := World.cell?_of_block (w := w) (old_al w X b h)
theorem cell_al2 {w : World} {X Y : Obj} {b o : Nat} (h : b < w.heap.size) : ((w.alloc X).alloc Y).cell? ⟨b, o, none⟩ = w.cell? ⟨b, o, none⟩ := by
  rw [cell_al (by rw [size_al]; omega), cell_al h]
theorem frozen_al2 {w : World} {X Y : Obj} {b o : Nat} (h : b < w.heap.size) : ((w.alloc X).alloc Y).frozen? ⟨b, o, none⟩ = w.frozen? ⟨b, o, none⟩ := by
  rw [World.frozen?_of_block (w := w.alloc X) (old_al _ Y b (by rw [size_al]; omega)), World.frozen?_of_block (w := w) (old_al w X b h)]

theorem CB.slot {B T n i : Nat} {cs rs : List ByteArray} {opv elv : Value} {op el : Option ByteArray} {w wr : World} (h : CB B T n i cs rs opv elv op el w wr) (hi : i < n) :
    (∃ v, wr.cell? ⟨T, i * 2, none⟩ = some v) ∧ (∃ v, wr.cell? ⟨T, i * 2 + 1, none⟩ = some v) ∧ (∀ k, wr.frozen? ⟨T, k, none⟩ = false) := by
  obtain ⟨cur, _, _, h1, h2, _⟩ := h.t
  refine ⟨⟨cur[i * 2]'(by omega), ?_⟩, ⟨cur[i * 2 + 1]'(by omega), ?_⟩, fun k => frozen_of_row wr T k cur 51 h1⟩
  · rw [cell_of_row wr T (i * 2) cur 51 (0, 0) h1]; simp
  · rw [cell_of_row wr T (i * 2 + 1) cur 51 (0, 0) h1]; simp

theorem OptAt.move {B : Nat} {wr wr' : World} {v : Value} {o : Option ByteArray} (h : OptAt B wr v o) (hb : ∀ p nm, ColAt B wr p nm → ColAt B wr' p nm) : OptAt B wr' v o := by
  rcases h with h | ⟨p, nm, h1, h2, h3⟩
  · exact .inl h
  · exact .inr ⟨p, nm, h1, h2, hb p nm h3⟩

/-- one WHEN more -/
theorem CB.step {B T n i : Nat} {cs rs : List ByteArray} {opv elv : Value} {op el : Option ByteArray} {w wr W : World} (h : CB B T n i cs rs opv elv op el w wr) (hi : i < n) (p q : Nat)
    (hold : ∀ k, k < wr.heap.size → k ≠ T → W.heap[k]? = wr.heap[k]?)
    (hT : W.heap[T]? = ((wr.setCell ⟨T, i * 2, none⟩ (.iface 34 (.pointer (some ⟨p, 0, none⟩)))).setCell ⟨T, i * 2 + 1, none⟩ (.iface 34 (.pointer (some ⟨q, 0, none⟩)))).heap[T]?)
    (hp : ColAt B W p (cs.getD i ByteArray.empty)) (hq : ColAt B W q (rs.getD i ByteArray.empty)) (hsz : wr.heap.size ≤ W.heap.size) (hos : W.os = wr.os) (htp : W.tape = wr.tape) (hout : W.output = wr.output) :
    CB B T n (i + 1) cs rs opv elv op el w W := by
  obtain ⟨cur, Pc, Pr, t1, t2, t3⟩ := h.t
  have hhi := h.hi
  have hlo := h.lo
  have hcol : ∀ p nm, ColAt B wr p nm → ColAt B W p nm := fun p nm hc => hc.move (hold p hc.lt (hc.ne t1 (by decide)))
  refine ⟨h.lo, by omega, ?_, ?_, ?_, ?_, ⟨(cur.setIfInBounds (i * 2) (.iface 34 (.pointer (some ⟨p, 0, none⟩)))).setIfInBounds (i * 2 + 1) (.iface 34 (.pointer (some ⟨q, 0, none⟩))), fun j => if j = i then p else Pc j, fun j => if j = i then q else Pr j, ?_, by simp [t2], fun j hj => ?_⟩, h.op.move hcol, h.el.move hcol, ?_⟩
  · rw [hold _ (by omega) (by omega)]; exact h.v
  · rw [hold _ (by omega) (by omega)]; exact h.s
  · rw [hold _ (by omega) (by omega)]; exact h.o
  · rw [hold _ (by omega) (by omega)]; exact h.c
  · rw [hT, heap_setCell_same _ T (i * 2 + 1) _ 51 _ (heap_setCell_same wr T (i * 2) cur 51 _ t1)]
  · by_cases e : j = i
    · subst e
      simp only [if_true]
      refine ⟨?_, ?_, hp, hq⟩
      · rw [Array.getElem?_setIfInBounds, if_neg (by omega), Array.getElem?_setIfInBounds, if_pos rfl, if_pos (by omega)]
      · rw [Array.getElem?_setIfInBounds, if_pos rfl, if_pos (by simp; omega)]
    · obtain ⟨a1, a2, a3, a4⟩ := t3 j (by omega)
      simp only [if_neg e]
      refine ⟨?_, ?_, hcol _ _ a3, hcol _ _ a4⟩
      · rw [Array.getElem?_setIfInBounds, if_neg (by omega), Array.getElem?_setIfInBounds, if_neg (by omega)]; exact a1
      · rw [Array.getElem?_setIfInBounds, if_neg (by omega), Array.getElem?_setIfInBounds, if_neg (by omega)]; exact a2
  · refine h.below.trans ⟨hos, htp, hout, hsz, fun k hk => hold k (by omega) (by omega)⟩

/-- both orders in which the two column references may be laid -/
theorem CB.two {B T n i : Nat} {cs rs : List ByteArray} {opv elv : Value} {op el : Option ByteArray} {w wr : World} (h : CB B T n i cs rs opv elv op el w wr) (hi : i < n) (a b : Value) (x y : ByteArray) (hx : cs.getD i ByteArray.empty = x) (hy : rs.getD i ByteArray.empty = y) :
    CB B T n (i + 1) cs rs opv elv op el w ((((wr.setCell ⟨T, i * 2, none⟩ (.iface 34 (.pointer (some ⟨wr.heap.size, 0, none⟩)))).setCell ⟨T, i * 2 + 1, none⟩ (.iface 34 (.pointer (some ⟨wr.heap.size + 1, 0, none⟩)))).alloc (.cells #[a, b, .string x] 36)).alloc (.cells #[a, b, .string y] 36)).drew ∧
    CB B T n (i + 1) cs rs opv elv op el w ((((wr.setCell ⟨T, i * 2, none⟩ (.iface 34 (.pointer (some ⟨wr.heap.size + 1, 0, none⟩)))).setCell ⟨T, i * 2 + 1, none⟩ (.iface 34 (.pointer (some ⟨wr.heap.size, 0, none⟩)))).alloc (.cells #[a, b, .string y] 36)).alloc (.cells #[a, b, .string x] 36)).drew := by
  have hhi := h.hi
  have hlo := h.lo
  have hsz : ∀ (A C : Value) (X Y : Obj), ((((wr.setCell ⟨T, i * 2, none⟩ A).setCell ⟨T, i * 2 + 1, none⟩ C).alloc X).alloc Y).heap.size = wr.heap.size + 2 := fun A C X Y => by simp only [size_al, World.heap_size_setCell']
  have hold : ∀ (A C : Value) (X Y : Obj) k, k < wr.heap.size → k ≠ T → ((((wr.setCell ⟨T, i * 2, none⟩ A).setCell ⟨T, i * 2 + 1, none⟩ C).alloc X).alloc Y).heap[k]? = wr.heap[k]? := fun A C X Y k h1 h2 => by
    rw [old_al _ _ _ (by simp only [size_al, World.heap_size_setCell']; omega), old_al _ _ _ (by simp only [World.heap_size_setCell']; omega), Below.heap_setCell _ _ _ _ h2, Below.heap_setCell _ _ _ _ h2]
  have hTT : ∀ (A C : Value) (X Y : Obj), ((((wr.setCell ⟨T, i * 2, none⟩ A).setCell ⟨T, i * 2 + 1, none⟩ C).alloc X).alloc Y).heap[T]? = ((wr.setCell ⟨T, i * 2, none⟩ A).setCell ⟨T, i * 2 + 1, none⟩ C).heap[T]? := fun A C X Y => by
    rw [old_al _ _ _ (by simp only [size_al, World.heap_size_setCell']; omega), old_al _ _ _ (by simp only [World.heap_size_setCell']; omega)]
  have hX : ∀ (A C : Value) (X Y : Obj), ((((wr.setCell ⟨T, i * 2, none⟩ A).setCell ⟨T, i * 2 + 1, none⟩ C).alloc X).alloc Y).heap[wr.heap.size]? = some X := fun A C X Y => by
    rw [old_al _ _ _ (by simp only [size_al, World.heap_size_setCell']; omega), at_al _ _ _ (by simp only [World.heap_size_setCell'])]
  have hY : ∀ (A C : Value) (X Y : Obj), ((((wr.setCell ⟨T, i * 2, none⟩ A).setCell ⟨T, i * 2 + 1, none⟩ C).alloc X).alloc Y).heap[wr.heap.size + 1]? = some Y := fun A C X Y => by
    rw [at_al _ _ _ (by simp only [size_al, World.heap_size_setCell'])]
  constructor
  · exact h.step hi wr.heap.size (wr.heap.size + 1) (hold _ _ _ _) (hTT _ _ _ _) ⟨by omega, a, b, by rw [hx]; exact hX _ _ _ _⟩ ⟨by omega, a, b, by rw [hy]; exact hY _ _ _ _⟩ (by show _ ≤ (World.alloc _ _).heap.size; rw [hsz]; omega) rfl rfl rfl
  · exact h.step hi (wr.heap.size + 1) wr.heap.size (hold _ _ _ _) (hTT _ _ _ _) ⟨by omega, a, b, by rw [hx]; exact hY _ _ _ _⟩ ⟨by omega, a, b, by rw [hy]; exact hX _ _ _ _⟩ (by show _ ≤ (World.alloc _ _).heap.size; rw [hsz]; omega) rfl rfl rfl

/-- the same, the stores written behind the two new blocks -/
theorem CB.two' {B T n i : Nat} {cs rs : List ByteArray} {opv elv : Value} {op el : Option ByteArray} {w wr : World} (h : CB B T n i cs rs opv elv op el w wr) (hi : i < n) (a b : Value) (x y : ByteArray) (hx : cs.getD i ByteArray.empty = x) (hy : rs.getD i ByteArray.empty = y) :
    CB B T n (i + 1) cs rs opv elv op el w ((((wr.alloc (.cells #[a, b, .string x] 36)).alloc (.cells #[a, b, .string y] 36)).setCell ⟨T, i * 2, none⟩ (.iface 34 (.pointer (some ⟨wr.heap.size, 0, none⟩)))).setCell ⟨T, i * 2 + 1, none⟩ (.iface 34 (.pointer (some ⟨wr.heap.size + 1, 0, none⟩)))).drew ∧
    CB B T n (i + 1) cs rs opv elv op el w ((((wr.alloc (.cells #[a, b, .string y] 36)).alloc (.cells #[a, b, .string x] 36)).setCell ⟨T, i * 2, none⟩ (.iface 34 (.pointer (some ⟨wr.heap.size + 1, 0, none⟩)))).setCell ⟨T, i * 2 + 1, none⟩ (.iface 34 (.pointer (some ⟨wr.heap.size, 0, none⟩)))).drew := by
  have h1 := h.hi
  have e : ∀ (A C : Value) (X Y : Obj), (((wr.alloc X).alloc Y).setCell ⟨T, i * 2, none⟩ A).setCell ⟨T, i * 2 + 1, none⟩ C = (((wr.setCell ⟨T, i * 2, none⟩ A).setCell ⟨T, i * 2 + 1, none⟩ C).alloc X).alloc Y := fun A C X Y => by
    rw [World.setCell_alloc_past _ _ _ _ (by rw [size_al]; omega), World.setCell_alloc_past _ _ _ _ h1, World.setCell_alloc_past _ _ _ _ (by rw [size_al, World.heap_size_setCell']; omega), World.setCell_alloc_past _ _ _ _ (by rw [World.heap_size_setCell']; exact h1)]
  rw [e, e]
  exact h.two hi a b x y hx hy

theorem CB.vis {B T n i : Nat} {cs rs : List ByteArray} {opv elv : Value} {op el : Option ByteArray} {w wr : World} (h : CB B T n i cs rs opv elv op el w wr) : Vis wr.heap.size B (B + 1) (B + 1 + 1) wr 0 [] [] := by
  have h1 := h.hi
  have h2 := h.lo
  exact ⟨by omega, by omega, by omega, by omega, by omega, by omega, Nat.le_refl _, h.v, ⟨.slice none 0 0, h.s, World.ownsRow_nil _ _ _ _⟩, ⟨.slice none 0 0, h.o, World.ownsRow_nil _ _ _ _⟩⟩

theorem ColAt.leaf {B : Nat} {wr : World} {p : Nat} {nm : ByteArray} (h : ColAt B wr p nm) : Leaf wr.heap.size B (B + 1) (B + 1 + 1) wr p nm := by
  have hlt := h.lt
  obtain ⟨h1, a, b, h2⟩ := h
  refine ⟨hlt, by omega, by omega, by omega, ?_⟩
  rw [cell_of_row wr p 2 _ 36 (0, 0) h2]; rfl

theorem OptAt.opt {B : Nat} {wr : World} {v : Value} {o : Option ByteArray} (h : OptAt B wr v o) : Opt wr.heap.size B (B + 1) (B + 1 + 1) wr v o := by
  rcases h with h | ⟨p, nm, h1, h2, h3⟩
  · exact .inl h
  · exact .inr ⟨p, nm, h1, h2, h3.leaf⟩

/-- the names in the order in which they are to be seen -/
def seenL (op : Option ByteArray) (cs rs : List ByteArray) (el : Option ByteArray) : List ByteArray := op.toList ++ fl cs rs cs.length ++ el.toList

/-- Inspect at the CASE that has been built -/
theorem insp_case {B T : Nat} {cs rs : List ByteArray} {opv elv : Value} {op el : Option ByteArray} {w wr : World} (h : CB B T cs.length cs.length cs rs opv elv op el w wr) (hn : cs.length ≤ 65536) :
    Calls Try.prog 14 #[.iface 46 (.pointer (some ⟨B + 1 + 1 + 1, 0, none⟩)), .func (.func 16) #[] #[.pointer (some ⟨B, 0, none⟩), .pointer (some ⟨B + 1, 0, none⟩), .pointer (some ⟨B + 1 + 1, 0, none⟩)]] wr fun e w' =>
      e = .returned (.tuple #[]) ∧ VisL wr.heap.size B (B + 1) (B + 1 + 1) w' (seenL op cs rs el) ∧ Keep wr.heap.size B (B + 1) (B + 1 + 1) wr w' := by
  have h1 := h.hi
  have h2 := h.lo
  obtain ⟨cur, Pc, Pr, t1, t2, t3⟩ := h.t
  refine ic_case (T := T) cs rs opv elv op el Pc Pr h.vis hn (by omega) (by omega) (by omega) (by omega) ?_ ?_ ?_ h.op.opt h.el.opt h1 (by omega) (by omega) (by omega) (fun i hi => ?_) (fun i hi => ?_) (fun i hi => (t3 i hi).2.2.1.leaf) (fun i hi => (t3 i hi).2.2.2.leaf)
  · rw [cell_of_row wr (B + 1 + 1 + 1) 0 _ 49 (0, 0) h.c]; rfl
  · rw [cell_of_row wr (B + 1 + 1 + 1) 1 _ 49 (0, 0) h.c]; rfl
  · rw [cell_of_row wr (B + 1 + 1 + 1) 2 _ 49 (0, 0) h.c]; rfl
  · rw [cell_of_row wr T (i * 2) cur 51 (0, 0) t1]; exact (t3 i hi).1
  · rw [cell_of_row wr T (i * 2 + 1) cur 51 (0, 0) t1]; exact (t3 i hi).2.1

/-- the ELSE is laid -/
theorem CB.els {B T n i : Nat} {cs rs : List ByteArray} {opv : Value} {op : Option ByteArray} {w wr : World} (h : CB B T n i cs rs opv .nilIface op none w wr) (a b : Value) (x : ByteArray) :
    CB B T n i cs rs opv (.iface 34 (.pointer (some ⟨wr.heap.size, 0, none⟩))) op (some x) w ((wr.setCell ⟨B + 1 + 1 + 1, 2, none⟩ (.iface 34 (.pointer (some ⟨wr.heap.size, 0, none⟩)))).alloc (.cells #[a, b, .string x] 36)) := by
  have h1 := h.hi
  have h2 := h.lo
  have hold : ∀ k, k < wr.heap.size → k ≠ B + 3 → ((wr.setCell ⟨B + 1 + 1 + 1, 2, none⟩ (.iface 34 (.pointer (some ⟨wr.heap.size, 0, none⟩)))).alloc (.cells #[a, b, .string x] 36)).heap[k]? = wr.heap[k]? := fun k h1 h2 => by
    rw [old_al _ _ _ (by simp only [World.heap_size_setCell']; omega), Below.heap_setCell _ _ _ _ h2]
  have hcol : ∀ p nm, ColAt B wr p nm → ColAt B ((wr.setCell ⟨B + 1 + 1 + 1, 2, none⟩ (.iface 34 (.pointer (some ⟨wr.heap.size, 0, none⟩)))).alloc (.cells #[a, b, .string x] 36)) p nm := fun p nm hc => hc.move (hold p hc.lt (hc.ne h.c (by decide)))
  obtain ⟨cur, Pc, Pr, t1, t2, t3⟩ := h.t
  refine ⟨h2, by simp only [size_al, World.heap_size_setCell']; omega, ?_, ?_, ?_, ?_, ⟨cur, Pc, Pr, ?_, t2, fun j hj => ?_⟩, h.op.move hcol, .inr ⟨wr.heap.size, x, rfl, rfl, by omega, a, b, ?_⟩, ?_⟩
  · rw [hold _ (by omega) (by omega)]; exact h.v
  · rw [hold _ (by omega) (by omega)]; exact h.s
  · rw [hold _ (by omega) (by omega)]; exact h.o
  · rw [old_al _ _ _ (by simp only [World.heap_size_setCell']; omega)]
    exact heap_setCell_same wr (B + 3) 2 _ 49 _ h.c
  · rw [hold _ (by omega) (by omega)]; exact t1
  · obtain ⟨a1, a2, a3, a4⟩ := t3 j hj
    exact ⟨a1, a2, hcol _ _ a3, hcol _ _ a4⟩
  · exact at_al _ _ _ (by simp only [World.heap_size_setCell'])
  · exact (h.below.setCell (by show B ≤ B + 3; omega) _).alloc (by simp only [World.heap_size_setCell']; omega) _

theorem CB.start0 (w : World) (n : Nat) (cs rs : List ByteArray) : CB w.heap.size (w.heap.size + 1 + 1 + 1 + 1) n 0 cs rs .nilIface .nilIface none none w
    (((((w.alloc (.cells #[.int .i64 0] 3)).alloc (.cells #[.slice none 0 0] 22)).alloc (.cells #[.slice none 0 0] 25)).alloc (.cells #[.nilIface, .slice (some ⟨w.heap.size + 1 + 1 + 1 + 1, 0, none⟩) n n, .nilIface] 49)).alloc (.cells (madeCells #[.nilIface, .nilIface] (n * 2)) 51)) := by
  refine ⟨by omega, by simp only [size_al]; omega, ?_, ?_, ?_, ?_, ⟨madeCells #[.nilIface, .nilIface] (n * 2), fun _ => 0, fun _ => 0, ?_, size_madeCells _ _, fun j hj => by omega⟩, .inl ⟨rfl, rfl⟩, .inl ⟨rfl, rfl⟩, ?_⟩
  · rw [old_al _ _ _ (by simp only [size_al]; omega), old_al _ _ _ (by simp only [size_al]; omega), old_al _ _ _ (by simp only [size_al]; omega), old_al _ _ _ (by simp only [size_al]; omega), at_al _ _ _ rfl]
  · rw [old_al _ _ _ (by simp only [size_al]; omega), old_al _ _ _ (by simp only [size_al]; omega), old_al _ _ _ (by simp only [size_al]; omega), at_al _ _ _ (by simp only [size_al])]
  · rw [old_al _ _ _ (by simp only [size_al]; omega), old_al _ _ _ (by simp only [size_al]; omega), at_al _ _ _ (by simp only [size_al])]
  · rw [old_al _ _ _ (by simp only [size_al]; omega), at_al _ _ _ (by simp only [size_al])]
  · rw [at_al _ _ _ (by simp only [size_al])]
  · exact (((((Below.refl _ _).alloc (Nat.le_refl _) _).alloc (by simp only [size_al]; omega) _).alloc (by simp only [size_al]; omega) _).alloc (by simp only [size_al]; omega) _).alloc (by simp only [size_al]; omega) _

theorem CB.start1 (w : World) (n : Nat) (cs rs : List ByteArray) (a b : Value) (x : ByteArray) : CB w.heap.size (w.heap.size + 1 + 1 + 1 + 1 + 1) n 0 cs rs (.iface 34 (.pointer (some ⟨w.heap.size + 1 + 1 + 1 + 1, 0, none⟩))) .nilIface (some x) none w
    ((((((w.alloc (.cells #[.int .i64 0] 3)).alloc (.cells #[.slice none 0 0] 22)).alloc (.cells #[.slice none 0 0] 25)).alloc (.cells #[.iface 34 (.pointer (some ⟨w.heap.size + 1 + 1 + 1 + 1, 0, none⟩)), .slice (some ⟨w.heap.size + 1 + 1 + 1 + 1 + 1, 0, none⟩) n n, .nilIface] 49)).alloc (.cells #[a, b, .string x] 36)).alloc (.cells (madeCells #[.nilIface, .nilIface] (n * 2)) 51)) := by
  refine ⟨by omega, by simp only [size_al]; omega, ?_, ?_, ?_, ?_, ⟨madeCells #[.nilIface, .nilIface] (n * 2), fun _ => 0, fun _ => 0, ?_, size_madeCells _ _, fun j hj => by omega⟩, .inr ⟨_, x, rfl, rfl, by omega, a, b, ?_⟩, .inl ⟨rfl, rfl⟩, ?_⟩
  · rw [old_al _ _ _ (by simp only [size_al]; omega), old_al _ _ _ (by simp only [size_al]; omega), old_al _ _ _ (by simp only [size_al]; omega), old_al _ _ _ (by simp only [size_al]; omega), old_al _ _ _ (by simp only [size_al]; omega), at_al _ _ _ rfl]
  · rw [old_al _ _ _ (by simp only [size_al]; omega), old_al _ _ _ (by simp only [size_al]; omega), old_al _ _ _ (by simp only [size_al]; omega), old_al _ _ _ (by simp only [size_al]; omega), at_al _ _ _ (by simp only [size_al])]
  · rw [old_al _ _ _ (by simp only [size_al]; omega), old_al _ _ _ (by simp only [size_al]; omega), old_al _ _ _ (by simp only [size_al]; omega), at_al _ _ _ (by simp only [size_al])]
  · rw [old_al _ _ _ (by simp only [size_al]; omega), old_al _ _ _ (by simp only [size_al]; omega), at_al _ _ _ (by simp only [size_al])]
  · rw [at_al _ _ _ (by simp only [size_al])]
  · rw [old_al _ _ _ (by simp only [size_al]; omega), at_al _ _ _ (by simp only [size_al])]
  · exact ((((((Below.refl _ _).alloc (Nat.le_refl _) _).alloc (by simp only [size_al]; omega) _).alloc (by simp only [size_al]; omega) _).alloc (by simp only [size_al]; omega) _).alloc (by simp only [size_al]; omega) _).alloc (by simp only [size_al]; omega) _

/-- what ZZinspectCaseOfColumns hands back -/
def ZretC (B : Nat) (w : World) (L : List ByteArray) (e : Ending) (w' : World) : Prop :=
  ∃ sa sc oa oc, e = .returned (.tuple #[.int .i64 ((1 + L.length : Nat) : Int), .slice sa L.length sc, .slice oa 1 oc]) ∧
    w'.ownsRow B 9 1 (.slice sa L.length sc) L.length (L.map Value.string) ∧ w'.ownsRow B 3 1 (.slice oa 1 oc) 1 [.int .i64 0] ∧ Below B w w'

end Go.Proofs.Qxb6603603a
