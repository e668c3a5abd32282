import Derived.Test.Qxb6603801aIn
import Derived.Deep.LoopGhost
import Derived.Lib.SliceRun
namespace Go.Proofs.Qxb6603801a
open Go.RowKit

/-! ### rows of integers that the call owns -/

def ivals (n : Nat) (f : Nat → Int) : List Value := (List.range n).map fun i => .int .i64 (f i)

theorem ivals_at {n i : Nat} {f : Nat → Int} (h : i < n) : (ivals n f)[i]? = some (.int .i64 (f i)) := by simp [ivals, h]
theorem ivals_length (n : Nat) (f : Nat → Int) : (ivals n f).length = n := by simp [ivals]

theorem ivals_congr {n : Nat} {f g : Nat → Int} (h : ∀ i, i < n → f i = g i) : ivals n f = ivals n g :=
  List.map_congr_left fun i hi => by rw [h i (List.mem_range.1 hi)]

theorem ivals_set (n j : Nat) (f : Nat → Int) (x : Int) : (ivals n f).set j (.int .i64 x) = ivals n (updN f j x) := by
  apply List.ext_getElem?
  intro i
  by_cases hi : i < n
  · rw [List.getElem?_set, ivals_at (f := updN f j x) hi]
    by_cases e : j = i
    · subst e
      rw [if_pos rfl, if_pos (by rw [ivals_length]; exact hi)]
      unfold updN
      rw [if_pos rfl]
    · rw [if_neg e, ivals_at hi]
      unfold updN
      rw [if_neg (fun h => e h.symm)]
  · rw [List.getElem?_eq_none (by rw [List.length_set, ivals_length]; omega), List.getElem?_eq_none (by rw [ivals_length]; omega)]

theorem ivals_succ (n : Nat) (f : Nat → Int) : ivals n f ++ [.int .i64 (f n)] = ivals (n + 1) f := by
  simp [ivals, List.range_succ]

theorem made_ivals (n : Nat) : (madeCells (Value.int .i64 0).cells (n * 1)).toList = ivals n fun _ => 0 := by
  rw [Nat.mul_one, show (Value.int .i64 0).cells = #[Value.int .i64 0] from rfl, toList_madeCells_one]
  apply List.ext_getElem?
  intro i
  by_cases hi : i < n <;> simp [ivals, hi]

theorem own_set {w : World} {B rb n c : Nat} {f : Nat → Int} (h : w.ownsRow B 3 1 (.slice (some ⟨rb, 0, none⟩) n c) n (ivals n f)) (j : Nat) (x : Int) :
    (w.setCell ⟨rb, j, none⟩ (.int .i64 x)).ownsRow B 3 1 (.slice (some ⟨rb, 0, none⟩) n c) n (ivals n (updN f j x)) := by
  have := (h.stored j (.int .i64 x)).1
  rw [ivals_set] at this
  exact this

/-- a cell of a block that is new is written -/
theorem grown_set {w w' : World} (h : w.grownBy w' none) {b j : Nat} (hb : w.heap.size ≤ b) (u : Value) : w.grownBy (w'.setCell ⟨b, j, none⟩ u) none :=
  ⟨h.os, h.tape, h.output, by have := h.size; simpa using this, fun i hi hne => by rw [Below.heap_setCell _ _ _ _ (by show i ≠ b; omega)]; exact h.block i hi hne⟩

theorem grown_drew {w w' : World} (h : w.grownBy w' none) : w.grownBy w'.drew none := ⟨h.os, h.tape, h.output, h.size, h.block⟩
theorem grown_drewN {w w' : World} (h : w.grownBy w' none) : ∀ k, w.grownBy (w'.drewN k) none
  | 0 => h
  | k + 1 => grown_drew (grown_drewN h k)
theorem grown_alloc {w w' : World} (h : w.grownBy w' none) (o : Obj) : w.grownBy (w'.alloc o) none := h.trans (World.grownBy_alloc w' o none)

/-! ### what the arguments hold -/

/-- a []int -/
def Ints (B : Nat) (w : World) (a : Option Addr) (n : Nat) (f : Nat → Int) : Prop :=
  ∀ i, i < n → ∃ b o, a = some ⟨b, o, none⟩ ∧ b < B ∧ w.cell? ⟨b, o + i, none⟩ = some (.int .i64 (f i))

/-- a [][2]int -/
def Units (B : Nat) (w : World) (a : Option Addr) (n : Nat) (f g : Nat → Int) : Prop :=
  ∀ i, i < n → ∃ b o, a = some ⟨b, o, none⟩ ∧ b < B ∧ w.cell? ⟨b, o + i * 2, none⟩ = some (.int .i64 (f i)) ∧ w.cell? ⟨b, o + i * 2 + 1, none⟩ = some (.int .i64 (g i))

/-- the lengths of a [][]int's rows -/
def Lens (B : Nat) (w : World) (a : Option Addr) (n : Nat) (ln : Nat → Nat) : Prop :=
  ∀ i, i < n → ∃ b o a' c', a = some ⟨b, o, none⟩ ∧ b < B ∧ w.cell? ⟨b, o + i, none⟩ = some (.slice a' (ln i) c')

/-- a [][]int -/
def IRows (B : Nat) (w : World) (a : Option Addr) (n : Nat) (ln : Nat → Nat) : Prop :=
  ∀ i, i < n → ∃ b o a' c', a = some ⟨b, o, none⟩ ∧ b < B ∧ w.cell? ⟨b, o + i, none⟩ = some (.slice a' (ln i) c') ∧ (a' = none → c' = 0) ∧ ∃ f, Ints B w a' (ln i) f

section
variable {B : Nat} {w w' : World} {a : Option Addr} {n : Nat} {f g : Nat → Int} {ln : Nat → Nat}
theorem IRows.lens (h : IRows B w a n ln) : Lens B w a n ln := fun i hi => by
  obtain ⟨b, o, a', c', h1, h2, h3, _⟩ := h i hi
  exact ⟨b, o, a', c', h1, h2, h3⟩
theorem Ints.move (h : Ints B w a n f) (hb : ∀ b, b < B → w'.heap[b]? = w.heap[b]?) : Ints B w' a n f := fun i hi => by
  obtain ⟨b, o, h1, h2, h3⟩ := h i hi
  exact ⟨b, o, h1, h2, by rw [World.cell?_of_block (hb b h2)]; exact h3⟩
theorem Units.move (h : Units B w a n f g) (hb : ∀ b, b < B → w'.heap[b]? = w.heap[b]?) : Units B w' a n f g := fun i hi => by
  obtain ⟨b, o, h1, h2, h3, h4⟩ := h i hi
  exact ⟨b, o, h1, h2, by rw [World.cell?_of_block (hb b h2)]; exact h3, by rw [World.cell?_of_block (hb b h2)]; exact h4⟩
theorem Lens.move (h : Lens B w a n ln) (hb : ∀ b, b < B → w'.heap[b]? = w.heap[b]?) : Lens B w' a n ln := fun i hi => by
  obtain ⟨b, o, a', c', h1, h2, h3⟩ := h i hi
  exact ⟨b, o, a', c', h1, h2, by rw [World.cell?_of_block (hb b h2)]; exact h3⟩
theorem IRows.move (h : IRows B w a n ln) (hb : ∀ b, b < B → w'.heap[b]? = w.heap[b]?) : IRows B w' a n ln := fun i hi => by
  obtain ⟨b, o, a', c', h1, h2, h3, h4, f, h5⟩ := h i hi
  exact ⟨b, o, a', c', h1, h2, by rw [World.cell?_of_block (hb b h2)]; exact h3, h4, f, h5.move hb⟩
theorem Ints.mono {B' : Nat} (h : Ints B w a n f) (hB : B ≤ B') : Ints B' w a n f := fun i hi => by
  obtain ⟨b, o, h1, h2, h3⟩ := h i hi
  exact ⟨b, o, h1, by omega, h3⟩
theorem grown_below (h : w.grownBy w' none) (hB : B ≤ w.heap.size) : ∀ b, b < B → w'.heap[b]? = w.heap[b]? := fun b hb => h.block b (by omega) (by simp)
end

/-- an own row is a []int -/
theorem ints_own {w : World} {B rb n c : Nat} {f : Nat → Int} (h : w.ownsRow B 3 1 (.slice (some ⟨rb, 0, none⟩) n c) n (ivals n f)) : Ints w.heap.size w (some ⟨rb, 0, none⟩) n f := fun i hi =>
  ⟨rb, 0, rfl, (h.lt rb rfl).2, by rw [Nat.zero_add, h.cellAt i (by omega)]; exact ivals_at hi⟩

theorem size_any {B : Nat} {w : World} {a : Option Addr} {n c : Nat} {ln : Nat → Nat} {i : Nat} (h : Lens B w a n ln) (hi : i < n) (hl : ln i ≤ 1048576) :
    Calls Try.prog 19 #[.slice a n c, .int .i64 (i : Int)] w fun e w' => e = .returned (.int .i64 (szOf ln i : Int)) ∧ w' = w := by
  obtain ⟨b, o, a', c', rfl, hb, hc⟩ := h i hi
  have hiz : (i : Int) < (n : Int) := by omega
  have HE : Hid (szOf ln i = if ln i < 2 then 0 else ln i) := rfl
  generalize ln i = L at *
  go_enter Try.func19, Try.ntmps19
  by_cases hL : L < 2
  · have hz : (L : Int) < 2 := by omega
    go_wp2_with fail
    go_ret
    rw [HE.out, if_pos hL]
    exact ⟨rfl, rfl⟩
  · have hz : ¬ ((L : Int) < 2) := by omega
    go_wp2_with fail
    go_ret
    rw [HE.out, if_neg hL]
    exact ⟨rfl, rfl⟩

theorem ssCopy_any {B : Nat} {w : World} {a : Option Addr} {n c : Nat} {f : Nat → Int} (h : Ints B w a n f) (hB : B ≤ w.heap.size) (hn : n ≤ 1048576) (hc : a = none → c = 0) :
    Calls Try.prog 8 #[.slice a n c] w fun e w' => ∃ a' c', e = .returned (.slice a' n c') ∧ (a' = none → c' = 0) ∧ Ints w'.heap.size w' a' n f ∧ w.grownBy w' none := by
  obtain ⟨i0, hi, hz0, hz1, hz2⟩ := info_parts Try.info3
  have hnil := fun w a n c => Lib.run_eql_slice_nil (P := Try.prog) w 22 3 a n c 0 0 Try.underlying22
  cases a with
  | none =>
    obtain rfl : n = 0 := by
      rcases Nat.eq_zero_or_pos n with h0 | h0
      · exact h0
      · obtain ⟨b, o, h1, _⟩ := h 0 h0
        cases h1
    obtain rfl := hc rfl
    go_enter Try.func8, Try.ntmps8
    go_wp2_with fail
    go_ret
    exact ⟨none, 0, rfl, fun _ => rfl, fun i hi => by omega, World.grownBy.refl w none⟩
  | some ad =>
    have HI := hide h
    clear h
    have hbytes : i0.bytes * n ≤ 281474976710656 := by rw [hz2]; omega
    go_enter Try.func8, Try.ntmps8
    go_wp2_with (at_make; refine wpList_make_full _ rfl _ _ 22 rfl w.heap.size 3 i0 (.int .i64 0) 1 Try.underlying22 hi hz0 hz1 .i64 .i64 _ _ n rfl rfl (by omega) (by omega) hbytes (by unfold maxLen; omega) (by omega) ?_)
    intro w2 hown2 hgrow2
    have HO : Hid (w2.ownsRow w.heap.size 3 1 (.slice (some ⟨w.heap.size, 0, none⟩) n n) n (ivals n fun _ => 0)) := by rw [← made_ivals, Nat.mul_one]; exact hown2
    have HG := hide hgrow2
    clear hown2 hgrow2
    go_wp2_with fail
    go_loopg [4] n (fun k v wr => ∃ i : Nat, v = .int .i64 (i : Int) ∧ i + k = n ∧ w.grownBy wr none ∧ ∃ g, wr.ownsRow w.heap.size 3 1 (.slice (some ⟨w.heap.size, 0, none⟩) n n) n (ivals n g) ∧ ∀ j, j < i → g j = f j)
    case atStart => exact ⟨0, rfl, by omega, HG.out, _, HO.out, fun j hj => by omega⟩
    case round =>
      obtain ⟨i, rfl, hik, hg, g, ho, hj⟩ := hrel
      have HG2 := hide hg
      have HO2 := hide ho
      have HJ := hide hj
      clear hg ho hj HG HO
      by_cases hin : i < n
      · obtain ⟨b, o, rfl⟩ : ∃ b o, ad = ⟨b, o, none⟩ := by
          obtain ⟨b, o, h1, _⟩ := HI.out i hin
          exact ⟨b, o, by cases h1; rfl⟩
        have hiz : (i : Int) < (n : Int) := by omega
        have c1 : wr.cell? ⟨b, o + i, none⟩ = some (.int .i64 (f i)) := by
          obtain ⟨b', o', h1, h2, h3⟩ := HI.out i hin
          cases h1
          rw [World.cell?_of_block (HG2.out.block b (by omega) (by simp))]
          exact h3
        have c2 : wr.cell? ⟨w.heap.size, i, none⟩ = some (.int .i64 (g i)) := by
          rw [HO2.out.cellAt i (by omega)]; exact ivals_at hin
        have c3 : wr.frozen? ⟨w.heap.size, i, none⟩ = false := HO2.out.frozenAt i
        go_wp2_with fail
        go_roundg (n - (i + 1))
        case measure => omega
        case rel =>
          refine ⟨i + 1, by simp, by omega, grown_set HG2.out (Nat.le_refl _) _, _, own_set HO2.out i (f i), fun j hj => ?_⟩
          unfold updN
          by_cases e : j = i
          · rw [if_pos e, e]
          · rw [if_neg e]; exact HJ.out j (by omega)
      · have hiz : ¬ ((i : Int) < (n : Int)) := by omega
        obtain rfl : i = n := by omega
        go_wp2_with fail
        go_ret
        refine ⟨_, _, rfl, (fun e => by cases e), ?_, HG2.out⟩
        have := HO2.out
        rw [ivals_congr HJ.out] at this
        exact ints_own this
end Go.Proofs.Qxb6603801a
