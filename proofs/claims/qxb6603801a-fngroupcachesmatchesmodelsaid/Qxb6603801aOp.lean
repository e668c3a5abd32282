import Derived.Test.Qxb6603801aUp
import Derived.Deep.Matrix
import Derived.Deep.SlicePairs
import Derived.ProofKit
import Derived.OpenShut
import Derived.ChangeSlices
/- The slices that come in, opened. -/
namespace Go.Proofs.Qxb6603801a
open Go.ChangeShapes Go.WideShapes Go.ChangeAt Go.RowKit Go.Deep

theorem own : ownKnob Try.prog.godebug = none := by kernel_rfl
theorem Try.cells22 : Try.prog.cellsOf 22 = 1 := by kernel_rfl

theorem addr_add (b off i : Nat) : (⟨b, off, none⟩ : Addr).add i = ⟨b, off + i, none⟩ := by unfold Addr.add; split <;> simp_all

/-- cells behind an address: it is a place in a block -/
theorem spot_none {w : World} {x : Addr} {v : Value} (h : w.cell? (x.add 0) = some v) : ∃ b off, x = ⟨b, off, none⟩ := by
  obtain ⟨b, off, spot⟩ := x
  have hspot : spot = none := by simpa [Addr.add] using World.cell?_spot h
  exact ⟨b, off, by rw [hspot]⟩

theorem wf_zero : (Lit.int .i64 0).wf = true := by decide

theorem ints_cells {W : World} {x : Addr} {n : Nat} {zs : List Int} (h : ∀ i, i < n → W.cell? (x.add i) = some (.int .i64 (zs.getD i 0))) : Ints W.heap.size W (some x) n fun i => zs.getD i 0 := fun i hi => by
  obtain ⟨b, off, rfl⟩ := spot_none (h 0 (by omega))
  have hc := h i hi
  rw [addr_add] at hc
  exact ⟨b, off, rfl, by simpa using block_lt_of_cell hc, hc⟩

theorem getD_wf {zs : List Int} (h : ∀ n ∈ zs, (Lit.int .i64 n).wf = true) (i : Nat) : (Lit.int .i64 (zs.getD i 0)).wf = true := by
  rw [List.getD_eq_getElem?_getD]
  cases e : zs[i]? with
  | none => exact wf_zero
  | some y => exact h y (List.mem_of_getElem? e)

section
variable {H : Type} {enc : TypeId × Value → H} {W : World} {base : Nat} {v : Value} {d : DataW H} {p : List MemPlace}

theorem ints_of (hv : Value.okWide Try.prog W .any base 22 v) (h : DataW.Trod enc Try.prog W 0 (fun _ => true) true 22 v d p) :
    ∃ a n c f, v = .slice a n c ∧ (a = none → c = 0) ∧ Ints W.heap.size W a n f ∧ ∀ i, (Lit.int .i64 (f i)).wf = true := by
  obtain ⟨a, len, cap, rfl⟩ := okWide_slice Try.underlying22 hv
  obtain ⟨fuel, hf⟩ := h
  rcases open_ints Try.underlying22 Try.underlying3 Try.cells3 hf with ⟨hcs, _⟩ | ⟨x, l, c, zs, hcs, _, hl, hm, hz, _, hcell, hwf⟩
  · simp [Value.cells] at hcs
    obtain ⟨rfl, rfl, rfl⟩ := hcs
    exact ⟨none, 0, 0, fun _ => 0, rfl, fun _ => rfl, fun i hi => by omega, fun _ => wf_zero⟩
  · simp [Value.cells] at hcs
    obtain ⟨rfl, rfl, rfl⟩ := hcs
    simp only [if_true] at hz
    exact ⟨some x, len, cap, _, rfl, (fun e => by cases e), ints_cells (fun i hi => hcell i (by omega)), getD_wf hwf⟩

theorem rows_of (hv : Value.okWide Try.prog W .any base 31 v) (h : DataW.Trod enc Try.prog W 0 (fun _ => true) true 31 v d p) :
    ∃ a n c ln, v = .slice a n c ∧ (a = none → c = 0) ∧ IRows W.heap.size W a n ln := by
  obtain ⟨a, len, cap, rfl⟩ := okWide_slice Try.underlying31 hv
  obtain ⟨fuel, hf⟩ := h
  rcases open_int_rows Try.underlying31 Try.underlying22 Try.underlying3 Try.cells22 Try.cells3 hf with ⟨hcs, _⟩ | ⟨x, l, c, A, L, C, Z, hcs, _, hl, hm, _, hr⟩
  · simp [Value.cells] at hcs
    obtain ⟨rfl, rfl, rfl⟩ := hcs
    exact ⟨none, 0, 0, fun _ => 0, rfl, fun _ => rfl, fun i hi => by omega⟩
  · simp [Value.cells] at hcs
    obtain ⟨rfl, rfl, rfl⟩ := hcs
    refine ⟨some x, len, cap, L, rfl, (fun e => by cases e), fun i hi => ?_⟩
    obtain ⟨h1, h2, h3, h4, h5, h6, h7⟩ := hr i (by omega)
    obtain ⟨b, off, rfl⟩ := spot_none (hr 0 (by omega)).1
    rw [addr_add] at h1
    refine ⟨b, off, A i, C i, rfl, by simpa using block_lt_of_cell h1, h1, h6, fun j => (Z i).getD j 0, ?_⟩
    cases e : A i with
    | none =>
      have := h6 e
      intro j hj
      omega
    | some a' =>
      exact ints_cells (fun j hj => (h7 a' e).2 j (by omega))

theorem units_of (hv : Value.okWide Try.prog W .any base 32 v) (h : DataW.Trod enc Try.prog W 0 (fun _ => true) true 32 v d p) :
    ∃ a n c f g, v = .slice a n c ∧ (a = none → c = 0) ∧ Units W.heap.size W a n f g ∧ (∀ i, (Lit.int .i64 (f i)).wf = true) ∧ ∀ i, (Lit.int .i64 (g i)).wf = true := by
  obtain ⟨a, len, cap, rfl⟩ := okWide_slice Try.underlying32 hv
  obtain ⟨fuel, hf⟩ := h
  rcases open_slice Try.underlying32 hf with ⟨hcs, _⟩ | ⟨x, l, c, m, n, D, Pl, hcs, _, hl, hm, hmm, _, hx⟩
  · simp [Value.cells] at hcs
    obtain ⟨rfl, rfl, rfl⟩ := hcs
    exact ⟨none, 0, 0, fun _ => 0, fun _ => 0, rfl, fun _ => rfl, fun i hi => by omega, fun _ => wf_zero, fun _ => wf_zero⟩
  · simp [Value.cells] at hcs
    obtain ⟨rfl, rfl, rfl⟩ := hcs
    simp only [if_true] at hmm
    have each : ∀ i, i < len → ∃ y : Int × Int, W.cell? (x.add (i * 2)) = some (.int .i64 y.1) ∧ W.cell? (x.add (i * 2 + 1)) = some (.int .i64 y.2) ∧ (Lit.int .i64 y.1).wf = true ∧ (Lit.int .i64 y.2).wf = true := by
      intro i hi
      obtain ⟨cs', h1, h2⟩ := hx i (by omega)
      rw [Try.cells39] at h1
      obtain ⟨_, hlen, hcell⟩ := World.cells?_some h1
      obtain ⟨xs, k, hk, hxy, _, hxl, hf⟩ := DataW.trod_array Try.underlying39 h2
      rw [Try.cells3] at hf
      match xs, hxl, cs', hlen with
      | [y0, y1], _, [v0, v1], _ =>
        have g0 := hf 0 (by omega)
        have g1 := hf 1 (by omega)
        simp at g0 g1
        obtain ⟨n0, e0, _, w0⟩ := DataW.trod_int Try.underlying3 g0
        obtain ⟨n1, e1, _, w1⟩ := DataW.trod_int Try.underlying3 g1
        have c0 := hcell 0 (by omega)
        have c1 := hcell 1 (by omega)
        rw [add_add] at c0 c1
        simp at e0 e1
        subst e0
        subst e1
        exact ⟨(n0, n1), by simpa using c0, by simpa using c1, w0, w1⟩
    let y : Nat → Int × Int := fun i => if h : i < len then (each i h).choose else (0, 0)
    have hy : ∀ i, i < len → W.cell? (x.add (i * 2)) = some (.int .i64 (y i).1) ∧ W.cell? (x.add (i * 2 + 1)) = some (.int .i64 (y i).2) ∧ (Lit.int .i64 (y i).1).wf = true ∧ (Lit.int .i64 (y i).2).wf = true := fun i hi => by
      show _ ∧ _
      simp only [y, dif_pos hi]
      exact (each i hi).choose_spec
    refine ⟨some x, len, cap, fun i => (y i).1, fun i => (y i).2, rfl, (fun e => by cases e), fun i hi => ?_, fun i => ?_, fun i => ?_⟩
    · obtain ⟨h1, h2, _⟩ := hy i hi
      obtain ⟨b, off, rfl⟩ := spot_none (by simpa using (hy 0 (by omega)).1)
      rw [addr_add] at h1 h2
      exact ⟨b, off, rfl, by simpa using block_lt_of_cell h1, h1, by rw [Nat.add_assoc]; exact h2⟩
    · by_cases hi : i < len
      · exact (hy i hi).2.2.1
      · simp only [y, dif_neg hi]; exact wf_zero
    · by_cases hi : i < len
      · exact (hy i hi).2.2.2
      · simp only [y, dif_neg hi]; exact wf_zero
end
end Go.Proofs.Qxb6603801a
