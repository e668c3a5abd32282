import Derived.Test.Qxb6003438aKA
import Derived.ProofKit
import Derived.OpenShut
/- An array of thirty bytes, by value, opened: its cells as numbers. -/
namespace Go.Proofs.Qxb6003438a
open Go.ChangeShapes Go.WideShapes Go.ChangeAt Go.RowKit

theorem own : ownKnob Try.prog.godebug = none := by kernel_rfl
theorem laidOut : laidOutB Try.prog = true := by kernel_rfl
theorem Try.cells22 : Try.prog.cellsOf 22 = 30 := by kernel_rfl
theorem Try.cells5 : Try.prog.cellsOf 5 = 1 := by kernel_rfl

theorem win_of {H : Type} {enc : TypeId × Value → H} {W : World} {base : Nat} {v : Value} {d : DataW H} {p : List MemPlace}
    (hv : Value.okWide Try.prog W .any base 22 v) (h : DataW.Trod enc Try.prog W 0 (fun _ => true) true 22 v d p) :
    ∃ cs z, v = .agg cs ∧ Win cs z := by
  obtain ⟨cs, rfl, hsz, _⟩ : ∃ cs, v = .agg cs ∧ cs.size = Try.prog.cellsOf 22 ∧ Row.okWide Try.prog W .any base 22 cs := by
    simpa [Value.okWide, Try.underlying22] using hv
  rw [Try.cells22] at hsz
  obtain ⟨fuel, hf⟩ := h
  obtain ⟨xs, m, _, _, _, hl, hel⟩ := DataW.trod_array Try.underlying22 hf
  rw [Try.cells5] at hel
  have key : ∀ j : Nat, j < 30 → ∃ n : Int, cs[j]? = some (.int .u8 n) ∧ 0 ≤ n ∧ n ≤ 255 := by
    intro j hj
    have h1 := hel j hj
    have hx : ∃ y, xs[j]? = some y := ⟨xs[j]'(by omega), by simp [hl, hj]⟩
    obtain ⟨y, hy⟩ := hx
    rw [hy] at h1
    obtain ⟨n, e, _, hwf⟩ := DataW.trod_int Try.underlying5 h1
    refine ⟨n, ?_, (bounds_u8 hwf).1, (bounds_u8 hwf).2⟩
    have hjs : j < cs.size := by omega
    have e2 : (List.take 1 (List.drop (j * 1) (Value.agg cs).cells.toList))[0]? = some (.int .u8 n) := by rw [e]; rfl
    rw [List.getElem?_take_of_lt (by omega), List.getElem?_drop] at e2
    simpa [Value.cells] using e2
  refine ⟨cs, fun j => match cs[j]? with | some (.int _ n) => n | _ => 0, rfl, hsz, ?_, ?_⟩
  · intro j hj
    obtain ⟨n, hn, _⟩ := key j hj
    simp [hn]
  · intro j hj
    obtain ⟨n, hn, h0, h1⟩ := key j hj
    simp only [hn]
    exact ⟨h0, h1⟩
end Go.Proofs.Qxb6003438a
