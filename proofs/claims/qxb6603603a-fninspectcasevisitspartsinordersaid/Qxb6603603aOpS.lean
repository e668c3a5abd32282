import Derived.Test.Qxb6603603aZL
import Derived.ProofKit
import Derived.OpenShut
import Derived.SliceStrings
/- A slice of strings that came in, opened. -/
namespace Go.Proofs.Qxb6603603a
open Go.ChangeShapes Go.WideShapes Go.ChangeAt Go.RowKit

theorem own : ownKnob Try.prog.godebug = none := by kernel_rfl
theorem laidOut : laidOutB Try.prog = true := by kernel_rfl

/-- what a walk is told of a slice of strings: nil; empty; or its cells -/
def IsStrs (w : World) (v : Value) : Prop :=
  v = .slice none 0 0 ∨ (∃ ad cap, v = .slice (some ad) 0 cap) ∨
  ∃ (g off cap : Nat) (ss : List ByteArray), v = .slice (some ⟨g, off, none⟩) ss.length cap ∧ 0 < ss.length ∧ ss.length ≤ maxLen ∧ ∀ i, i < ss.length → g < w.heap.size ∧ w.cell? ⟨g, off + i, none⟩ = some (.string (ss.getD i ByteArray.empty))

set_option maxRecDepth 100000 in
theorem strs_of {H : Type} {enc : TypeId × Value → H} {W : World} {base : Nat} {v : Value} {d : DataW H} {p : List MemPlace}
    (hv : Value.okWide Try.prog W .any base 22 v) (h : DataW.Trod enc Try.prog W 0 (fun _ => true) true 22 v d p) : IsStrs W v := by
  obtain ⟨a, len, cap, rfl⟩ := okWide_slice Try.underlying22 hv
  obtain ⟨fuel, hf⟩ := h
  rcases open_strings Try.underlying22 Try.underlying9 (by kernel_rfl) hf with ⟨hcs, _⟩ | ⟨x, l, c, ss, hcs, _, hl, hm, hz, _, hcell, _⟩
  · simp [Value.cells] at hcs
    obtain ⟨rfl, rfl, rfl⟩ := hcs
    exact .inl rfl
  · simp [Value.cells] at hcs
    obtain ⟨rfl, rfl, rfl⟩ := hcs
    simp only [if_true] at hz
    by_cases h0 : len = 0
    · subst h0
      exact .inr (.inl ⟨x, cap, rfl⟩)
    · obtain ⟨b, off, spot⟩ := x
      have hc := hcell 0 (by omega)
      have hspot : spot = none := by simpa [Addr.add] using World.cell?_spot hc
      subst hspot
      have hlen : (ss.take len).length = len := by simp; omega
      refine .inr (.inr ⟨b, off, cap, ss.take len, by rw [hlen], by omega, by omega, fun i hi => ?_⟩)
      rw [hlen] at hi
      have hci := hcell i (by omega)
      have e : (⟨b, off, none⟩ : Addr).add i = ⟨b, off + i, none⟩ := by unfold Addr.add; split <;> simp_all
      rw [e] at hci
      have hget : (ss.take len).getD i ByteArray.empty = ss.getD i ByteArray.empty := by simp [List.getElem?_take_of_lt hi]
      rw [hget]
      exact ⟨by simpa using block_lt_of_cell hci, hci⟩
end Go.Proofs.Qxb6603603a
