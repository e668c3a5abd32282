import Derived.Test.Qxb6603603aCLb
import Derived.Test.Qxb6603603aOpS
import Derived.WalkKit
import Derived.ProofKit
import Derived.OpenShut
import Derived.ShutString
import Derived.ChangeOld
import Derived.Below
namespace Go.Proofs.Qxb6603603a.inspectCase
open Go.ChangeShapes Go.WideShapes Go.ChangeAt Go.RowKit
open Go.ChangeMaps (open_string shut_string)
set_option linter.unusedVariables false

theorem strs_sl {w : World} {v : Value} (h : IsStrs w v) : ∃ (a : Option Addr) (cap : Nat) (ss : List ByteArray), v = .slice a ss.length cap ∧ (a = none → ss = [] ∧ cap = 0) ∧ ss.length ≤ maxLen ∧ Sl w a ss := by
  rcases h with rfl | ⟨ad, cap, rfl⟩ | ⟨g, off, cap, ss, rfl, _, hl, hc⟩
  · exact ⟨none, 0, [], rfl, fun _ => ⟨rfl, rfl⟩, by simp, fun i hi => by cases hi⟩
  · exact ⟨some ad, cap, [], rfl, (fun h => by cases h), by simp, fun i hi => by cases hi⟩
  · exact ⟨_, cap, ss, rfl, (fun h => by cases h), hl, fun i hi => ⟨g, off, rfl, (hc i hi).1, (hc i hi).2⟩⟩

theorem walk (a0 : ByteArray) (a1 : Bool) (v2 v3 : Value) (a4 : ByteArray) (a5 : Bool) (w : World) (w0 : a0.size ≤ maxLen) (w4 : a4.size ≤ maxLen) (h2 : IsStrs w v2) (h3 : IsStrs w v3) :
    Calls Try.prog 4 #[.string a0, .bool a1, v2, v3, .string a4, .bool a5] w fun e w' => e = .returned (.bool true) ∧ Below w.heap.size w w' := by
  obtain ⟨a, ca, cs, rfl, k1, k2, k3⟩ := strs_sl h2
  obtain ⟨b, cb, rs, rfl, l1, l2, l3⟩ := strs_sl h3
  cases a1 <;> cases a5
  · exact claw_ff a0 a4 a b ca cb cs rs w w0 w4 k2 l2 k1 l1 k3 l3
  · exact claw_ft a0 a4 a b ca cb cs rs w w0 w4 k2 l2 k1 l1 k3 l3
  · exact claw_tf a0 a4 a b ca cb cs rs w w0 w4 k2 l2 k1 l1 k3 l3
  · exact claw_tt a0 a4 a b ca cb cs rs w w0 w4 k2 l2 k1 l1 k3 l3

set_option maxRecDepth 100000 in
theorem lifted (os : Os) (started : os.Started) (H : Type) (enc : TypeId × Value → H) :
    ReturnsInHanded {} Try.checked os 4 .any (Rows.fnInspectCaseVisitsPartsInOrderSpec.pre6 enc Try.prog Try.f4 Rows.fnInspectCaseVisitsPartsInOrderRow.domain false) (Rows.fnInspectCaseVisitsPartsInOrderSpec.post enc Try.prog Try.f4 false true false false) := by
  refine returnsInHanded_of_change (C := Try.checked) own started (by kernel_rfl) Try.func4
    (ChangeSpec.witness6 (enc := enc) (C := Try.checked) false ⟨#[], #[.string ByteArray.empty, .bool false, .slice none 0 0, .slice none 0 0, .string ByteArray.empty, .bool false], []⟩ 8 (by kernel_rfl) (by kernel_rfl) (by kernel_rfl) (by kernel_rfl)) ?_
  intro W base args ds gs before hval0 hW hcnd _
  have hval : ∀ (j : Nat) t v, Try.f4.params[j]? = some t → args[j]? = some v → Value.okWide Try.prog W .any base t v := hval0
  have hW' := hW
  obtain ⟨p, q, hA0, hV, rfl, hfz, hnd⟩ := hW
  have hA : DataW.TrodAll enc Try.prog W 0 (fun _ => true) true Try.f4.params.toList args.toList ds p := hA0
  rw [Try.params4] at hA hval
  obtain ⟨v0, vs0, d0, ds0, p0, q0, hargs, rfl, rfl, h0, r0⟩ := trodAll_cons hA
  obtain ⟨v1, vs1, d1, ds1, p1, q1, rfl, rfl, rfl, h1, r1⟩ := trodAll_cons r0
  obtain ⟨v2, vs2, d2, ds2, p2, q2, rfl, rfl, rfl, h2, r2⟩ := trodAll_cons r1
  obtain ⟨v3, vs3, d3, ds3, p3, q3, rfl, rfl, rfl, h3, r3⟩ := trodAll_cons r2
  obtain ⟨v4, vs4, d4, ds4, p4, q4, rfl, rfl, rfl, h4, r4⟩ := trodAll_cons r3
  obtain ⟨v5, vs5, d5, ds5, p5, q5, rfl, rfl, rfl, h5, r5⟩ := trodAll_cons r4
  obtain ⟨rfl, rfl, rfl⟩ := trodAll_nil r5
  obtain rfl : args = #[v0, v1, v2, v3, v4, v5] := by cases args; simp_all
  obtain ⟨rfl, rfl⟩ := trodVars_none hV
  have k2 := h2
  have lt2 : ∀ x ∈ p2, x.block < W.heap.size := by obtain ⟨m, hm⟩ := k2; exact DataW.trod_lt m _ _ _ hm
  have k3 := h3
  have lt3 : ∀ x ∈ p3, x.block < W.heap.size := by obtain ⟨m, hm⟩ := k3; exact DataW.trod_lt m _ _ _ hm
  have w2 := strs_of (hval 2 22 v2 rfl rfl) h2
  have w3 := strs_of (hval 3 22 v3 rfl rfl) h3
  obtain ⟨a0, rfl, rfl, rfl, w0⟩ := open_string Try.underlying9 (hval 0 9 v0 rfl rfl) h0
  obtain ⟨a1, rfl, rfl, rfl⟩ := open_bool Try.underlying4 (hval 1 4 v1 rfl rfl) h1
  obtain ⟨a4, rfl, rfl, rfl, w4⟩ := open_string Try.underlying9 (hval 4 9 v4 rfl rfl) h4
  obtain ⟨a5, rfl, rfl, rfl⟩ := open_bool Try.underlying4 (hval 5 4 v5 rfl rfl) h5
  clear hA0 hval0
  refine (walk a0 a1 v2 v3 a4 a5 W w0 w4 w2 w3).mono fun e W' ⟨he, bel⟩ => ?_
  subst he
  exact ⟨_, rfl, _, _, _, [], _, [], hW', trodAll_mk1 (shut_bool Try.underlying4 _), (trodAll_cons_mk (shut_string Try.underlying9 w0) (trodAll_cons_mk (shut_bool Try.underlying4 _) (trodAll_cons_mk (Below.trod laidOut (by kernel_rfl) (of_decide_eq_true (by kernel_rfl)) k2 bel lt2) (trodAll_cons_mk (Below.trod laidOut (by kernel_rfl) (of_decide_eq_true (by kernel_rfl)) k3 bel lt3) (trodAll_cons_mk (shut_string Try.underlying9 w4) (trodAll_cons_mk (shut_bool Try.underlying4 _) trodAll_mk0)))))), rfl, bel.frame _, fun h => by cases h⟩

theorem over : Rows.fnInspectCaseVisitsPartsInOrderRow.holds Try.pinned (OpenSpec.ofChange Rows.fnInspectCaseVisitsPartsInOrderSpec) :=
  OpenClaim.holds_of_wide 4 Try.f4 rfl rfl rfl rfl rfl rfl rfl ⟨rfl, rfl, rfl, rfl, rfl⟩ rfl rfl rfl rfl rfl (by kernel_rfl) Try.func4 (by kernel_rfl)
    (of_decide_eq_true (by kernel_rfl)) (by unfold Func.isWrapper; first | (rw [if_pos (by decide +kernel)]; kernel_rfl) | (rw [if_neg (by decide +kernel)]; exact ⟨rfl, rfl⟩))
    (fun os started H enc _ => lifted os started H enc)

end Go.Proofs.Qxb6603603a.inspectCase
namespace Go.Proofs.Qxb6603603a
/-- THE STATEMENT -/
theorem inspectCaseProved : Rows.FnInspectCaseVisitsPartsInOrderSaid := inspectCase.over
end Go.Proofs.Qxb6603603a
