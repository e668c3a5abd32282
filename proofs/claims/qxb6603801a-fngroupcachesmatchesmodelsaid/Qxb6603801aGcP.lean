import Derived.Test.Qxb6603801aLaw
import Derived.Test.Qxb6603801aOp
import Derived.WalkKit
import Derived.ProofKit
import Derived.OpenShut
import Derived.ChangeOld
import Derived.Below
namespace Go.Proofs.Qxb6603801a.groupCaches
open Go.ChangeShapes Go.WideShapes Go.ChangeAt Go.RowKit

/-- a world that has only grown is as it was below its old end -/
theorem below_grown {w w' : World} (h : w.grownBy w' none) : Below w.heap.size w w' := Below.grown (Below.refl _ _) h (Nat.le_refl _) (fun k hk => by cases hk)

theorem walk {w : World} {n k1 m fl k2 : Nat} {lc ln : Nat → Nat} {f0 f1 f2 fp : Nat → Int} {ca na sa fa ua : Option Addr} {cc nc sc fc uc : Nat} {p : Int}
    (h1 : IRows w.heap.size w ca n lc) (h2 : IRows w.heap.size w sa m ln) (h3 : Ints w.heap.size w na k1 f2) (h4 : Ints w.heap.size w fa fl fp) (h5 : Units w.heap.size w ua k2 f0 f1)
    (hca : ca = none → cc = 0) (hna : na = none → nc = 0) (hsa : sa = none → sc = 0) (hfa : fa = none → fc = 0) (hua : ua = none → uc = 0)
    (w0 : ∀ u, (Lit.int .i64 (f0 u)).wf = true) (w1 : ∀ u, (Lit.int .i64 (f1 u)).wf = true) (w2 : ∀ u, (Lit.int .i64 (f2 u)).wf = true) :
    Calls Try.prog 5 #[.slice ca n cc, .slice na k1 nc, .slice sa m sc, .slice fa fl fc, .slice ua k2 uc, .int .i64 p] w fun e w' => e = .returned (.bool true) ∧ Below w.heap.size w w' :=
  (law_any (key := fun u => (f0 u, f1 u, f2 u)) h1 h2 h3 h4 h5 hca hna hsa hfa hua (fun u => ⟨w0 u, w1 u, w2 u⟩)).mono fun _ _ h => ⟨h.1, below_grown h.2⟩

set_option maxRecDepth 100000 in
theorem lifted (os : Os) (started : os.Started) (H : Type) (enc : TypeId × Value → H) :
    ReturnsInHanded {} Try.checked os 5 .any (Rows.fnGroupCachesMatchesModelSpec.pre6 enc Try.prog Try.f5 Rows.fnGroupCachesMatchesModelRow.domain false) (Rows.fnGroupCachesMatchesModelSpec.post enc Try.prog Try.f5 false true false false) := by
  refine returnsInHanded_of_change (C := Try.checked) own started (by kernel_rfl) Try.func5
    (ChangeSpec.witness6 (enc := enc) (C := Try.checked) false ⟨#[], #[.slice none 0 0, .slice none 0 0, .slice none 0 0, .slice none 0 0, .slice none 0 0, .int .i64 0], []⟩ 8 (by kernel_rfl) (by kernel_rfl) (by kernel_rfl) (by kernel_rfl)) ?_
  intro W base args ds gs before hval0 hW hcnd _
  have hval : ∀ (j : Nat) t v, Try.f5.params[j]? = some t → args[j]? = some v → Value.okWide Try.prog W .any base t v := hval0
  have hW' := hW
  obtain ⟨p, q, hA0, hV, rfl, hfz, hnd⟩ := hW
  have hA : DataW.TrodAll enc Try.prog W 0 (fun _ => true) true Try.f5.params.toList args.toList ds p := hA0
  rw [Try.params5] at hA hval
  obtain ⟨v0, vs0, d0, ds0, p0, q0, hargs, rfl, rfl, h0, r0⟩ := trodAll_cons hA
  obtain ⟨v1, vs1, d1, ds1, p1, q1, rfl, rfl, rfl, h1, r1⟩ := trodAll_cons r0
  obtain ⟨v2, vs2, d2, ds2, p2, q2, rfl, rfl, rfl, h2, r2⟩ := trodAll_cons r1
  obtain ⟨v3, vs3, d3, ds3, p3, q3, rfl, rfl, rfl, h3, r3⟩ := trodAll_cons r2
  obtain ⟨v4, vs4, d4, ds4, p4, q4, rfl, rfl, rfl, h4, r4⟩ := trodAll_cons r3
  obtain ⟨v5, vs5, d5, ds5, p5, q5, rfl, rfl, rfl, h5, r5⟩ := trodAll_cons r4
  obtain ⟨rfl, rfl, rfl⟩ := trodAll_nil r5
  obtain rfl : args = #[v0, v1, v2, v3, v4, v5] := by cases args; simp_all
  obtain ⟨rfl, rfl⟩ := trodVars_none hV
  have k0 := h0
  have lt0 : ∀ x ∈ p0, x.block < W.heap.size := by obtain ⟨m, hm⟩ := k0; exact DataW.trod_lt m _ _ _ hm
  have k1 := h1
  have lt1 : ∀ x ∈ p1, x.block < W.heap.size := by obtain ⟨m, hm⟩ := k1; exact DataW.trod_lt m _ _ _ hm
  have k2 := h2
  have lt2 : ∀ x ∈ p2, x.block < W.heap.size := by obtain ⟨m, hm⟩ := k2; exact DataW.trod_lt m _ _ _ hm
  have k3 := h3
  have lt3 : ∀ x ∈ p3, x.block < W.heap.size := by obtain ⟨m, hm⟩ := k3; exact DataW.trod_lt m _ _ _ hm
  have k4 := h4
  have lt4 : ∀ x ∈ p4, x.block < W.heap.size := by obtain ⟨m, hm⟩ := k4; exact DataW.trod_lt m _ _ _ hm
  obtain ⟨ca, n, cc, lc, rfl, hca, i0⟩ := rows_of (hval 0 31 v0 rfl rfl) h0
  obtain ⟨na, n1, nc, f2, rfl, hna, i1, w2⟩ := ints_of (hval 1 22 v1 rfl rfl) h1
  obtain ⟨sa, m, sc, ln, rfl, hsa, i2⟩ := rows_of (hval 2 31 v2 rfl rfl) h2
  obtain ⟨fa, fl, fc, fp, rfl, hfa, i3, _⟩ := ints_of (hval 3 22 v3 rfl rfl) h3
  obtain ⟨ua, n2, uc, f0, f1, rfl, hua, i4, w0, w1⟩ := units_of (hval 4 32 v4 rfl rfl) h4
  obtain ⟨a5, rfl, rfl, rfl, w5⟩ := open_int Try.underlying3 (hval 5 3 v5 rfl rfl) h5
  clear hA0 hval0
  refine (walk (p := a5) i0 i2 i1 i3 i4 hca hna hsa hfa hua w0 w1 w2).mono fun e W' ⟨he, bel⟩ => ?_
  subst he
  exact ⟨_, rfl, _, _, _, [], _, [], hW', trodAll_mk1 (shut_bool Try.underlying4 _), (trodAll_cons_mk (Below.trod Try.laidOut (by kernel_rfl) (of_decide_eq_true (by kernel_rfl)) k0 bel lt0) (trodAll_cons_mk (Below.trod Try.laidOut (by kernel_rfl) (of_decide_eq_true (by kernel_rfl)) k1 bel lt1) (trodAll_cons_mk (Below.trod Try.laidOut (by kernel_rfl) (of_decide_eq_true (by kernel_rfl)) k2 bel lt2) (trodAll_cons_mk (Below.trod Try.laidOut (by kernel_rfl) (of_decide_eq_true (by kernel_rfl)) k3 bel lt3) (trodAll_cons_mk (Below.trod Try.laidOut (by kernel_rfl) (of_decide_eq_true (by kernel_rfl)) k4 bel lt4) (trodAll_cons_mk (shut_int Try.underlying3 w5) trodAll_mk0)))))), rfl, bel.frame _, fun h => by cases h⟩

theorem over : Rows.fnGroupCachesMatchesModelRow.holds Try.pinned (OpenSpec.ofChange Rows.fnGroupCachesMatchesModelSpec) :=
  OpenClaim.holds_of_wide 5 Try.f5 rfl rfl rfl rfl rfl rfl rfl ⟨rfl, rfl, rfl, rfl, rfl⟩ rfl rfl rfl rfl rfl (by kernel_rfl) Try.func5 (by kernel_rfl)
    (of_decide_eq_true (by kernel_rfl)) (by unfold Func.isWrapper; first | (rw [if_pos (by decide +kernel)]; kernel_rfl) | (rw [if_neg (by decide +kernel)]; exact ⟨rfl, rfl⟩))
    (fun os started H enc _ => lifted os started H enc)

end Go.Proofs.Qxb6603801a.groupCaches
namespace Go.Proofs.Qxb6603801a
/-- THE STATEMENT -/
theorem groupCachesProved : Rows.FnGroupCachesMatchesModelSaid := groupCaches.over
end Go.Proofs.Qxb6603801a
