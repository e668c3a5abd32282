import Derived.Test.Qxb6603603aVis
namespace Go.Proofs.Qxb6603603a
open Go.RowKit

theorem ta_34_52 (x : Option Addr) (w : World) : (Instr.typeAssert (.iface 34 (.pointer x)) 38 52 true).run Try.prog w = .ok (.tuple #[.pointer none, .bool false]) w := by kernel_rfl
theorem ta_34_56 (x : Option Addr) (w : World) : (Instr.typeAssert (.iface 34 (.pointer x)) 38 56 true).run Try.prog w = .ok (.tuple #[.pointer none, .bool false]) w := by kernel_rfl
theorem ta_34_59 (x : Option Addr) (w : World) : (Instr.typeAssert (.iface 34 (.pointer x)) 38 59 true).run Try.prog w = .ok (.tuple #[.pointer none, .bool false]) w := by kernel_rfl
theorem ta_34_63 (x : Option Addr) (w : World) : (Instr.typeAssert (.iface 34 (.pointer x)) 38 63 true).run Try.prog w = .ok (.tuple #[.pointer none, .bool false]) w := by kernel_rfl
theorem ta_34_40 (x : Option Addr) (w : World) : (Instr.typeAssert (.iface 34 (.pointer x)) 38 40 true).run Try.prog w = .ok (.tuple #[.pointer none, .bool false]) w := by kernel_rfl
theorem ta_34_66 (x : Option Addr) (w : World) : (Instr.typeAssert (.iface 34 (.pointer x)) 38 66 true).run Try.prog w = .ok (.tuple #[.pointer none, .bool false]) w := by kernel_rfl
theorem ta_34_69 (x : Option Addr) (w : World) : (Instr.typeAssert (.iface 34 (.pointer x)) 38 69 true).run Try.prog w = .ok (.tuple #[.pointer none, .bool false]) w := by kernel_rfl
theorem ta_34_73 (x : Option Addr) (w : World) : (Instr.typeAssert (.iface 34 (.pointer x)) 38 73 true).run Try.prog w = .ok (.tuple #[.pointer none, .bool false]) w := by kernel_rfl
theorem ta_34_76 (x : Option Addr) (w : World) : (Instr.typeAssert (.iface 34 (.pointer x)) 38 76 true).run Try.prog w = .ok (.tuple #[.pointer none, .bool false]) w := by kernel_rfl
theorem ta_34_79 (x : Option Addr) (w : World) : (Instr.typeAssert (.iface 34 (.pointer x)) 38 79 true).run Try.prog w = .ok (.tuple #[.pointer none, .bool false]) w := by kernel_rfl
theorem ta_34_82 (x : Option Addr) (w : World) : (Instr.typeAssert (.iface 34 (.pointer x)) 38 82 true).run Try.prog w = .ok (.tuple #[.pointer none, .bool false]) w := by kernel_rfl
theorem ta_34_89 (x : Option Addr) (w : World) : (Instr.typeAssert (.iface 34 (.pointer x)) 38 89 true).run Try.prog w = .ok (.tuple #[.pointer none, .bool false]) w := by kernel_rfl
theorem ta_34_46 (x : Option Addr) (w : World) : (Instr.typeAssert (.iface 34 (.pointer x)) 38 46 true).run Try.prog w = .ok (.tuple #[.pointer none, .bool false]) w := by kernel_rfl
theorem ta_34_95 (x : Option Addr) (w : World) : (Instr.typeAssert (.iface 34 (.pointer x)) 38 95 true).run Try.prog w = .ok (.tuple #[.pointer none, .bool false]) w := by kernel_rfl
theorem ta_40_52 (x : Option Addr) (w : World) : (Instr.typeAssert (.iface 40 (.pointer x)) 38 52 true).run Try.prog w = .ok (.tuple #[.pointer none, .bool false]) w := by kernel_rfl
theorem ta_40_56 (x : Option Addr) (w : World) : (Instr.typeAssert (.iface 40 (.pointer x)) 38 56 true).run Try.prog w = .ok (.tuple #[.pointer none, .bool false]) w := by kernel_rfl
theorem ta_40_59 (x : Option Addr) (w : World) : (Instr.typeAssert (.iface 40 (.pointer x)) 38 59 true).run Try.prog w = .ok (.tuple #[.pointer none, .bool false]) w := by kernel_rfl
theorem ta_40_63 (x : Option Addr) (w : World) : (Instr.typeAssert (.iface 40 (.pointer x)) 38 63 true).run Try.prog w = .ok (.tuple #[.pointer none, .bool false]) w := by kernel_rfl
theorem ta_40_40 (x : Option Addr) (w : World) : (Instr.typeAssert (.iface 40 (.pointer x)) 38 40 true).run Try.prog w = .ok (.tuple #[.pointer x, .bool true]) w := by kernel_rfl

/-- the visitor as a value -/
def vf (V S O D : Nat) : Value := .func (.func 15) #[] #[.pointer (some ⟨V, 0, none⟩), .pointer (some ⟨S, 0, none⟩), .pointer (some ⟨O, 0, none⟩), .pointer (some ⟨D, 0, none⟩)]

set_option maxRecDepth 100000 in
set_option maxHeartbeats 1000000 in
theorem insp_leaf {H V S O D : Nat} {w : World} {k : Nat} {names : List ByteArray} {oth : List Int} (h : Hid (Vis H V S O w k names oth)) (p : Nat) (nm : ByteArray)
    (hpV : p ≠ V) (hc : w.cell? ⟨p, 2, none⟩ = some (.string nm)) (hk : k ≤ 1000000) (hn : names.length ≤ 1000000) :
    Calls Try.prog 14 #[.iface 34 (.pointer (some ⟨p, 0, none⟩)), .func (.func 15) #[] #[.pointer (some ⟨V, 0, none⟩), .pointer (some ⟨S, 0, none⟩), .pointer (some ⟨O, 0, none⟩), .pointer (some ⟨D, 0, none⟩)]] w fun e w' =>
      e = .returned (.tuple #[]) ∧ Vis H V S O w' (k + 1) (names ++ [nm]) oth ∧ Keep H V S O w w' := by
  have hcall := vis_leaf (D := D) h p nm hpV hc hk hn
  have HCALL : Hid (Calls Try.prog 15 #[.iface 34 (.pointer (some ⟨p, 0, none⟩)), .pointer (some ⟨V, 0, none⟩), .pointer (some ⟨S, 0, none⟩), .pointer (some ⟨O, 0, none⟩), .pointer (some ⟨D, 0, none⟩)] w fun e w' =>
      e = .returned (.bool true) ∧ Vis H V S O w' (k + 1) (names ++ [nm]) oth ∧ Keep H V S O w w') := hcall
  clear hcall hc hk hn h
  have t52 := ta_34_52
  have t56 := ta_34_56
  have t59 := ta_34_59
  have t63 := ta_34_63
  have t40 := ta_34_40
  have t66 := ta_34_66
  have t69 := ta_34_69
  have t73 := ta_34_73
  have t76 := ta_34_76
  have t79 := ta_34_79
  have t82 := ta_34_82
  have t89 := ta_34_89
  have t46 := ta_34_46
  have t95 := ta_34_95
  go_enter Try.func14, Try.ntmps14
  go_wp2_with (go_at_call 15; refine HCALL.out.mono ?_; rintro e w' ⟨rfl, hv', hk'⟩)
  go_end0
  exact ⟨rfl, hv', hk'⟩

/-- a column reference that lies in memory as Inspect begins -/
structure Leaf (H V S O : Nat) (w : World) (p : Nat) (nm : ByteArray) : Prop where
  lt : p < H
  v : p ≠ V
  s : p ≠ S
  o : p ≠ O
  c : w.cell? ⟨p, 2, none⟩ = some (.string nm)

theorem Keep.cell {H V S O : Nat} {w w' : World} (h : Keep H V S O w w') {b o : Nat} (h1 : b < H) (h2 : b ≠ V) (h3 : b ≠ S) (h4 : b ≠ O) : w'.cell? ⟨b, o, none⟩ = w.cell? ⟨b, o, none⟩ :=
  World.cell?_of_block (w := w) (h.block b h1 h2 h3 h4)

theorem Leaf.keep {H V S O : Nat} {w w' : World} {p : Nat} {nm : ByteArray} (h : Leaf H V S O w p nm) (k : Keep H V S O w w') : Leaf H V S O w' p nm :=
  ⟨h.lt, h.v, h.s, h.o, (k.cell h.lt h.v h.s h.o).trans h.c⟩

theorem Keep.refl (H V S O : Nat) (w : World) : Keep H V S O w w := ⟨rfl, rfl, rfl, Nat.le_refl _, fun _ _ _ _ _ => rfl⟩

set_option maxRecDepth 100000 in
set_option maxHeartbeats 1000000 in
theorem insp_no {H V S O D L : Nat} {w : World} (h : Hid (Vis H V S O w 0 [] []))
    (hD : D < H) (hDV : D ≠ V) (hDO : D ≠ O) (hd : w.cell? ⟨D, 0, none⟩ = some (.bool false)) :
    Calls Try.prog 14 #[.iface 40 (.pointer (some ⟨L, 0, none⟩)), .func (.func 15) #[] #[.pointer (some ⟨V, 0, none⟩), .pointer (some ⟨S, 0, none⟩), .pointer (some ⟨O, 0, none⟩), .pointer (some ⟨D, 0, none⟩)]] w fun e w' =>
      e = .returned (.tuple #[]) ∧ Vis H V S O w' 1 [] [0] ∧ Keep H V S O w w' := by
  have hcall := vis_root h (some ⟨L, 0, none⟩) hD hDV hDO hd (by omega) (by simp)
  have HCALL : Hid (Calls Try.prog 15 #[.iface 40 (.pointer (some ⟨L, 0, none⟩)), .pointer (some ⟨V, 0, none⟩), .pointer (some ⟨S, 0, none⟩), .pointer (some ⟨O, 0, none⟩), .pointer (some ⟨D, 0, none⟩)] w fun e w' =>
      e = .returned (.bool false) ∧ Vis H V S O w' 1 [] [0] ∧ Keep H V S O w w') := hcall
  clear hcall hd h
  go_enter Try.func14, Try.ntmps14
  go_wp2_with (go_at_call 15; refine HCALL.out.mono ?_; rintro e w' ⟨rfl, hv', hk'⟩)
  refine bodyPost_ret (results_none rfl _ _ _) rfl ?_
  exact ⟨rfl, hv', hk'⟩

set_option maxRecDepth 100000 in
set_option maxHeartbeats 2000000 in
theorem insp_yes {H V S O D L T : Nat} {w : World} (names : List ByteArray) (P : Nat → Nat) (h : Hid (Vis H V S O w 0 [] []))
    (hD : D < H) (hDV : D ≠ V) (hDO : D ≠ O) (hd : w.cell? ⟨D, 0, none⟩ = some (.bool true)) (hn : names.length ≤ 65536)
    (hL : L < H) (hLV : L ≠ V) (hLS : L ≠ S) (hLO : L ≠ O) (hc : w.cell? ⟨L, 1, none⟩ = some (.slice (some ⟨T, 0, none⟩) names.length names.length))
    (hT : T < H) (hTV : T ≠ V) (hTS : T ≠ S) (hTO : T ≠ O) (ht : ∀ i, i < names.length → w.cell? ⟨T, i, none⟩ = some (.iface 34 (.pointer (some ⟨P i, 0, none⟩))))
    (hleaf : ∀ i, i < names.length → Leaf H V S O w (P i) (names.getD i ByteArray.empty)) :
    Calls Try.prog 14 #[.iface 40 (.pointer (some ⟨L, 0, none⟩)), .func (.func 15) #[] #[.pointer (some ⟨V, 0, none⟩), .pointer (some ⟨S, 0, none⟩), .pointer (some ⟨O, 0, none⟩), .pointer (some ⟨D, 0, none⟩)]] w fun e w' =>
      e = .returned (.tuple #[]) ∧ Vis H V S O w' (1 + names.length) names [0] ∧ Keep H V S O w w' := by
  have hcall := vis_root h (some ⟨L, 0, none⟩) hD hDV hDO hd (by omega) (by simp)
  have HCALL : Hid (Calls Try.prog 15 #[.iface 40 (.pointer (some ⟨L, 0, none⟩)), .pointer (some ⟨V, 0, none⟩), .pointer (some ⟨S, 0, none⟩), .pointer (some ⟨O, 0, none⟩), .pointer (some ⟨D, 0, none⟩)] w fun e w' =>
      e = .returned (.bool true) ∧ Vis H V S O w' 1 [] [0] ∧ Keep H V S O w w') := hcall
  have HT : Hid (∀ i, i < names.length → w.cell? ⟨T, i, none⟩ = some (.iface 34 (.pointer (some ⟨P i, 0, none⟩)))) := ht
  have HLEAF : Hid (∀ i, i < names.length → Leaf H V S O w (P i) (names.getD i ByteArray.empty)) := hleaf
  have HC : Hid (w.cell? ⟨L, 1, none⟩ = some (.slice (some ⟨T, 0, none⟩) names.length names.length)) := hc
  clear hcall hd h ht hleaf hc
  have t52 := ta_40_52
  have t56 := ta_40_56
  have t59 := ta_40_59
  have t63 := ta_40_63
  have t40 := ta_40_40
  go_enter Try.func14, Try.ntmps14
  go_wp2_with (go_at_call 15; refine HCALL.out.mono ?_; rintro e w' ⟨rfl, hv', hk'⟩; have hcL := (hk'.cell (o := 1) hL hLV hLS hLO).trans HC.out; clear HCALL)
  have HV' : Hid (Vis H V S O w' 1 [] [0]) := hv'
  have HK' : Hid (Keep H V S O w w') := hk'
  clear hv' hk'
  go_loopw [95] (fun si wr => ∃ j : Nat, j ≤ names.length ∧ si = .int .i64 (j : Int) ∧ Hid (Vis H V S O wr (1 + j) (names.take j) [0]) ∧ Hid (Keep H V S O w wr)) (fun si _ => names.length - (intOf si).toNat)
  case atStart => exact ⟨0, by omega, rfl, by simpa using HV', HK'⟩
  case round =>
    obtain ⟨j, hj, rfl, hvis, hkeep⟩ := hrel
    by_cases hlt : j < names.length
    · have hcT := (hkeep.out.cell (o := j) hT hTV hTS hTO).trans (HT.out j hlt)
      have hlf := (HLEAF.out j hlt).keep hkeep.out
      have hcall := insp_leaf (D := D) hvis (P j) _ hlf.v hlf.c (by omega) (by simp; omega)
      have HCALL : Hid (Calls Try.prog 14 #[.iface 34 (.pointer (some ⟨P j, 0, none⟩)), .func (.func 15) #[] #[.pointer (some ⟨V, 0, none⟩), .pointer (some ⟨S, 0, none⟩), .pointer (some ⟨O, 0, none⟩), .pointer (some ⟨D, 0, none⟩)]] wr fun e w' =>
        e = .returned (.tuple #[]) ∧ Vis H V S O w' (1 + j + 1) (names.take j ++ [names.getD j ByteArray.empty]) [0] ∧ Keep H V S O wr w') := hcall
      clear hcall hlf
      go_wp2_with (go_at_call 14; refine HCALL.out.mono ?_; rintro e w2 ⟨rfl, hv2, hk2⟩)
      refine ⟨⟨j + 1, by omega, by go_num, ?_, hkeep.out.trans hk2⟩, by simp [intOf]; omega⟩
      unfold Hid
      rw [List.take_succ_eq_append_getElem hlt]
      simpa [hlt, Nat.add_assoc] using hv2
    · have hjn : j = names.length := by omega
      subst hjn
      go_wp2_with fail
      go_end0
      have hv := hvis.out
      rw [List.take_of_length_le (Nat.le_refl _)] at hv
      exact ⟨rfl, hv, hkeep.out⟩
end Go.Proofs.Qxb6603603a
