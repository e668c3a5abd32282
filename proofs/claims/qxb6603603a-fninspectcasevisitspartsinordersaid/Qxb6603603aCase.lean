import Derived.Test.Qxb6603603aVisC
/- Inspect at a CASE of column references. -/
namespace Go.Proofs.Qxb6603603a
open Go.RowKit

theorem ta_46_52 (x : Option Addr) (w : World) : (Instr.typeAssert (.iface 46 (.pointer x)) 38 52 true).run Try.prog w = .ok (.tuple #[.pointer none, .bool false]) w := by kernel_rfl
theorem ta_46_56 (x : Option Addr) (w : World) : (Instr.typeAssert (.iface 46 (.pointer x)) 38 56 true).run Try.prog w = .ok (.tuple #[.pointer none, .bool false]) w := by kernel_rfl
theorem ta_46_59 (x : Option Addr) (w : World) : (Instr.typeAssert (.iface 46 (.pointer x)) 38 59 true).run Try.prog w = .ok (.tuple #[.pointer none, .bool false]) w := by kernel_rfl
theorem ta_46_63 (x : Option Addr) (w : World) : (Instr.typeAssert (.iface 46 (.pointer x)) 38 63 true).run Try.prog w = .ok (.tuple #[.pointer none, .bool false]) w := by kernel_rfl
theorem ta_46_40 (x : Option Addr) (w : World) : (Instr.typeAssert (.iface 46 (.pointer x)) 38 40 true).run Try.prog w = .ok (.tuple #[.pointer none, .bool false]) w := by kernel_rfl
theorem ta_46_66 (x : Option Addr) (w : World) : (Instr.typeAssert (.iface 46 (.pointer x)) 38 66 true).run Try.prog w = .ok (.tuple #[.pointer none, .bool false]) w := by kernel_rfl
theorem ta_46_69 (x : Option Addr) (w : World) : (Instr.typeAssert (.iface 46 (.pointer x)) 38 69 true).run Try.prog w = .ok (.tuple #[.pointer none, .bool false]) w := by kernel_rfl
theorem ta_46_73 (x : Option Addr) (w : World) : (Instr.typeAssert (.iface 46 (.pointer x)) 38 73 true).run Try.prog w = .ok (.tuple #[.pointer none, .bool false]) w := by kernel_rfl
theorem ta_46_76 (x : Option Addr) (w : World) : (Instr.typeAssert (.iface 46 (.pointer x)) 38 76 true).run Try.prog w = .ok (.tuple #[.pointer none, .bool false]) w := by kernel_rfl
theorem ta_46_79 (x : Option Addr) (w : World) : (Instr.typeAssert (.iface 46 (.pointer x)) 38 79 true).run Try.prog w = .ok (.tuple #[.pointer none, .bool false]) w := by kernel_rfl
theorem ta_46_82 (x : Option Addr) (w : World) : (Instr.typeAssert (.iface 46 (.pointer x)) 38 82 true).run Try.prog w = .ok (.tuple #[.pointer none, .bool false]) w := by kernel_rfl
theorem ta_46_89 (x : Option Addr) (w : World) : (Instr.typeAssert (.iface 46 (.pointer x)) 38 89 true).run Try.prog w = .ok (.tuple #[.pointer none, .bool false]) w := by kernel_rfl
theorem ta_46_46 (x : Option Addr) (w : World) : (Instr.typeAssert (.iface 46 (.pointer x)) 38 46 true).run Try.prog w = .ok (.tuple #[.pointer x, .bool true]) w := by kernel_rfl

/-- the root has been visited, and the names L behind it -/
def VisL (H V S O : Nat) (w : World) (L : List ByteArray) : Prop := Vis H V S O w (1 + L.length) L [0]

theorem Vis.alloc {H V S O : Nat} {w : World} {k : Nat} {names : List ByteArray} {oth : List Int} (h : Vis H V S O w k names oth) (X : Obj) : Vis H V S O (w.alloc X) k names oth := by
  obtain ⟨sv, hS, hso⟩ := h.s
  obtain ⟨ov, hO, hoo⟩ := h.o
  have hs := h.size
  have h1 := h.ltV
  have h2 := h.ltS
  have h3 := h.ltO
  refine ⟨h1, h2, h3, h.vs, h.vo, h.so, by simp only [size_al]; omega, ?_, ⟨sv, ?_, hso.alloc _⟩, ⟨ov, ?_, hoo.alloc _⟩⟩
  · rw [old_al _ _ _ (by omega)]; exact h.v
  · rw [old_al _ _ _ (by omega)]; exact hS
  · rw [old_al _ _ _ (by omega)]; exact hO

theorem Keep.alloc {H V S O : Nat} {w w' : World} (h : Keep H V S O w w') (hs : H ≤ w'.heap.size) (X : Obj) : Keep H V S O w (w'.alloc X) :=
  ⟨h.os, h.tape, h.output, by simp only [size_al]; have := h.size; omega, fun i h1 h2 h3 h4 => by rw [old_al _ _ _ (by omega)]; exact h.block i h1 h2 h3 h4⟩

set_option maxRecDepth 100000 in
set_option maxHeartbeats 1000000 in
theorem ic_nil (w : World) (f : Value) : Calls Try.prog 14 #[.nilIface, f] w fun e w' => e = .returned (.tuple #[]) ∧ w' = w := by
  go_enter Try.func14, Try.ntmps14
  go_wp2_with fail
  refine bodyPost_ret (results_none rfl _ _ _) rfl ?_
  exact ⟨rfl, rfl⟩

set_option maxRecDepth 100000 in
set_option maxHeartbeats 1000000 in
theorem ic_leaf {H V S O : Nat} {w : World} {L : List ByteArray} (h : Hid (VisL H V S O w L)) (p : Nat) (nm : ByteArray) (hl : Leaf H V S O w p nm) (hn : L.length ≤ 900000) :
    Calls Try.prog 14 #[.iface 34 (.pointer (some ⟨p, 0, none⟩)), .func (.func 16) #[] #[.pointer (some ⟨V, 0, none⟩), .pointer (some ⟨S, 0, none⟩), .pointer (some ⟨O, 0, none⟩)]] w fun e w' =>
      e = .returned (.tuple #[]) ∧ VisL H V S O w' (L ++ [nm]) ∧ Keep H V S O w w' ∧ Kind S O w w' := by
  have hcall := vc_leaf h p nm hl.v hl.c (by omega) (by omega)
  have HCALL : Hid (Calls Try.prog 16 #[.iface 34 (.pointer (some ⟨p, 0, none⟩)), .pointer (some ⟨V, 0, none⟩), .pointer (some ⟨S, 0, none⟩), .pointer (some ⟨O, 0, none⟩)] w fun e w' =>
      e = .returned (.bool true) ∧ Vis H V S O w' (1 + L.length + 1) (L ++ [nm]) [0] ∧ Keep H V S O w w' ∧ Kind S O w w') := hcall
  clear hcall hl hn h
  have t52 := ta_34_52
  have t56 := ta_34_56
  have t59 := ta_34_59
  have t63 := ta_34_63
  have t40 := ta_34_40
  have t66 := ta_34_66
  have t69 := ta_34_69
  have t73 := ta_34_73
  have t76 := ta_34_76
  have t79 := ta_34_79
  have t82 := ta_34_82
  have t89 := ta_34_89
  have t46 := ta_34_46
  have t95 := ta_34_95
  go_enter Try.func14, Try.ntmps14
  go_wp2_with (go_at_call 16; refine HCALL.out.mono ?_; rintro e w' ⟨rfl, hv', hk'⟩)
  go_end0
  exact ⟨rfl, by unfold VisL; simpa [Nat.add_assoc] using hv', hk'⟩

/-- an expression that may be missing -/
def Opt (H V S O : Nat) (w : World) (v : Value) (o : Option ByteArray) : Prop :=
  (v = .nilIface ∧ o = none) ∨ ∃ p nm, v = .iface 34 (.pointer (some ⟨p, 0, none⟩)) ∧ o = some nm ∧ Leaf H V S O w p nm

theorem Opt.keep {H V S O : Nat} {w w' : World} {v : Value} {o : Option ByteArray} (h : Opt H V S O w v o) (k : Keep H V S O w w') : Opt H V S O w' v o := by
  rcases h with h | ⟨p, nm, h1, h2, h3⟩
  · exact .inl h
  · exact .inr ⟨p, nm, h1, h2, h3.keep k⟩

theorem ic_opt {H V S O : Nat} {w : World} {L : List ByteArray} (h : Hid (VisL H V S O w L)) (v : Value) (o : Option ByteArray) (ho : Opt H V S O w v o) (hn : L.length ≤ 900000) :
    Calls Try.prog 14 #[v, .func (.func 16) #[] #[.pointer (some ⟨V, 0, none⟩), .pointer (some ⟨S, 0, none⟩), .pointer (some ⟨O, 0, none⟩)]] w fun e w' =>
      e = .returned (.tuple #[]) ∧ VisL H V S O w' (L ++ o.toList) ∧ Keep H V S O w w' := by
  rcases ho with ⟨rfl, rfl⟩ | ⟨p, nm, rfl, rfl, hl⟩
  · refine (ic_nil w _).mono ?_
    rintro e w' ⟨rfl, rfl⟩
    exact ⟨rfl, by simpa using h.out, Keep.refl _ _ _ _ _⟩
  · refine (ic_leaf h p nm hl hn).mono ?_
    rintro e w' ⟨h1, h2, h3, _⟩
    exact ⟨h1, h2, h3⟩

/-- the pairs of names, the first j -/
def fl (cs rs : List ByteArray) (j : Nat) : List ByteArray := (List.range j).flatMap fun i => [cs.getD i ByteArray.empty, rs.getD i ByteArray.empty]
theorem fl_succ (cs rs : List ByteArray) (j : Nat) : fl cs rs (j + 1) = (fl cs rs j ++ [cs.getD j ByteArray.empty]) ++ [rs.getD j ByteArray.empty] := by
  simp [fl, List.range_succ]
theorem fl_len (cs rs : List ByteArray) (j : Nat) : (fl cs rs j).length = 2 * j := by
  induction j with
  | zero => rfl
  | succ j ih => rw [fl_succ]; simp [ih]; omega

set_option maxRecDepth 100000 in
set_option maxHeartbeats 4000000 in
theorem ic_case {H V S O C T : Nat} {w : World} (cs rs : List ByteArray) (opv elv : Value) (op el : Option ByteArray) (Pc Pr : Nat → Nat) (h : Hid (Vis H V S O w 0 [] [])) (hn : cs.length ≤ 65536)
    (hC : C < H) (hCV : C ≠ V) (hCS : C ≠ S) (hCO : C ≠ O) (hc0 : w.cell? ⟨C, 0, none⟩ = some opv) (hc1 : w.cell? ⟨C, 1, none⟩ = some (.slice (some ⟨T, 0, none⟩) cs.length cs.length)) (hc2 : w.cell? ⟨C, 2, none⟩ = some elv)
    (hop : Opt H V S O w opv op) (hel : Opt H V S O w elv el)
    (hT : T < H) (hTV : T ≠ V) (hTS : T ≠ S) (hTO : T ≠ O)
    (ht0 : ∀ i, i < cs.length → w.cell? ⟨T, i * 2, none⟩ = some (.iface 34 (.pointer (some ⟨Pc i, 0, none⟩))))
    (ht1 : ∀ i, i < cs.length → w.cell? ⟨T, i * 2 + 1, none⟩ = some (.iface 34 (.pointer (some ⟨Pr i, 0, none⟩))))
    (hlc : ∀ i, i < cs.length → Leaf H V S O w (Pc i) (cs.getD i ByteArray.empty))
    (hlr : ∀ i, i < cs.length → Leaf H V S O w (Pr i) (rs.getD i ByteArray.empty)) :
    Calls Try.prog 14 #[.iface 46 (.pointer (some ⟨C, 0, none⟩)), .func (.func 16) #[] #[.pointer (some ⟨V, 0, none⟩), .pointer (some ⟨S, 0, none⟩), .pointer (some ⟨O, 0, none⟩)]] w fun e w' =>
      e = .returned (.tuple #[]) ∧ VisL H V S O w' (op.toList ++ fl cs rs cs.length ++ el.toList) ∧ Keep H V S O w w' := by
  have hcall := vc_root h (some ⟨C, 0, none⟩) (by omega) (by simp)
  have HCALL : Hid (Calls Try.prog 16 #[.iface 46 (.pointer (some ⟨C, 0, none⟩)), .pointer (some ⟨V, 0, none⟩), .pointer (some ⟨S, 0, none⟩), .pointer (some ⟨O, 0, none⟩)] w fun e w' =>
      e = .returned (.bool true) ∧ Vis H V S O w' 1 [] [0] ∧ Keep H V S O w w') := hcall
  have HC0 := hide hc0
  have HC1 := hide hc1
  have HC2 := hide hc2
  have HOP := hide hop
  have HEL := hide hel
  have HT0 := hide ht0
  have HT1 := hide ht1
  have HLC := hide hlc
  have HLR := hide hlr
  clear hcall h hc0 hc1 hc2 hop hel ht0 ht1 hlc hlr
  have t52 := ta_46_52
  have t56 := ta_46_56
  have t59 := ta_46_59
  have t63 := ta_46_63
  have t40 := ta_46_40
  have t66 := ta_46_66
  have t69 := ta_46_69
  have t73 := ta_46_73
  have t76 := ta_46_76
  have t79 := ta_46_79
  have t82 := ta_46_82
  have t89 := ta_46_89
  have t46 := ta_46_46
  go_enter Try.func14, Try.ntmps14
  go_wp2_with (first
    | (go_at_call 16; refine HCALL.out.mono ?_; rintro e w1 ⟨rfl, hv1, hk1⟩; have hcL := (hk1.cell (o := 0) hC hCV hCS hCO).trans HC0.out; have HV1 : Hid (VisL H V S O w1 []) := hv1; have HK1 := hide hk1; clear HCALL hv1 hk1)
    | (go_at_call 14; fail))
  refine (ic_opt HV1 opv op (HOP.out.keep HK1.out) (by simp)).mono ?_
  rintro e w2 ⟨rfl, hv2, hk2⟩
  have HV2 : Hid (VisL H V S O w2 op.toList) := by unfold Hid; simpa using hv2
  have HK2 := hide (HK1.out.trans hk2)
  have hcW := (HK2.out.cell (o := 1) hC hCV hCS hCO).trans HC1.out
  clear hv2 hk2 HV1 HK1 hcL
  have hol : op.toList.length ≤ 1 := by cases op <;> simp
  have hel1 : el.toList.length ≤ 1 := by cases el <;> simp
  go_wp2_with fail
  clear hcW
  go_loopw [264] (fun si wr => ∃ j : Nat, j ≤ cs.length ∧ si = .int .i64 (j : Int) ∧ Hid (VisL H V S O wr (op.toList ++ fl cs rs j)) ∧ Hid (Keep H V S O w wr)) (fun si _ => cs.length - (intOf si).toNat)
  case atStart => exact ⟨0, by omega, rfl, by simpa [fl] using HV2, HK2⟩
  case round =>
    obtain ⟨j, hj, rfl, hvis, hkeep⟩ := hrel
    by_cases hlt : j < cs.length
    · have hcT0 := (hkeep.out.cell (o := j * 2) hT hTV hTS hTO).trans (HT0.out j hlt)
      have hcT1 := (hkeep.out.cell (o := j * 2 + 1) hT hTV hTS hTO).trans (HT1.out j hlt)
      have hflj := fl_len cs rs j
      have hszr := hvis.out.size
      go_wp2_with (go_at_call 14; fail)
      refine (ic_leaf (hide (hvis.out.alloc _)) (Pc j) _ (((HLC.out j hlt).keep hkeep.out).keep ((Keep.refl _ _ _ _ _).alloc hszr _)) (by simp; omega)).mono ?_
      rintro e w3 ⟨rfl, hv3, hk3, hd3⟩
      have hcopy : w3.heap[wr.heap.size]? = some (.cells #[.iface 34 (.pointer (some ⟨Pc j, 0, none⟩)), .iface 34 (.pointer (some ⟨Pr j, 0, none⟩))] 51 (0, 0)) := by
        rw [hd3 wr.heap.size _ 51 (0, 0) (at_al _ _ _ rfl) (by decide) (by decide) (by have := hvis.out.ltS; omega) (by have := hvis.out.ltO; omega)]
        exact at_al _ _ _ rfl
      have hcc : w3.cell? ⟨wr.heap.size, 1, none⟩ = some (.iface 34 (.pointer (some ⟨Pr j, 0, none⟩))) := by rw [cell_of_row _ wr.heap.size 1 _ 51 (0, 0) hcopy]; rfl
      have HV3 := hide hv3
      have HK3 := hide ((hkeep.out.alloc hszr _).trans hk3)
      clear hcopy hv3 hk3 hd3
      go_wp2_with (go_at_call 14; fail)
      refine (ic_leaf HV3 (Pr j) _ ((HLR.out j hlt).keep HK3.out) (by simp; omega)).mono ?_
      rintro e w4 ⟨rfl, hv4, hk4, _⟩
      have HV4 := hide hv4
      have HK4 := hide (HK3.out.trans hk4)
      clear hv4 hk4
      go_wp2_with fail
      refine ⟨⟨j + 1, by omega, by go_num, ?_, HK4⟩, by simp [intOf]; omega⟩
      rw [fl_succ, ← List.append_assoc, ← List.append_assoc]
      exact HV4
    · have hjn : j = cs.length := by omega
      subst hjn
      have hflj := fl_len cs rs cs.length
      have hcE := (hkeep.out.cell (o := 2) hC hCV hCS hCO).trans HC2.out
      go_wp2_with (go_at_call 14; fail)
      refine (ic_opt hvis elv el (HEL.out.keep hkeep.out) (by simp; omega)).mono ?_
      rintro e w5 ⟨rfl, hv5, hk5⟩
      have HV5 := hide hv5
      have HK5 := hide (hkeep.out.trans hk5)
      clear hv5 hk5
      go_wp2_with fail
      go_end0
      exact ⟨rfl, HV5.out, HK5.out⟩
end Go.Proofs.Qxb6603603a
