import Derived.Test.Qxb6603603aZC
namespace Go.Proofs.Qxb6603603a
open Go.RowKit

set_option maxRecDepth 100000 in
set_option maxHeartbeats 4000000 in
theorem zc0 (operand elseN : ByteArray) (he : Bool) (a b : Option Addr) (ca cb : Nat) (cs rs : List ByteArray) (w : World) (hn : cs.length ≤ 65536) (hr : rs.length = cs.length)
    (hA : Sl w a cs) (hB : Sl w b rs) :
    Calls Try.prog 11 #[.string operand, .bool false, .slice a cs.length ca, .slice b rs.length cb, .string elseN, .bool he] w fun e w' => ZretC w.heap.size w (seenL none cs rs (if he then some elseN else none)) e w' := by
  have hmk := mk47 cs.length hn
  have HA := hide hA
  have HB := hide hB
  have HR := hide hr
  clear hA hB hr
  go_enter Try.func11, Try.ntmps11
  go_wp2_with fail
  go_loopw [35] (fun si wr => ∃ i : Nat, i ≤ cs.length ∧ si = .int .i64 (i : Int) ∧ Hid (CB w.heap.size (w.heap.size + 1 + 1 + 1 + 1) cs.length i cs rs .nilIface .nilIface none none w wr)) (fun si _ => cs.length - (intOf si).toNat)
  case atStart => exact ⟨0, by omega, rfl, CB.start0 _ _ _ _⟩
  case round =>
    obtain ⟨i, hi, rfl, hb⟩ := hrel
    by_cases hlt : i < cs.length
    · obtain ⟨ga, oa, rfl, hga, hca⟩ := HA.out i hlt
      obtain ⟨gb, ob, rfl, hgb, hcb⟩ := HB.out i (by have := HR.out; omega)
      have hca' : wr.cell? ⟨ga, oa + i, none⟩ = some (.string (cs.getD i ByteArray.empty)) := (hb.out.below.cell (p := ⟨ga, oa + i, none⟩) hga).trans hca
      have hcb' : wr.cell? ⟨gb, ob + i, none⟩ = some (.string (rs.getD i ByteArray.empty)) := (hb.out.below.cell (p := ⟨gb, ob + i, none⟩) hgb).trans hcb
      clear hca hcb
      have htwo := fun a b => hb.out.two hlt a b _ _ rfl rfl
      have HTWO := hide htwo
      clear htwo
      generalize cs.getD i ByteArray.empty = x at hca' HTWO
      generalize rs.getD i ByteArray.empty = y at hcb' HTWO
      have hrlt : (i : Int) < (rs.length : Int) := by have := HR.out; omega
      obtain ⟨⟨v0, hT0⟩, ⟨v1, hT1⟩, hTf⟩ := hb.out.slot hlt
      have hf0 := hTf (i * 2)
      have hf1 := hTf (i * 2 + 1)
      clear hTf
      have hcc : wr.cell? ⟨w.heap.size + 1 + 1 + 1, 1, none⟩ = some (.slice (some ⟨w.heap.size + 1 + 1 + 1 + 1, 0, none⟩) cs.length cs.length) := by rw [cell_of_row wr (w.heap.size + 1 + 1 + 1) 1 _ 49 (0, 0) hb.out.c]; rfl
      have hTlt := hb.out.hi
      have hAlt : ga < wr.heap.size := by have := hb.out.below.size; omega
      have hBlt : gb < wr.heap.size := by have := hb.out.below.size; omega
      have hClt : w.heap.size + 1 + 1 + 1 < wr.heap.size := by omega
      have hcc1 := fun X => (cell_al (X := X) hClt).trans hcc
      have hcc2 := fun X Y => (cell_al2 (X := X) (Y := Y) hClt).trans hcc
      have hca1 := fun X => (cell_al (X := X) hAlt).trans hca'
      have hcb1 := fun X => (cell_al (X := X) hBlt).trans hcb'
      have hT0' := fun X Y => (cell_al2 (X := X) (Y := Y) hTlt).trans hT0
      have hT1' := fun X Y => (cell_al2 (X := X) (Y := Y) hTlt).trans hT1
      have hf0' := fun X Y => (frozen_al2 (X := X) (Y := Y) hTlt).trans hf0
      have hf1' := fun X Y => (frozen_al2 (X := X) (Y := Y) hTlt).trans hf1
      go_wp2_with fail
      go_region
      · go_wp2_with fail
        exact ⟨⟨i + 1, by omega, by go_num, (HTWO.out _ _).1⟩, by simp [intOf]; omega⟩
      · go_wp2_with fail
        exact ⟨⟨i + 1, by omega, by go_num, (HTWO.out _ _).2⟩, by simp [intOf]; omega⟩
    · have hin : i = cs.length := by omega
      subst hin
      have hhi := hb.out.hi
      cases he
      · have hB' := hb.out
        have HCB := hide hB'
        have hcall := insp_case hB' hn
        have HCALL := hide hcall
        clear hB' hcall
        go_wp2_with (go_at_call 14; fail)
        refine HCALL.out.mono ?_
        clear HCALL
        rintro e w2 ⟨rfl, hv, hk⟩
        have hv' : Vis _ w.heap.size (w.heap.size + 1) (w.heap.size + 1 + 1) w2 (1 + (seenL none cs rs none).length) (seenL none cs rs none) [0] := hv
        have HK := hide hk
        clear hv hk
        generalize hL : seenL none cs rs none = L at hv'
        have HL := hide hL
        clear hL
        obtain ⟨sv, hS, hso⟩ := hv'.s
        obtain ⟨ov, hO, hoo⟩ := hv'.o
        obtain ⟨sa, sc, rfl⟩ := own_slice hso
        obtain ⟨oa, oc, rfl⟩ := own_slice hoo
        have c1 := cell_of_one hv'.v
        have f1 := free_of_one hv'.v
        have c2 := cell_of_one hS
        have f2 := free_of_one hS
        have c3 := cell_of_one hO
        have f3 := free_of_one hO
        have HV := hide hv'
        have HSO := hide hso
        have HOO := hide hoo
        clear hv' hS hO hso hoo
        go_wp2_with fail
        go_region
        go_wp2_with fail
        have k1 := fun x y z => (HV.out.set3 x y z).1
        have k2 := fun x y z => (HV.out.set3 x y z).2.1
        have k3 := fun x y z => (HV.out.set3 x y z).2.2
        refine bodyPost_ret (v := .tuple #[.int .i64 ((1 + L.length : Nat) : Int), .slice sa L.length sc, .slice oa 1 oc]) (by simp [results, Try.results11, go_sem, k1, k2, k3]) rfl ?_
        show ZretC w.heap.size w (seenL none cs rs none) _ _
        rw [HL.out]
        have hlt4 : w.heap.size + 4 ≤ _ := HCB.out.lo
        have hhi4 := HCB.out.hi
        have hle := Nat.le_trans (Nat.le_add_right w.heap.size 4) (Nat.le_of_lt (Nat.lt_of_le_of_lt HCB.out.lo HCB.out.hi))
        have hb2 := HCB.out.below.trans (HK.out.below (B := w.heap.size) (by omega) (by omega) (by omega) (by omega))
        exact ⟨sa, sc, oa, oc, rfl, (own_base (ownsRow_setCell_below (ownsRow_setCell_below (ownsRow_setCell_below HSO.out HV.out.ltV _) HV.out.ltS _) HV.out.ltO _) hle).drew, (own_base (ownsRow_setCell_below (ownsRow_setCell_below (ownsRow_setCell_below HOO.out HV.out.ltV _) HV.out.ltS _) HV.out.ltO _) hle).drew, (((hb2.setCell (by show _ ≤ w.heap.size; omega) _).setCell (by show _ ≤ w.heap.size + 1; omega) _).setCell (by show _ ≤ w.heap.size + 1 + 1; omega) _).drew⟩
      · have hcE : wr.cell? ⟨w.heap.size + 1 + 1 + 1, 2, none⟩ = some .nilIface := by rw [cell_of_row wr (w.heap.size + 1 + 1 + 1) 2 _ 49 (0, 0) hb.out.c]; rfl
        have hfE : wr.frozen? ⟨w.heap.size + 1 + 1 + 1, 2, none⟩ = false := frozen_of_row wr (w.heap.size + 1 + 1 + 1) 2 _ 49 hb.out.c
        have hClt : w.heap.size + 1 + 1 + 1 < wr.heap.size := by omega
        have hB' := hb.out.els (.string { data := #[] }) (.string { data := #[] }) elseN
        have HCB := hide hB'
        have hcall := insp_case hB' hn
        have HCALL := hide hcall
        clear hB' hcall
        go_wp2_with (go_at_call 14; fail)
        refine HCALL.out.mono ?_
        clear HCALL
        rintro e w2 ⟨rfl, hv, hk⟩
        have hv' : Vis _ w.heap.size (w.heap.size + 1) (w.heap.size + 1 + 1) w2 (1 + (seenL none cs rs (some elseN)).length) (seenL none cs rs (some elseN)) [0] := hv
        have HK := hide hk
        clear hv hk
        generalize hL : seenL none cs rs (some elseN) = L at hv'
        have HL := hide hL
        clear hL
        obtain ⟨sv, hS, hso⟩ := hv'.s
        obtain ⟨ov, hO, hoo⟩ := hv'.o
        obtain ⟨sa, sc, rfl⟩ := own_slice hso
        obtain ⟨oa, oc, rfl⟩ := own_slice hoo
        have c1 := cell_of_one hv'.v
        have f1 := free_of_one hv'.v
        have c2 := cell_of_one hS
        have f2 := free_of_one hS
        have c3 := cell_of_one hO
        have f3 := free_of_one hO
        have HV := hide hv'
        have HSO := hide hso
        have HOO := hide hoo
        clear hv' hS hO hso hoo
        go_wp2_with fail
        go_region
        go_wp2_with fail
        have k1 := fun x y z => (HV.out.set3 x y z).1
        have k2 := fun x y z => (HV.out.set3 x y z).2.1
        have k3 := fun x y z => (HV.out.set3 x y z).2.2
        refine bodyPost_ret (v := .tuple #[.int .i64 ((1 + L.length : Nat) : Int), .slice sa L.length sc, .slice oa 1 oc]) (by simp [results, Try.results11, go_sem, k1, k2, k3]) rfl ?_
        show ZretC w.heap.size w (seenL none cs rs (some elseN)) _ _
        rw [HL.out]
        have hlt4 : w.heap.size + 4 ≤ _ := HCB.out.lo
        have hhi4 := HCB.out.hi
        have hle := Nat.le_trans (Nat.le_add_right w.heap.size 4) (Nat.le_of_lt (Nat.lt_of_le_of_lt HCB.out.lo HCB.out.hi))
        have hb2 := HCB.out.below.trans (HK.out.below (B := w.heap.size) (by omega) (by omega) (by omega) (by omega))
        exact ⟨sa, sc, oa, oc, rfl, (own_base (ownsRow_setCell_below (ownsRow_setCell_below (ownsRow_setCell_below HSO.out HV.out.ltV _) HV.out.ltS _) HV.out.ltO _) hle).drew, (own_base (ownsRow_setCell_below (ownsRow_setCell_below (ownsRow_setCell_below HOO.out HV.out.ltV _) HV.out.ltS _) HV.out.ltO _) hle).drew, (((hb2.setCell (by show _ ≤ w.heap.size; omega) _).setCell (by show _ ≤ w.heap.size + 1; omega) _).setCell (by show _ ≤ w.heap.size + 1 + 1; omega) _).drew⟩


set_option maxRecDepth 100000 in
set_option maxHeartbeats 4000000 in
theorem zc1 (operand elseN : ByteArray) (he : Bool) (a b : Option Addr) (ca cb : Nat) (cs rs : List ByteArray) (w : World) (hn : cs.length ≤ 65536) (hr : rs.length = cs.length)
    (hA : Sl w a cs) (hB : Sl w b rs) :
    Calls Try.prog 11 #[.string operand, .bool true, .slice a cs.length ca, .slice b rs.length cb, .string elseN, .bool he] w fun e w' => ZretC w.heap.size w (seenL (some operand) cs rs (if he then some elseN else none)) e w' := by
  have hmk := mk47 cs.length hn
  have HA := hide hA
  have HB := hide hB
  have HR := hide hr
  clear hA hB hr
  go_enter Try.func11, Try.ntmps11
  go_wp2_with fail
  go_loopw [35] (fun si wr => ∃ i : Nat, i ≤ cs.length ∧ si = .int .i64 (i : Int) ∧ Hid (CB w.heap.size (w.heap.size + 1 + 1 + 1 + 1 + 1) cs.length i cs rs (.iface 34 (.pointer (some ⟨w.heap.size + 1 + 1 + 1 + 1, 0, none⟩))) .nilIface (some operand) none w wr)) (fun si _ => cs.length - (intOf si).toNat)
  case atStart => exact ⟨0, by omega, rfl, CB.start1 _ _ _ _ _ _ _⟩
  case round =>
    obtain ⟨i, hi, rfl, hb⟩ := hrel
    by_cases hlt : i < cs.length
    · obtain ⟨ga, oa, rfl, hga, hca⟩ := HA.out i hlt
      obtain ⟨gb, ob, rfl, hgb, hcb⟩ := HB.out i (by have := HR.out; omega)
      have hca' : wr.cell? ⟨ga, oa + i, none⟩ = some (.string (cs.getD i ByteArray.empty)) := (hb.out.below.cell (p := ⟨ga, oa + i, none⟩) hga).trans hca
      have hcb' : wr.cell? ⟨gb, ob + i, none⟩ = some (.string (rs.getD i ByteArray.empty)) := (hb.out.below.cell (p := ⟨gb, ob + i, none⟩) hgb).trans hcb
      clear hca hcb
      have htwo := fun a b => hb.out.two' hlt a b _ _ rfl rfl
      have HTWO := hide htwo
      clear htwo
      generalize cs.getD i ByteArray.empty = x at hca' HTWO
      generalize rs.getD i ByteArray.empty = y at hcb' HTWO
      have hrlt : (i : Int) < (rs.length : Int) := by have := HR.out; omega
      obtain ⟨⟨v0, hT0⟩, ⟨v1, hT1⟩, hTf⟩ := hb.out.slot hlt
      have hf0 := hTf (i * 2)
      have hf1 := hTf (i * 2 + 1)
      clear hTf
      have hcc : wr.cell? ⟨w.heap.size + 1 + 1 + 1, 1, none⟩ = some (.slice (some ⟨w.heap.size + 1 + 1 + 1 + 1 + 1, 0, none⟩) cs.length cs.length) := by rw [cell_of_row wr (w.heap.size + 1 + 1 + 1) 1 _ 49 (0, 0) hb.out.c]; rfl
      have hTlt := hb.out.hi
      have hAlt : ga < wr.heap.size := by have := hb.out.below.size; omega
      have hBlt : gb < wr.heap.size := by have := hb.out.below.size; omega
      have hClt : w.heap.size + 1 + 1 + 1 < wr.heap.size := by omega
      have hcc1 := fun X => (cell_al (X := X) hClt).trans hcc
      have hcc2 := fun X Y => (cell_al2 (X := X) (Y := Y) hClt).trans hcc
      have hca1 := fun X => (cell_al (X := X) hAlt).trans hca'
      have hcb1 := fun X => (cell_al (X := X) hBlt).trans hcb'
      have hT0' := fun X Y => (cell_al2 (X := X) (Y := Y) hTlt).trans hT0
      have hT1' := fun X Y => (cell_al2 (X := X) (Y := Y) hTlt).trans hT1
      have hf0' := fun X Y => (frozen_al2 (X := X) (Y := Y) hTlt).trans hf0
      have hf1' := fun X Y => (frozen_al2 (X := X) (Y := Y) hTlt).trans hf1
      go_wp2_with fail
      go_region
      · go_wp2_with fail
        exact ⟨⟨i + 1, by omega, by go_num, (HTWO.out _ _).1⟩, by simp [intOf]; omega⟩
      · go_wp2_with fail
        exact ⟨⟨i + 1, by omega, by go_num, (HTWO.out _ _).2⟩, by simp [intOf]; omega⟩
    · have hin : i = cs.length := by omega
      subst hin
      have hhi := hb.out.hi
      cases he
      · have hB' := hb.out
        have HCB := hide hB'
        have hcall := insp_case hB' hn
        have HCALL := hide hcall
        clear hB' hcall
        go_wp2_with (go_at_call 14; fail)
        refine HCALL.out.mono ?_
        clear HCALL
        rintro e w2 ⟨rfl, hv, hk⟩
        have hv' : Vis _ w.heap.size (w.heap.size + 1) (w.heap.size + 1 + 1) w2 (1 + (seenL (some operand) cs rs none).length) (seenL (some operand) cs rs none) [0] := hv
        have HK := hide hk
        clear hv hk
        generalize hL : seenL (some operand) cs rs none = L at hv'
        have HL := hide hL
        clear hL
        obtain ⟨sv, hS, hso⟩ := hv'.s
        obtain ⟨ov, hO, hoo⟩ := hv'.o
        obtain ⟨sa, sc, rfl⟩ := own_slice hso
        obtain ⟨oa, oc, rfl⟩ := own_slice hoo
        have c1 := cell_of_one hv'.v
        have f1 := free_of_one hv'.v
        have c2 := cell_of_one hS
        have f2 := free_of_one hS
        have c3 := cell_of_one hO
        have f3 := free_of_one hO
        have HV := hide hv'
        have HSO := hide hso
        have HOO := hide hoo
        clear hv' hS hO hso hoo
        go_wp2_with fail
        go_region
        go_wp2_with fail
        have k1 := fun x y z => (HV.out.set3 x y z).1
        have k2 := fun x y z => (HV.out.set3 x y z).2.1
        have k3 := fun x y z => (HV.out.set3 x y z).2.2
        refine bodyPost_ret (v := .tuple #[.int .i64 ((1 + L.length : Nat) : Int), .slice sa L.length sc, .slice oa 1 oc]) (by simp [results, Try.results11, go_sem, k1, k2, k3]) rfl ?_
        show ZretC w.heap.size w (seenL (some operand) cs rs none) _ _
        rw [HL.out]
        have hlt4 : w.heap.size + 4 ≤ _ := HCB.out.lo
        have hhi4 := HCB.out.hi
        have hle := Nat.le_trans (Nat.le_add_right w.heap.size 4) (Nat.le_of_lt (Nat.lt_of_le_of_lt HCB.out.lo HCB.out.hi))
        have hb2 := HCB.out.below.trans (HK.out.below (B := w.heap.size) (by omega) (by omega) (by omega) (by omega))
        exact ⟨sa, sc, oa, oc, rfl, (own_base (ownsRow_setCell_below (ownsRow_setCell_below (ownsRow_setCell_below HSO.out HV.out.ltV _) HV.out.ltS _) HV.out.ltO _) hle).drew, (own_base (ownsRow_setCell_below (ownsRow_setCell_below (ownsRow_setCell_below HOO.out HV.out.ltV _) HV.out.ltS _) HV.out.ltO _) hle).drew, (((hb2.setCell (by show _ ≤ w.heap.size; omega) _).setCell (by show _ ≤ w.heap.size + 1; omega) _).setCell (by show _ ≤ w.heap.size + 1 + 1; omega) _).drew⟩
      · have hcE : wr.cell? ⟨w.heap.size + 1 + 1 + 1, 2, none⟩ = some .nilIface := by rw [cell_of_row wr (w.heap.size + 1 + 1 + 1) 2 _ 49 (0, 0) hb.out.c]; rfl
        have hfE : wr.frozen? ⟨w.heap.size + 1 + 1 + 1, 2, none⟩ = false := frozen_of_row wr (w.heap.size + 1 + 1 + 1) 2 _ 49 hb.out.c
        have hClt : w.heap.size + 1 + 1 + 1 < wr.heap.size := by omega
        have hB' := hb.out.els (.string { data := #[] }) (.string { data := #[] }) elseN
        have HCB := hide hB'
        have hcall := insp_case hB' hn
        have HCALL := hide hcall
        clear hB' hcall
        go_wp2_with (go_at_call 14; fail)
        refine HCALL.out.mono ?_
        clear HCALL
        rintro e w2 ⟨rfl, hv, hk⟩
        have hv' : Vis _ w.heap.size (w.heap.size + 1) (w.heap.size + 1 + 1) w2 (1 + (seenL (some operand) cs rs (some elseN)).length) (seenL (some operand) cs rs (some elseN)) [0] := hv
        have HK := hide hk
        clear hv hk
        generalize hL : seenL (some operand) cs rs (some elseN) = L at hv'
        have HL := hide hL
        clear hL
        obtain ⟨sv, hS, hso⟩ := hv'.s
        obtain ⟨ov, hO, hoo⟩ := hv'.o
        obtain ⟨sa, sc, rfl⟩ := own_slice hso
        obtain ⟨oa, oc, rfl⟩ := own_slice hoo
        have c1 := cell_of_one hv'.v
        have f1 := free_of_one hv'.v
        have c2 := cell_of_one hS
        have f2 := free_of_one hS
        have c3 := cell_of_one hO
        have f3 := free_of_one hO
        have HV := hide hv'
        have HSO := hide hso
        have HOO := hide hoo
        clear hv' hS hO hso hoo
        go_wp2_with fail
        go_region
        go_wp2_with fail
        have k1 := fun x y z => (HV.out.set3 x y z).1
        have k2 := fun x y z => (HV.out.set3 x y z).2.1
        have k3 := fun x y z => (HV.out.set3 x y z).2.2
        refine bodyPost_ret (v := .tuple #[.int .i64 ((1 + L.length : Nat) : Int), .slice sa L.length sc, .slice oa 1 oc]) (by simp [results, Try.results11, go_sem, k1, k2, k3]) rfl ?_
        show ZretC w.heap.size w (seenL (some operand) cs rs (some elseN)) _ _
        rw [HL.out]
        have hlt4 : w.heap.size + 4 ≤ _ := HCB.out.lo
        have hhi4 := HCB.out.hi
        have hle := Nat.le_trans (Nat.le_add_right w.heap.size 4) (Nat.le_of_lt (Nat.lt_of_le_of_lt HCB.out.lo HCB.out.hi))
        have hb2 := HCB.out.below.trans (HK.out.below (B := w.heap.size) (by omega) (by omega) (by omega) (by omega))
        exact ⟨sa, sc, oa, oc, rfl, (own_base (ownsRow_setCell_below (ownsRow_setCell_below (ownsRow_setCell_below HSO.out HV.out.ltV _) HV.out.ltS _) HV.out.ltO _) hle).drew, (own_base (ownsRow_setCell_below (ownsRow_setCell_below (ownsRow_setCell_below HOO.out HV.out.ltV _) HV.out.ltS _) HV.out.ltO _) hle).drew, (((hb2.setCell (by show _ ≤ w.heap.size; omega) _).setCell (by show _ ≤ w.heap.size + 1; omega) _).setCell (by show _ ≤ w.heap.size + 1 + 1; omega) _).drew⟩


end Go.Proofs.Qxb6603603a
