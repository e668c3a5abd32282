import Derived.Test.Qxb6603801aIn
import Derived.Test.Qxb6603801aR10
import Derived.Test.Qxb6603801aR12
import Derived.Test.Qxb6603801aR32
import Derived.Test.Qxb6603801aR33
import Derived.Deep.DeepCutAuto
import Derived.Deep.LoopGhost
namespace Go.Proofs.Qxb6603801a
open Go.RowKit Go.Maps

set_option maxRecDepth 100000 in
set_option maxHeartbeats 40000000 in
theorem group_any {lb pb H : Nat} {w : World} {n parts m : Nat} {key : Nat → Key} {ln : Nat → Nat} {ca na sa pa fa ua : Option Addr} {cc nc sc pc fl fc uc : Nat} (hH : w.heap.size = H)
    (hl : Hid (Lay lb pb H w n parts m key ln (fpU key ln) ca na sa pa fa ua cc nc sc pc fl fc uc)) (hpl : Hid (Pl pb w (.slice none 0 0) 0 (.slice none 0 0))) (hn : n ≤ 4096) (hp : parts ≤ 65536) (hkw : Hid (∀ u, u < n → kwf (key u)))
    (hnd : Hid (∀ u, u < n → ∃ i : Nat, (key u).2.2 = (i : Int) ∧ i < m)) (hln : Hid (∀ i, i < m → ln i ≤ 1048576)) (hparts : Hid (parts = fpU key ln n)) :
    Calls Try.prog 21 #[.pointer (some ⟨pb, 0, none⟩), .pointer (some ⟨lb, 0, none⟩)] w fun e w' => e = .returned (.tuple #[]) ∧ ∃ F, St2 pb H n parts key ln w (fs key n).length 0 F w' := by
  have hmm := @run_makeMap Try.prog
  obtain ⟨i0, hi, hz0, hz1, hz2⟩ := info_parts Try.info3
  have hlb := hl.out.lbH
  have hpb := hpl.out.lt
  have hc0' : (w.alloc (.map #[] 0)).cell? ⟨lb, 4, none⟩ = some (.slice ca n cc) := (Kp.refl.alloc (pb := pb) (by omega) _).cell hlb hl.out.lbp hl.out.cpus
  have hc1' : (w.alloc (.map #[] 0)).cell? ⟨lb, 7, none⟩ = some (.slice pa parts pc) := (Kp.refl.alloc (pb := pb) (by omega) _).cell hlb hl.out.lbp hl.out.prts
  have hbytes : i0.bytes * (n + parts) ≤ 281474976710656 := by rw [hz2]; omega
  go_enter Try.func21, Try.ntmps21
  go_wp2_with (go_at_call 22; fail)
  refine (members_any hc0' hc1' hn hp).mono ?_
  rintro e w1 ⟨rfl, k1, rfl⟩
  go_wp2_with (at_make; refine wpList_make_full _ rfl _ _ 22 rfl (H + 1) 3 i0 (.int .i64 0) 1 Try.underlying22 hi hz0 hz1 .i64 .i64 _ _ (n + parts) rfl rfl (by omega) (by omega) hbytes (by unfold maxLen; omega) (by simp; omega) ?_)
  intro w2 hown2 hgrow2
  obtain ⟨⟨F0, hM0, hF0⟩, hMp0⟩ := Mid.start (w := w) (wr := w2) (N := n + parts) hpl.out hpb hH (w1 := (w.alloc (.map #[] 0)).drewN k1) rfl rfl rfl rfl hgrow2 (by rw [Nat.mul_one]; exact hown2) key
  have HS0 : Hid (St1 pb H n parts key w 0 F0 _) := ⟨hM0, hMp0⟩
  have hfz : w2.frozen? ⟨pb, 3, none⟩ = false := by
    have := (((hpl.out.alloc (.map #[] 0)).grown (w' := w2) (row := none) (by exact ⟨hgrow2.os, hgrow2.tape, hgrow2.output, hgrow2.size, hgrow2.block⟩) (by simp))).free 3
    exact this
  have hcs : ∃ c, w2.cell? ⟨pb, 3, none⟩ = some c := by
    have := (((hpl.out.alloc (.map #[] 0)).grown (w' := w2) (row := none) (by exact ⟨hgrow2.os, hgrow2.tape, hgrow2.output, hgrow2.size, hgrow2.block⟩) (by simp))).cell3
    exact ⟨_, this⟩
  obtain ⟨c3, hcs⟩ := hcs
  have hlay2 : Lay lb pb H (w2.setCell ⟨pb, 3, none⟩ _) n parts m key ln (fpU key ln) ca na sa pa fa ua cc nc sc pc fl fc uc := hl.out.move HS0.out.1.kp
  have hcp2 := hlay2.cpus
  clear hM0 hMp0 hF0 hown2 hlay2 hc0' hc1' hbytes
  go_wp2_with fail
  generalize (w2.setCell ⟨pb, 3, none⟩ _) = w3 at *
  clear hfz hcs hcp2 hgrow2
  go_loopg [30] n (fun k v wr => ∃ (u : Nat) (F : Ix → Slot), v = .int .i64 (u : Int) ∧ u + k = n ∧ St1 pb H n parts key w u F wr)
  case atStart => exact ⟨0, F0, rfl, by omega, HS0.out⟩
  case round =>
    obtain ⟨u, F, rfl, hun, hS⟩ := hrel
    have HS : Hid (St1 pb H n parts key w u F wr) := hS
    clear hS
    by_cases hu : u < n
    · have huz : (u : Int) < (n : Int) := by omega
      have hlr : Lay lb pb H wr n parts m key ln (fpU key ln) ca na sa pa fa ua cc nc sc pc fl fc uc := hl.out.move HS.out.1.kp
      obtain ⟨nb, no, rfl, hnb, hnp, cN⟩ := hlr.nodeAt u hu
      obtain ⟨ub, uo, rfl, hub, hup, cU0, cU1⟩ := hlr.unitAt u hu
      have cLN := hlr.nodes
      have cLU := hlr.units
      have hszr := HS.out.1.sz
      have al : ∀ (X : Obj) (a : Addr) (v : Value), a.block < H → wr.cell? a = some v → (wr.alloc X).cell? a = some v := fun X a v h1 h2 => by
        rw [World.cell?_of_block (w := wr) (Below.heap_alloc _ _ _ (by omega))]; exact h2
      have cN' := fun X => al X _ _ hnb cN
      have cU0' := fun X => al X _ _ hub cU0
      have cU1' := fun X => al X _ _ hub cU1
      have cLN' := fun X => al X _ _ hlb cLN
      have cLU' := fun X => al X _ _ hlb cLU
      generalize hk0 : (key u).1 = a0 at *
      generalize hk1 : (key u).2.1 = a1 at *
      generalize hk2 : (key u).2.2 = a2 at *
      have HK : Hid (key u = (a0, a1, a2)) := by rw [← hk0, ← hk1, ← hk2]; rfl
      clear hk0 hk1 hk2 hlr al
      go_wp2_with fail
      obtain ⟨D, hD, hown⟩ := HS.out.2
      have HD : Hid (MapIs key u D) := hD
      have HOWN : Hid (((wr.alloc (.cells #[.int .i64 a0, .int .i64 a1, .int .i64 a2] 63)).drew).ownsMap Try.prog 63 (plainElem Try.prog 3) H u D) := (hown.alloc _).drew
      have HKW : Hid (kwf (a0, a1, a2)) := by have := hkw.out u hu; rw [HK.out] at this; exact this
      clear hD hown
      go_region
      go_wp2_with (at_lookup; refine wpList_lookup_own_ok_int _ rfl _ _ 60 rfl 63 3 .i64 law63 Try.underlying60 Try.underlying3 (zero3 _) H u D rfl HOWN.out _ (klit (a0, a1, a2)) rfl (keyOf63 (k := (a0, a1, a2)) HKW.out) ?_)
      intro c hat hwc
      have HSk : Hid (St1 pb H n parts key w u F ((wr.alloc (.cells #[.int .i64 a0, .int .i64 a1, .int .i64 a2] 63)).drew)) := ⟨(HS.out.1.alloc _).drew, HS.out.2.move (Below.heap_alloc _ _ _ (by omega))⟩
      have s0 : ((wr.alloc (.cells #[.int .i64 a0, .int .i64 a1, .int .i64 a2] 63)).drew).cell? ⟨wr.heap.size, 0, none⟩ = some (.int .i64 a0) := cells_new wr #[.int .i64 a0, .int .i64 a1, .int .i64 a2] 63 0 _ rfl
      have s1 : ((wr.alloc (.cells #[.int .i64 a0, .int .i64 a1, .int .i64 a2] 63)).drew).cell? ⟨wr.heap.size, 1, none⟩ = some (.int .i64 a1) := cells_new wr #[.int .i64 a0, .int .i64 a1, .int .i64 a2] 63 1 _ rfl
      have s2 : ((wr.alloc (.cells #[.int .i64 a0, .int .i64 a1, .int .i64 a2] 63)).drew).cell? ⟨wr.heap.size, 2, none⟩ = some (.int .i64 a2) := cells_new wr #[.int .i64 a0, .int .i64 a1, .int .i64 a2] 63 2 _ rfl
      have hlt : wr.heap.size < ((wr.alloc (.cells #[.int .i64 a0, .int .i64 a1, .int .i64 a2] 63)).drew).heap.size := by show _ < (wr.alloc _).heap.size; simp
      clear cN' cU0' cU1' cLN' cLU' cN cU0 cU1 cLN cLU HS
      generalize ((wr.alloc (.cells #[.int .i64 a0, .int .i64 a1, .int .i64 a2] 63)).drew) = wk at *
      generalize wr.heap.size = sb at *
      go_upto_if 55 with fail
      go_cut [5, 7, 8, 30] (fun s5 s7 s8 s30 wx => s5 = .int .i64 (u : Int) ∧ s7 = .int .i64 (gi key u : Int) ∧ s30 = .int .i64 (u : Int) ∧ ∃ F', St1m pb H n parts key w u F' wx)
      case first =>
        by_cases hk : key u ∈ kls key u
        · have hhas : Maps.has D (klit (a0, a1, a2)) = true := by rw [(HD.out.2 _ HKW.out).1, ← HK.out]; simpa using hk
          have hc : c = (gi key u : Int) := by
            have h1 := (HD.out.2 _ HKW.out).2 (by rw [← HK.out]; exact hk)
            rw [hat, ← HK.out] at h1
            have h2 : c = ((kls key u).idxOf (key u) : Nat) := by simpa using h1
            rw [h2]
            have := idx_prefix (kls_prefix (key := key) (Nat.le_succ u)) hk
            show _ = (((kls key (u + 1)).idxOf (key u) : Nat) : Int)
            rw [this]
          subst hc
          have HT : Hid (St1m pb H n parts key w u F wk) := by
            obtain ⟨D', hD', hown'⟩ := HSk.out.2
            refine ⟨HSk.out.1.congr (by rw [fs_old hk]) (fun g _ => by unfold kAt kls; rw [fs_old hk]) (fun _ => rfl) (fun _ => rfl) (fun _ _ => rfl), D', mapIs_old hD' hk, hown'.mono (by omega)⟩
          rw [hhas]
          clear hat hwc hhas
          go_wp2_with fail
          go_meet
          case rel => exact ⟨rfl, rfl, rfl, F, HT.out⟩
        · have hhas : Maps.has D (klit (a0, a1, a2)) = false := by rw [(HD.out.2 _ HKW.out).1, ← HK.out]; simpa using hk
          obtain ⟨ga, gc, hgv⟩ := own_val HSk.out.1.gw.ownGrps
          have HGV := hide hgv
          have p0 : wk.cell? ⟨pb, 0, none⟩ = some (.slice ga (fs key u).length gc) := by rw [← hgv]; exact HSk.out.1.pl.cell0
          have HLEN : (fs key u).length ≤ 4096 := Nat.le_trans (fs_len u) (by omega)
          have HPB := HSk.out.1.pbH
          obtain ⟨i9, hi9, hy0, hy1, hy2⟩ := info_parts Try.info59
          rw [hhas]
          clear hat hwc hhas hgv
          go_wp2_with (at_mapUpdate; refine wpList_mapUpdate_own _ rfl _ _ _ 60 rfl 63 3 law63 Try.underlying60 _ H u D rfl HOWN.out (by unfold maxLen; omega) _ _ (klit (a0, a1, a2)) rfl rfl (keyOf63 (k := (a0, a1, a2)) HKW.out) _ [] (plainElem_int Try.underlying3 (WalkArith.wf_i64 (by omega))) ?_)
          intro w5 hown5 hgrow5
          have HM5 : Hid (Mid pb H (n + parts) w (fs key u).length (kAt key u) (mems key u) (fun _ => []) (fun m => if m < u then (gi key m : Int) else 0) 0 F w5) := HSk.out.1.mapped hgrow5
          have HP5 : Hid (Mp key H (u + 1) w5) := by
            have h1 := mapIs_new HD.out (hkw.out u hu) hk
            rw [HK.out] at h1
            exact ⟨_, h1, hown5⟩
          have t0 := hgrow5.cell s0 (by show some sb ≠ some H; simp; omega)
          have t1 := hgrow5.cell s1 (by show some sb ≠ some H; simp; omega)
          have t2 := hgrow5.cell s2 (by show some sb ≠ some H; simp; omega)
          have hlt5 : sb < w5.heap.size := Nat.lt_of_lt_of_le hlt hgrow5.size
          have t0' : ∀ X, (w5.alloc X).cell? ⟨sb, 0, none⟩ = some (.int .i64 a0) := fun X => by rw [World.cell?_of_block (w := w5) (Below.heap_alloc _ _ _ hlt5)]; exact t0
          have t1' : ∀ X, (w5.alloc X).cell? ⟨sb, 1, none⟩ = some (.int .i64 a1) := fun X => by rw [World.cell?_of_block (w := w5) (Below.heap_alloc _ _ _ hlt5)]; exact t1
          have t2' : ∀ X, (w5.alloc X).cell? ⟨sb, 2, none⟩ = some (.int .i64 a2) := fun X => by rw [World.cell?_of_block (w := w5) (Below.heap_alloc _ _ _ hlt5)]; exact t2
          have p5 : w5.cell? ⟨pb, 0, none⟩ = some (.slice ga (fs key u).length gc) := by rw [← HGV.out]; exact HM5.out.pl.cell0
          have p5' : ∀ X, (w5.alloc X).cell? ⟨pb, 0, none⟩ = some (.slice ga (fs key u).length gc) := fun X => by rw [← HGV.out]; exact (HM5.out.alloc X).pl.cell0
          have HO5 : Hid (w5.ownsRow (H + 1) 59 8 (.slice ga (fs key u).length gc) (fs key u).length (F .grps).xs) := by
            have := HM5.out.gw.ownGrps
            rw [HGV.out] at this
            exact this
          have hsz5 := HM5.out.sz
          have HBL : Hid ((fs key u).length + 1 ≤ maxLen ∧ ((fs key u).length + 1) * 112 ≤ 140737488355328) := ⟨by unfold maxLen; omega, by omega⟩
          clear hown5 hgrow5 p0 s0 s1 s2 HOWN
          go_upto_region 10 with fail
          refine wp_normal (t10 (ga := ga) p5 (HM5.out.pl.free 0) hlt5 HPB hsz5 (by omega) t0 t1 t2 HO5 ?_) (fun _ _ h => h)
          intro z64 z65 z66 z67 z68 z69 z70 z71 z72 z73 z74 z75 z76 z77 g6 cap6 w6 hown6 hgrow6 hloc6
          have HOW6 := hide hown6
          have HGR6 := hide hgrow6
          have HLO6 := hide hloc6
          clear hown6 hgrow6 hloc6 t0 t1 t2 t0' t1' t2' p5 p5'
          go_wp2_with fail
          go_meet
          case rel =>
            refine ⟨rfl, by rw [gi_new hk], rfl, ?_⟩
            refine newGroup hk ((HM5.out.alloc _).drew) (HP5.out.move (Below.heap_alloc _ _ _ (by omega))) (by rw [HGV.out]; exact HGR6.out) (by rw [HK.out]; exact HOW6.out) ?_
            rw [HGV.out]
            exact HLO6.out
      case rest =>
        obtain ⟨rfl, rfl, rfl, Ft, hT⟩ := hcut
        have HT : Hid (St1m pb H n parts key w u Ft wc) := hT
        clear hT
        have HCNT : gi key u < (fs key (u + 1)).length := gi_lt (by omega)
        have HLEN : (mems key u (gi key u)).length ≤ 4096 := Nat.le_trans (mems_len u _) (by omega)
        obtain ⟨rb, rc, hrv, hrb, hrlt, hrc, hrf⟩ := HT.out.1.grpRow (by omega)
        have p3 : wc.cell? ⟨pb, 3, none⟩ = some (.slice (some ⟨rb, 0, none⟩) (n + parts) rc) := by rw [← hrv]; exact HT.out.1.pl.cell3
        have c_u := hrc u (by omega)
        have f_u := hrf u
        obtain ⟨⟨F2, hM2, hF2⟩, hH2⟩ := HT.out.1.setGrp hrv (m := u) (by omega) (gi key u : Int)
        have HT2 : Hid (Mid pb H (n + parts) w (fs key (u + 1)).length (kAt key (u + 1)) (mems key u) (fun _ => []) (updN (fun m => if m < u then (gi key m : Int) else 0) u (gi key u : Int)) 0 F2 (wc.setCell ⟨rb, u, none⟩ (.int .i64 (gi key u : Int))) ∧ Mp key H (u + 1) (wc.setCell ⟨rb, u, none⟩ (.int .i64 (gi key u : Int)))) := ⟨hM2, HT.out.2.move hH2⟩
        clear hrv hrc hrf hM2 hF2 hH2
        go_wp2_with fail
        clear p3 c_u f_u
        generalize (wc.setCell ⟨rb, u, none⟩ (.int .i64 (gi key u : Int))) = w2 at *
        obtain ⟨gb, gc, hgv, hgb, hglt, hgc, hgf⟩ := HT2.out.1.row (by omega)
        have hown2 : w2.ownsRow (H + 1) 3 1 (F2 (.mem (gi key u))).v (mems key u (gi key u)).length (intsV (mems key u (gi key u))) := HT2.out.1.gw.ownMem (gi key u)
        have HGV : Hid ((F2 .grps).v = .slice (some ⟨gb, 0, none⟩) (fs key (u + 1)).length gc) := hgv
        have p0 : w2.cell? ⟨pb, 0, none⟩ = some (.slice (some ⟨gb, 0, none⟩) (fs key (u + 1)).length gc) := by rw [← hgv]; exact HT2.out.1.pl.cell0
        have p0' : ∀ X, (w2.alloc X).cell? ⟨pb, 0, none⟩ = some (.slice (some ⟨gb, 0, none⟩) (fs key (u + 1)).length gc) := fun X => by rw [← hgv]; exact (HT2.out.1.alloc X).pl.cell0
        have cm : w2.cell? ⟨gb, gi key u * 8 + 3, none⟩ = some (F2 (.mem (gi key u))).v := hgc _ HCNT 3 (by omega)
        have cm' : ∀ X, (w2.alloc X).cell? ⟨gb, gi key u * 8 + 3, none⟩ = some (F2 (.mem (gi key u))).v := fun X => by rw [World.cell?_of_block (w := w2) (Below.heap_alloc _ _ _ hglt)]; exact cm
        obtain ⟨ma, mc, hmv⟩ := own_val hown2
        have HMV : Hid ((F2 (.mem (gi key u))).v = .slice ma (mems key u (gi key u)).length mc) := hmv
        rw [hmv] at cm cm' hown2
        have HOWN2 := hide hown2
        have hsz2 := HT2.out.1.sz
        have hpbH := HT2.out.1.pbH
        have HNE : Hid ((F2 (.mem (gi key u))).v.ownBlock ≠ some gb) := fun e => by
          have := HT2.out.1.gw.fam.sep (.mem (gi key u)) .grps gb e (by rw [hgv]; rfl)
          cases this
        have cmf : ∀ X, (w2.alloc X).frozen? ⟨gb, gi key u * 8 + 3, none⟩ = false := fun X => by rw [World.frozen?_of_block (w := w2) (Below.heap_alloc _ _ _ hglt)]; exact hgf _
        have HFZ := hide hgf
        clear hgv hmv hgc hgf hown2
        have HBL : Hid ((mems key u (gi key u)).length + 1 ≤ maxLen ∧ ((mems key u (gi key u)).length + 1) * 8 ≤ 140737488355328) := ⟨by unfold maxLen; omega, by omega⟩
        go_upto_region 12 with fail
        refine wp_normal (t12 (g := gi key u) (T := (fs key (u + 1)).length) p0 hglt hpbH hsz2 (by omega) cm HFZ HOWN2 (by rw [← HMV.out]; exact HNE) (by omega) ?_) (fun _ _ h => h)
        intro z85 z86 z87 z88 z89 z90 z91 z92 z93 z94 z95 z96 z97 z98 z99 z100 z101 z102 g3 cap3 w3 hown3 hgrow3 hloc3
        have HOW3 := hide hown3
        have HGR3 := hide hgrow3
        have HLO3 := hide hloc3
        clear hown3 hgrow3 hloc3 p0 p0' cm cm' cmf
        go_wp2_with fail
        go_roundg (n - (u + 1))
        case measure => omega
        case rel =>
          obtain ⟨F', hF'⟩ := endRound1 ((HT2.out.1.alloc _).drew) (HT2.out.2.move (Below.heap_alloc _ _ _ (by omega))) (by rw [HMV.out]; exact HGR3.out) HOW3.out (by rw [HMV.out]; exact HLO3.out) HGV.out
          exact ⟨u + 1, F', by simp, by omega, hF'⟩
    · obtain rfl : u = n := by omega
      obtain ⟨ga, gc, hgv⟩ := own_val HS.out.1.gw.ownGrps
      have p0 : wr.cell? ⟨pb, 0, none⟩ = some (.slice ga (fs key u).length gc) := by rw [← hgv]; exact HS.out.1.pl.cell0
      have p1 := HS.out.1.pl.cell1
      have p1f := HS.out.1.pl.free 1
      have HM := hide (HS.out.1.setOfc ((fs key u).length : Int))
      have h1 := HM.out.pl.cell1
      have HLEN : (fs key u).length ≤ 4096 := Nat.le_trans (fs_len u) hn
      have huz : ¬ ((u : Int) < (u : Int)) := by omega
      clear hgv
      go_wp2_with fail
      have HS2 : Hid (St2 pb H u parts key ln w 0 0 F _) := St2.start HM.out
      clear p0 p1 p1f h1 HM
      generalize (wr.setCell ⟨pb, 1, none⟩ (.int .i64 ((fs key u).length : Int))) = w4 at *
      go_loopg [116] (fs key u).length (fun kk v wx => ∃ (g : Nat) (F : Ix → Slot), v = .int .i64 (g : Int) ∧ g + kk = (fs key u).length ∧ St2 pb H u parts key ln w g 0 F wx)
      case atStart => exact ⟨0, F, rfl, by omega, HS2.out⟩
      case round =>
        obtain ⟨g, F2, rfl, hgk, hS⟩ := hrel
        have HS3 : Hid (St2 pb H u parts key ln w g 0 F2 wr) := hS
        clear hS HS2 HS
        by_cases hg : g < (fs key u).length
        · obtain ⟨K, M, Pt, gr, hP, hM⟩ := HS3.out
          have HP := hide hP
          have HM := hide hM
          clear hP hM
          have hgz : (g : Int) < ((fs key u).length : Int) := by omega
          have hbg := bG_ge (key := key) (ln := ln) (n := u) g
          obtain ⟨gb, gc, hgv, hgb, hglt, hgc, hgf⟩ := HM.out.row (by omega)
          have p0 : wr.cell? ⟨pb, 0, none⟩ = some (.slice (some ⟨gb, 0, none⟩) (bG key ln u g + 0) gc) := by rw [← hgv]; exact HM.out.pl.cell0
          have c3 := hgc g (by omega) 3 (by omega)
          have c2 := hgc g (by omega) 2 (by omega)
          simp only [gcell] at c3 c2
          have HO := HM.out.gw.ownMem g
          rw [HP.out.M1 g hg] at HO
          obtain ⟨ma, mc, hmv⟩ := own_val HO
          have HMV := hide hmv
          rw [hmv] at c3
          have hx : (fs key u)[g] < u := fs_lt (List.getElem_mem hg)
          obtain ⟨i, hi1, him⟩ := hnd.out _ hx
          have hKg : (K g).2.2 = (i : Int) := by
            rw [HP.out.K1 g hg, ← hi1]
            have := kAt_gi (key := key) hx
            rw [gi_first hg] at this
            rw [this]
          rw [hKg] at c2
          have hlr : Lay lb pb H wr u parts m key ln (fpU key ln) ca na sa pa fa ua cc nc sc pc fl fc uc := hl.out.move HM.out.kp
          obtain ⟨xb, xo, xa, xc, rfl, hxb, hxp, cS⟩ := hlr.setAt i him
          have cLS := hlr.sets
          have himz : (i : Int) < (m : Int) := by omega
          have HI : Hid (sG key ln u g = szOf ln i) := by
            unfold sG
            rw [← HP.out.K1 g hg, hKg]
            rfl
          have hLN := hln.out i him
          have HL : Hid (szOf ln i = if ln i < 2 then 0 else ln i) := rfl
          have hbz : (g : Int) < ((bG key ln u g + 0 : Nat) : Int) := by omega
          clear hgv hgc hgf hmv hi1 hKg hlr
          generalize ln i = L at *
          go_wp2_with fail
          go_quiet (fail)
          go_wp2_with fail
          · go_roundg ((fs key u).length - (g + 1))
            case measure => omega
            case rel =>
              refine ⟨g + 1, F2, by simp, by omega, (HS3.out.drewN _).skip ?_⟩
              rw [HI.out, HL.out]
              have : L < 2 := by omega
              rw [if_pos this]
          · have HL2 : 2 ≤ L := by omega
            have HI2 : Hid (sG key ln u g = L) := by rw [HI.out, HL.out, if_neg (by omega)]; rfl
            have HS4 : Hid (St2 pb H u parts key ln w g 0 F2 (wr.drewN nq)) := HS3.out.drewN _
            clear p0 c3 c2 cS cLS
            generalize wr.drewN nq = w5 at *
            go_loopg [146] L (fun kk v wx => ∃ (k : Nat) (F : Ix → Slot), v = .int .i64 (k : Int) ∧ k + kk = L ∧ (F (.mem g)).v = .slice ma (mems key u g).length mc ∧ St2 pb H u parts key ln w g k F wx)
            case atStart => exact ⟨0, F2, rfl, by omega, HMV.out, HS4.out⟩
            case round =>
              obtain ⟨k, F3, rfl, hkk, hmv3, hS⟩ := hrel
              have HS5 : Hid (St2 pb H u parts key ln w g k F3 wr) := hS
              have HMV3 := hide hmv3
              clear hS hmv3 HS4 HS3 HM HP HMV
              by_cases hk : k < L
              · obtain ⟨K, M, Pt, gr, hP, hM⟩ := HS5.out
                have HP := hide hP
                have HM := hide hM
                clear hP hM
                have hkz : (k : Int) < (L : Int) := by omega
                obtain ⟨gb, gc, hgv, hgb, hglt, hgc, hgf⟩ := HM.out.row (by omega)
                have HGV := hide hgv
                have HB : bG key ln u g + k ≤ 69632 + 69632 := by
                  have h1 := bG_lt (key := key) (ln := ln) (n := u) hg (k := k) (by rw [HI2.out]; exact hk)
                  have h2 := bG_total (key := key) (ln := ln) (n := u)
                  have h3 := hparts.out
                  omega
                have p0 : wr.cell? ⟨pb, 0, none⟩ = some (.slice (some ⟨gb, 0, none⟩) (bG key ln u g + k) gc) := by rw [← hgv]; exact HM.out.pl.cell0
                have p0' : ∀ X, (wr.alloc X).cell? ⟨pb, 0, none⟩ = some (.slice (some ⟨gb, 0, none⟩) (bG key ln u g + k) gc) := fun X => by rw [← hgv]; exact (HM.out.alloc X).pl.cell0
                have c0 := hgc g (by omega) 0 (by omega)
                have c1 := hgc g (by omega) 1 (by omega)
                have c2 := hgc g (by omega) 2 (by omega)
                simp only [gcell, Nat.add_zero] at c0 c1 c2
                rw [HP.out.K1 g hg] at c0 c1 c2
                have al : ∀ (X : Obj) (o : Nat) (v : Value), wr.cell? ⟨gb, o, none⟩ = some v → (wr.alloc X).cell? ⟨gb, o, none⟩ = some v := fun X o v h2 => by
                  rw [World.cell?_of_block (w := wr) (Below.heap_alloc _ _ _ hglt)]; exact h2
                have c0' := fun X => al X _ _ c0
                have c1' := fun X => al X _ _ c1
                have c2' := fun X => al X _ _ c2
                have hbz : (g : Int) < ((bG key ln u g + k : Nat) : Int) := by omega
                clear hgv hgc hgf al
                generalize hk0 : (kAt key u g).1 = a0 at *
                generalize hk1 : (kAt key u g).2.1 = a1 at *
                generalize hk2 : (kAt key u g).2.2 = a2 at *
                have HK : Hid (kAt key u g = (a0, a1, a2)) := by rw [← hk0, ← hk1, ← hk2]; rfl
                clear hk0 hk1 hk2
                generalize hcnt : bG key ln u g + k = cnt at *
                have HCNT := hide hcnt
                clear hcnt
                go_wp2_with fail
                go_region
                go_wp2_with fail
                have HSI : Hid (StI pb H u parts key ln w g k 0 (a0, a1, a2) wr.heap.size (.slice ma (mems key u g).length mc) K Pt F3 M gr ((wr.alloc (.cells #[.int .i64 a0, .int .i64 a1, .int .i64 a2, .slice none 0 0, .int .i64 0, .int .i64 0, .slice none 0 0, .slice none 0 0] 59)).drew)) := StI.start HP.out (by rw [HCNT.out]; exact HM.out) HMV3.out (a0, a1, a2)
                clear p0 p0' c0 c1 c2 c0' c1' c2'
                generalize ((wr.alloc (.cells #[.int .i64 a0, .int .i64 a1, .int .i64 a2, .slice none 0 0, .int .i64 0, .int .i64 0, .slice none 0 0, .slice none 0 0] 59)).drew) = w6 at *
                generalize wr.heap.size = vb at *
                have HML : (mems key u g).length ≤ 4096 := Nat.le_trans (mems_len u g) hn
                go_loopg [173] (mems key u g).length (fun kk v wx => ∃ (j : Nat) (F : Ix → Slot) (M : Nat → List Nat) (gr : Nat → Int), v = .int .i64 (j : Int) ∧ j + kk = (mems key u g).length ∧ StI pb H u parts key ln w g k j (a0, a1, a2) vb (.slice ma (mems key u g).length mc) K Pt F M gr wx)
                case atStart => exact ⟨0, F3, M, gr, rfl, by omega, HSI.out⟩
                case round =>
                  obtain ⟨j, F4, M4, gr4, rfl, hjk, hS⟩ := hrel
                  have HS6 : Hid (StI pb H u parts key ln w g k j (a0, a1, a2) vb (.slice ma (mems key u g).length mc) K Pt F4 M4 gr4 wr) := hS
                  clear hS HSI
                  by_cases hj : j < (mems key u g).length
                  · have hjz : (j : Int) < ((mems key u g).length : Int) := by omega
                    obtain ⟨x, hx⟩ : ∃ x, (mems key u g)[j]? = some x := ⟨_, List.getElem?_eq_getElem hj⟩
                    have HX := hide hx
                    have hxm : x < u ∧ gi key x = g := mems_mem.1 (List.mem_of_getElem? hx)
                    have hO := HS6.out.m.gw.ownMem g
                    rw [HS6.out.mv, HS6.out.p.memAt hg] at hO
                    obtain ⟨mb, mc', hmm'⟩ := own_form hO (by omega)
                    cases hmm'
                    have cx : wr.cell? ⟨mb, j, none⟩ = some (.int .i64 (x : Int)) := by
                      rw [hO.cellAt j (by omega)]
                      simp [intsV, hx]
                    have hsx : sU key ln x = L := by rw [← sG_gi hxm.1, hxm.2]; exact HI2.out
                    have HFL : Hid (fpU key ln x + k < parts) := by
                      rw [hparts.out]
                      exact fpU_lt hxm.1 (by rw [hsx]; exact hk)
                    have hlr : Lay lb pb H wr u parts m key ln (fpU key ln) ca na _ pa fa ua cc nc sc pc fl fc uc := hl.out.move HS6.out.m.kp
                    obtain ⟨hfl, fb, fo, hfa, hfb, hfp, cF⟩ := hlr.firstAt x hxm.1 (by have := HFL.out; omega)
                    have cLC := hlr.cpus
                    have cLF := hlr.first
                    obtain ⟨mm, hmm2⟩ : ∃ mm : Nat, u + fpU key ln x + k = mm := ⟨_, rfl⟩
                    have hcall := partMember_any (w := wr) (k := k) (fp := fpU key ln) cLC cLF hfa cF hfl (by omega) (by have := HFL.out; omega) (by have := HFL.out; omega)
                    rw [show ((u : Int) + (fpU key ln x : Int) + (k : Int)) = (mm : Int) by omega] at hcall
                    have HMM := hide hmm2
                    have hmN : mm < u + parts := by have := HFL.out; omega
                    have hmz : (mm : Int) < ((u + parts : Nat) : Int) := by omega
                    clear hlr hO hx cLC cLF cF hfa hmm2
                    obtain ⟨rb, rc, hrv, hrb, hrlt, hrc, hrf⟩ := HS6.out.m.grpRow (by omega)
                    have p3 : wr.cell? ⟨pb, 3, none⟩ = some (.slice (some ⟨rb, 0, none⟩) (u + parts) rc) := by rw [← hrv]; exact HS6.out.m.pl.cell3
                    have cm := hrc mm hmN
                    have fm := hrf mm
                    have HRV := hide hrv
                    clear hrv hrc hrf
                    go_wp2_with (go_at_call 23; fail)
                    refine hcall.mono ?_
                    rintro e wz ⟨rfl, q, rfl⟩
                    clear hcall
                    have HS7 : Hid (StI pb H u parts key ln w g k j (a0, a1, a2) vb (.slice (some ⟨mb, 0, none⟩) (mems key u g).length mc) K Pt F4 M4 gr4 (wr.drewN q)) := HS6.out.drewN q
                    obtain ⟨F5, hM5, hF5, hB5⟩ := HS7.out.setG (u := x) HRV.out (by rw [HMM.out]; exact hmN)
                    rw [HMM.out, HCNT.out] at hM5 hB5
                    have HM5 := hide hM5
                    have HF5 := hide hF5
                    have HB5 := hide hB5
                    obtain ⟨va, vc, hvv⟩ := own_val (HS7.out.m.gw.ownMem cnt)
                    have HVV := hide hvv
                    have v3 := blk_cell hB5 3
                    have v3f := blk_free hB5 3
                    simp only [gcells] at v3
                    rw [hvv] at v3
                    clear hM5 hF5 hB5 hvv
                    have HOM := hide (HM5.out.gw.ownMem cnt)
                    rw [HF5.out, HVV.out] at HOM
                    have HLM : (M4 cnt).length ≤ 4096 := by
                      have := HS7.out.p.memLen
                      rw [HCNT.out] at this
                      omega
                    go_upto_region 30 with fail
                    clear p3 cm fm
                    generalize ((wr.drewN q).setCell ⟨rb, mm, none⟩ (.int .i64 (cnt : Int))) = w7 at *
                    have hsz7 := HM5.out.sz
                    go_wp2_with (at_builtin; refine wpList_append_own_at _ rfl (.tmp 189) (.tmp 191) 22 rfl (H + 1) 3 i0 (.int .i64 0) 1 8 Try.underlying22 hi hz0 hz1 hz2 rfl (by decide) (.slice va (M4 cnt).length vc) (M4 cnt).length (intsV (M4 cnt)) rfl (by exact HOM.out.alloc _) ⟨w7.heap.size, 0, none⟩ 1 1 [.int .i64 (mm : Int)] rfl rfl (by exact cell_one_new w7 (.int .i64 (mm : Int)) 3) (by intro u hu; simp at hu; subst hu; rfl) (by unfold maxLen; omega) (by omega) (by simp; omega) ?_)
                    intro v8 w8 hown8 hgrow8 _ hloc8
                    obtain ⟨g8, cap8, rfl⟩ := own_form hown8 (by omega)
                    have hne8 : some vb ≠ (Value.slice va (M4 cnt).length vc).ownBlock := fun e => HS7.out.ne (.mem cnt) (by rw [HVV.out]; exact e.symm)
                    have hvlt : vb < w7.heap.size := (Array.getElem?_eq_some_iff.1 HB5.out).1
                    have hb8 : w8.heap[vb]? = w7.heap[vb]? := (hgrow8.block vb (by simp; omega) hne8).trans (Below.heap_alloc _ _ _ hvlt)
                    have q3 : w8.cell? ⟨vb, 3, none⟩ = some (.slice va (M4 cnt).length vc) := (World.cell?_of_block hb8).trans v3
                    have q3f : w8.frozen? ⟨vb, 3, none⟩ = false := (World.frozen?_of_block hb8).trans v3f
                    clear v3 v3f hb8
                    go_wp2_with fail
                    go_roundg ((mems key u g).length - (j + 1))
                    case measure => omega
                    case rel =>
                      have hblk : (w7.alloc (.cells #[.int .i64 (mm : Int)] 3)).heap[vb]? = some (.cells (gcells (a0, a1, a2) (F5 (.mem cnt)).v (.slice none 0 0)).toArray 59 (0, 0)) := by
                        rw [Below.heap_alloc _ _ _ hvlt, HF5.out]; exact HB5.out
                      have hloc : (F5 (.mem cnt)).v.ownBlock = some g8 ∨ g8 = (w7.alloc (.cells #[.int .i64 (mm : Int)] 3)).heap.size := by
                        rw [HF5.out, HVV.out]
                        rcases hloc8 with h | h
                        · exact .inl h.symm
                        · exact .inr (by simpa [Value.ownBlock] using h)
                      have hgr8 : (w7.alloc (.cells #[.int .i64 (mm : Int)] 3)).grownBy w8 (F5 (.mem cnt)).v.ownBlock := by rw [HF5.out, HVV.out]; exact hgrow8
                      have hmid := HM5.out.alloc (.cells #[.int .i64 (mm : Int)] 3)
                      have hmvx : (F5 (.mem g)).v = .slice (some ⟨mb, 0, none⟩) (mems key u g).length mc := by rw [HF5.out]; exact HS7.out.mv
                      have hnex : ∀ i, (F5 i).v.ownBlock ≠ some vb := fun i => by rw [HF5.out]; exact HS7.out.ne i
                      obtain rfl := HCNT.out
                      obtain rfl := HMM.out
                      obtain ⟨F', M', gr', h'⟩ := StI.step (u := x) HS7.out.p (by rw [HI2.out]; exact hk) hg HX.out hmid hmvx HS7.out.vbH hnex hblk hgr8 hown8 hloc
                      exact ⟨j + 1, F', M', gr', by simp, by omega, h'⟩
                  · have hjz : ¬ ((j : Int) < ((mems key u g).length : Int)) := by omega
                    have HM6 := hide HS6.out.m
                    have HPT := hide HS6.out.p.ptNil
                    have HMV6 := hide HS6.out.mv
                    have HBK := hide HS6.out.blk
                    rw [HCNT.out] at HM6 HPT HBK
                    obtain ⟨va, vc, hvv⟩ := own_val (HM6.out.gw.ownMem cnt)
                    have HVV := hide hvv
                    rw [hvv] at HBK
                    have v0 : wr.cell? ⟨vb, 0, none⟩ = some (.int .i64 a0) := blk_cell HBK.out 0
                    have v1 : wr.cell? ⟨vb, 1, none⟩ = some (.int .i64 a1) := blk_cell HBK.out 1
                    have v2 : wr.cell? ⟨vb, 2, none⟩ = some (.int .i64 a2) := blk_cell HBK.out 2
                    have v3 : wr.cell? ⟨vb, 3, none⟩ = some (.slice va (M4 cnt).length vc) := blk_cell HBK.out 3
                    have v4 : wr.cell? ⟨vb, 4, none⟩ = some (.int .i64 0) := blk_cell HBK.out 4
                    have v5 : wr.cell? ⟨vb, 5, none⟩ = some (.int .i64 0) := blk_cell HBK.out 5
                    have v6 : wr.cell? ⟨vb, 6, none⟩ = some (.slice none 0 0) := blk_cell HBK.out 6
                    have v7 : wr.cell? ⟨vb, 7, none⟩ = some (.slice none 0 0) := blk_cell HBK.out 7
                    obtain ⟨gb6, gc6, hgv⟩ := own_form HM6.out.gw.ownGrps (by omega)
                    have HGV6 := hide hgv
                    have p0 : wr.cell? ⟨pb, 0, none⟩ = some (.slice (some ⟨gb6, 0, none⟩) cnt gc6) := by rw [← hgv]; exact HM6.out.pl.cell0
                    have p0' : ∀ X, (wr.alloc X).cell? ⟨pb, 0, none⟩ = some (.slice (some ⟨gb6, 0, none⟩) cnt gc6) := fun X => by rw [← hgv]; exact (HM6.out.alloc X).pl.cell0
                    have HO6 : Hid (wr.ownsRow (H + 1) 59 8 (.slice (some ⟨gb6, 0, none⟩) cnt gc6) cnt (F4 .grps).xs) := by
                      have := HM6.out.gw.ownGrps
                      rw [hgv] at this
                      exact this
                    obtain ⟨i9, hi9, hy0, hy1, hy2⟩ := info_parts Try.info59
                    have hsz6 := HM6.out.sz
                    have HPB := HM6.out.pbH
                    have HBL : Hid (cnt + 1 ≤ maxLen ∧ (cnt + 1) * 112 ≤ 140737488355328) := ⟨by unfold maxLen; omega, by omega⟩
                    clear hvv hgv
                    go_upto_region 32 with fail
                    refine wp_normal (t32 (ga := some ⟨gb6, 0, none⟩) p0 (HM6.out.pl.free 0) HPB hsz6 (by omega) v0 v1 v2 v3 v4 v5 v6 v7 HO6 ?_) (fun _ _ h => h)
                    intro z195 z196 z197 z198 z199 z200 z201 z202 z203 z204 g6 cap6 w6 hown6 hgrow6 hloc6
                    obtain ⟨F6, hM7, hmv7⟩ : ∃ F', Mid pb H (u + parts) w (cnt + 1) (updN K cnt (a0, a1, a2)) M4 Pt gr4 ((fs key u).length : Int) F' (w6.setCell ⟨pb, 0, none⟩ (.slice (some ⟨g6, 0, none⟩) (cnt + 1) cap6)) ∧ (F' (.mem g)).v = .slice ma (mems key u g).length mc := by
                      obtain ⟨⟨F', h1, h2, h3⟩, _⟩ := ((HM6.out.alloc (.cells #[.int .i64 a0, .int .i64 a1, .int .i64 a2, .slice va (M4 cnt).length vc, .int .i64 0, .int .i64 0, .slice none 0 0, .slice none 0 0] 59)).drew).addGroup (k := (a0, a1, a2)) HPT.out (by rw [HGV6.out]; exact hgrow6) (by rw [HVV.out]; exact hown6) (by rw [HGV6.out]; exact hloc6)
                      exact ⟨F', h1, by rw [h3 (.mem g) (by simp)]; exact HMV6.out⟩
                    clear hown6 hgrow6 hloc6
                    generalize (w6.setCell ⟨pb, 0, none⟩ (.slice (some ⟨g6, 0, none⟩) (cnt + 1) cap6)) = wc at *
                    have HM7 := hide hM7
                    have HMV7 := hide hmv7
                    clear hM7 hmv7 v0 v1 v2 v3 v4 v5 v6 v7 p0 p0' HO6 HBK
                    obtain ⟨gb, gc, hgv, hgb, hglt, hgc, hgf⟩ := HM7.out.row (by omega)
                    have HGV := hide hgv
                    have HPL : (Pt g).length ≤ k := Nat.le_of_eq (HS6.out.p.ptLen hg)
                    have hgz1 : g < cnt + 1 := by omega
                    have hgz2 : (g : Int) < (cnt : Int) + 1 := by omega
                    have hown2 : wc.ownsRow (H + 1) 3 1 (F6 (.par g)).v (Pt g).length (intsV (Pt g)) := HM7.out.gw.ownPar g
                    have p0 : wc.cell? ⟨pb, 0, none⟩ = some (.slice (some ⟨gb, 0, none⟩) (cnt + 1) gc) := by rw [← hgv]; exact HM7.out.pl.cell0
                    have p0' : ∀ X, (wc.alloc X).cell? ⟨pb, 0, none⟩ = some (.slice (some ⟨gb, 0, none⟩) (cnt + 1) gc) := fun X => by rw [← hgv]; exact (HM7.out.alloc X).pl.cell0
                    have cm : wc.cell? ⟨gb, g * 8 + 6, none⟩ = some (F6 (.par g)).v := hgc g hgz1 6 (by omega)
                    have cm' : ∀ X, (wc.alloc X).cell? ⟨gb, g * 8 + 6, none⟩ = some (F6 (.par g)).v := fun X => by rw [World.cell?_of_block (w := wc) (Below.heap_alloc _ _ _ hglt)]; exact cm
                    obtain ⟨ya, yc, hyv⟩ := own_val hown2
                    have HYV := hide hyv
                    rw [hyv] at cm cm' hown2
                    have HOWN2 := hide hown2
                    have hsz2 := HM7.out.sz
                    have HNE : Hid ((F6 (.par g)).v.ownBlock ≠ some gb) := fun e => by
                      have := HM7.out.gw.fam.sep (.par g) .grps gb e (by rw [hgv]; rfl)
                      cases this
                    have cmf : ∀ X, (wc.alloc X).frozen? ⟨gb, g * 8 + 6, none⟩ = false := fun X => by rw [World.frozen?_of_block (w := wc) (Below.heap_alloc _ _ _ hglt)]; exact hgf _
                    have HBL2 : Hid ((Pt g).length + 1 ≤ maxLen ∧ ((Pt g).length + 1) * 8 ≤ 140737488355328) := ⟨by unfold maxLen; omega, by omega⟩
                    have HFZ := hide hgf
                    clear hgv hyv hgc hgf hown2 HBL
                    go_upto_region 33 with fail
                    refine wp_normal (t33 (g := g) (T := cnt + 1) p0 hglt (by omega) hsz2 (by omega) cm HFZ HOWN2 (by rw [← HYV.out]; exact HNE) (by omega) ?_) (fun _ _ h => h)
                    intro z205 z206 z207 z208 z209 z210 z211 z212 z213 z214 z215 z216 z217 z218 z219 z220 z221 z222 g3 cap3 w3 hown3 hgrow3 hloc3
                    have HOW3 := hide hown3
                    have HGR3 := hide hgrow3
                    have HLO3 := hide hloc3
                    clear hown3 hgrow3 hloc3 p0 p0' cm cm' cmf
                    go_wp2_with fail
                    go_roundg (L - (k + 1))
                    case measure => omega
                    case rel =>
                      have hm := (HM7.out.alloc (.cells #[.int .i64 (cnt : Int)] 3)).drew
                      rw [← HK.out] at hm
                      have hgr3 : ((wc.alloc (.cells #[.int .i64 (cnt : Int)] 3)).drew).grownBy w3 (F6 (.par g)).v.ownBlock := by rw [HYV.out]; exact HGR3.out
                      have hl3 : (F6 (.par g)).v.ownBlock = some g3 ∨ g3 = ((wc.alloc (.cells #[.int .i64 (cnt : Int)] 3)).drew).heap.size := by rw [HYV.out]; exact HLO3.out
                      have hown3 := HOW3.out
                      obtain rfl := HCNT.out
                      obtain ⟨F', h1, h2⟩ := endRound3 HS6.out.p (by omega) hg (by rw [HI2.out]; exact hk) hm hgr3 hown3 hl3 HGV.out
                      exact ⟨k + 1, F', by simp, by omega, h2.trans HMV7.out, h1⟩
              · have hkz : ¬ ((k : Int) < (L : Int)) := by omega
                go_wp2_with fail
                go_roundg ((fs key u).length - (g + 1))
                case measure => omega
                case rel => exact ⟨g + 1, F3, by simp, by omega, HS5.out.skip (by rw [HI2.out]; omega)⟩
        · have hgz : ¬ ((g : Int) < ((fs key u).length : Int)) := by omega
          obtain rfl : g = (fs key u).length := by omega
          go_wp2_with fail
          refine bodyPost_end (results_none rfl _ _ _) rfl ?_
          exact ⟨rfl, F2, HS3.out⟩
end Go.Proofs.Qxb6603801a
