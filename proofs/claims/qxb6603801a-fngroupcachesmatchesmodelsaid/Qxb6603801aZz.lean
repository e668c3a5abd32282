import Derived.Test.Qxb6603801aZ
import Derived.Test.Qxb6603801aIo
import Derived.Test.Qxb6603801aG
import Derived.Deep.DeepCutAuto
namespace Go.Proofs.Qxb6603801a
open Go.RowKit

/-- the six rows at the end -/
theorem flat_at {R : Nat → List Value} {S : Nat} (hR : ∀ g, (R g).length = S) : ∀ (T g j : Nat), g < T → j < S → ((List.range T).flatMap R)[g * S + j]? = (R g)[j]? := by
  intro T
  induction T with
  | zero => intro g j hg; omega
  | succ k ih =>
    intro g j hg hj
    have hlen : ((List.range k).flatMap R).length = k * S := by
      clear ih hg
      induction k with
      | zero => simp
      | succ q ih => rw [List.range_succ, List.flatMap_append, List.length_append, ih]; simp [hR, Nat.succ_mul]
    rw [List.range_succ, List.flatMap_append]
    by_cases e : g < k
    · rw [List.getElem?_append_left, ih g j e hj]
      rw [hlen]
      calc g * S + j < g * S + S := by omega
        _ = (g + 1) * S := by rw [Nat.succ_mul]
        _ ≤ k * S := Nat.mul_le_mul_right _ e
    · obtain rfl : g = k := by omega
      rw [List.getElem?_append_right (by rw [hlen]; omega), hlen, Nat.add_sub_cancel_left]
      simp

theorem Z6.out {w4 wx : World} {K : Nat → Key} {FM F : Ix → Slot} {T : Nat} (h : Z6 w4 K FM T 0 F wx) {pb H N : Nat} {w : World} {M Pt : Nat → List Nat} {gr : Nat → Int} {ofc : Int} (hm : Mid pb H N w T K M Pt gr ofc FM w4)
    {ra a1 a2 a3 a4 a5 a6 : Option Addr} {rc c1 c2 c3 c4 c5 c6 : Nat} (hr : (FM .grp).v = .slice ra N rc) (h1 : (F (.mem 0)).v = .slice a1 T c1) (h2 : (F (.mem 1)).v = .slice a2 T c2) (h3 : (F (.mem 2)).v = .slice a3 T c3) (h4 : (F (.mem 3)).v = .slice a4 T c4) (h5 : (F (.mem 4)).v = .slice a5 T c5) (h6 : (F (.mem 5)).v = .slice a6 T c6) :
    Out wx.heap.size wx N T K M Pt gr ra a1 a2 a3 a4 a5 a6 := by
  have hsz := h.gr.size
  have mv : ∀ b, b < w4.heap.size → wx.heap[b]? = w4.heap[b]? := fun b hb => h.gr.block b hb (by simp)
  have cell : ∀ {s : Nat} {a : Option Addr} {c g j : Nat}, s < 6 → (F (.mem s)).v = .slice a T c → g < T → j < z6S s → (∀ g, (z6R K FM s g).length = z6S s) → ∃ b, a = some ⟨b, 0, none⟩ ∧ b < wx.heap.size ∧ wx.cell? ⟨b, g * z6S s + j, none⟩ = (z6R K FM s g)[j]? := by
    intro s a c g j hs hv hg hj hR
    have ho := h.fam.own (.mem s)
    obtain ⟨e1, e2, e3, e4⟩ := h.row s hs
    rw [if_neg (by omega)] at e3 e4
    rw [e1, e2, e3, e4, hv] at ho
    obtain ⟨b, cap, hb⟩ := own_form ho (by omega)
    cases hb
    refine ⟨b, rfl, (ho.lt b rfl).2, ?_⟩
    have hlt : g * z6S s + j < T * z6S s := by
      calc g * z6S s + j < g * z6S s + z6S s := by omega
        _ = (g + 1) * z6S s := by rw [Nat.succ_mul]
        _ ≤ T * z6S s := Nat.mul_le_mul_right _ hg
    rw [ho.cellAt _ (by omega), flat_at hR T g j hg hj]
  refine ⟨?_, fun g hg => ?_, fun g hg => ?_, fun g hg => ?_, fun g hg => ?_, fun g hg => ?_, fun g hg => ?_⟩
  · have ho := hm.gw.ownGrp
    intro i hi
    obtain ⟨b, cap, hb⟩ := own_form ho (by omega)
    rw [hr] at hb ho
    cases hb
    have hl := ho.lt b rfl
    refine ⟨b, 0, rfl, by omega, ?_⟩
    rw [World.cell?_of_block (mv b hl.2), Nat.zero_add, ho.cellAt i (by omega)]
    simp [hi]
  · obtain ⟨b, e1, e2, e3⟩ := cell (s := 0) (j := 0) (by decide) h1 hg (by decide) (fun _ => rfl)
    obtain ⟨b', e1', _, e3'⟩ := cell (s := 0) (j := 1) (by decide) h1 hg (by decide) (fun _ => rfl)
    rw [e1] at e1'
    cases e1'
    exact ⟨b, 0, e1, e2, by rw [Nat.zero_add]; exact e3, by rw [Nat.zero_add]; exact e3'⟩
  · obtain ⟨b, e1, e2, e3⟩ := cell (s := 1) (j := 0) (by decide) h2 hg (by decide) (fun _ => rfl)
    exact ⟨b, 0, e1, e2, by rw [Nat.zero_add]; simpa [z6S, z6R] using e3⟩
  · obtain ⟨b, e1, e2, e3⟩ := cell (s := 2) (j := 0) (by decide) h3 hg (by decide) (fun _ => rfl)
    have ho := hm.gw.ownMem g
    obtain ⟨ma, mc, hv⟩ := own_val ho
    refine ⟨b, 0, ma, mc, e1, e2, ?_, ((ints_intsV ho rfl hv).move mv).mono hsz⟩
    rw [Nat.zero_add, ← hv]
    simpa [z6S, z6R] using e3
  · obtain ⟨b, e1, e2, e3⟩ := cell (s := 3) (j := 0) (by decide) h4 hg (by decide) (fun _ => rfl)
    have ho := hm.gw.ownPar g
    obtain ⟨ma, mc, hv⟩ := own_val ho
    refine ⟨b, 0, ma, mc, e1, e2, ?_, fun he => ?_, ((ints_intsV ho rfl hv).move mv).mono hsz⟩
    · rw [Nat.zero_add, ← hv]
      simpa [z6S, z6R] using e3
    · have := hm.gw.nl (.par g) (by simp) (by rw [(hm.gw.pp g).2.2.1, he]; rfl)
      rw [hv] at this
      simp only [Value.slice.injEq] at this
      exact ⟨this.1, this.2.2⟩
  · obtain ⟨b, e1, e2, e3⟩ := cell (s := 4) (j := 0) (by decide) h5 hg (by decide) (fun _ => rfl)
    obtain ⟨b', e1', _, e3'⟩ := cell (s := 4) (j := 1) (by decide) h5 hg (by decide) (fun _ => rfl)
    rw [e1] at e1'
    cases e1'
    exact ⟨b, 0, e1, e2, by rw [Nat.zero_add]; exact e3, by rw [Nat.zero_add]; exact e3'⟩
  · obtain ⟨b, e1, e2, e3⟩ := cell (s := 5) (j := 0) (by decide) h6 hg (by decide) (fun _ => rfl)
    exact ⟨b, 0, e1, e2, by rw [Nat.zero_add]; simpa [z6S, z6R] using e3⟩


theorem lay_start {B : Nat} {w2 : World} {n parts m fl : Nat} {key : Nat → Key} {ln : Nat → Nat} {ca na sa fa ua pa : Option Addr} {cc nc sc fc uc pc : Nat} (h : Inp B w2 n parts m fl key ln na sa fa ua) (hB : B ≤ w2.heap.size) :
    Lay w2.heap.size (w2.heap.size + 1) (w2.heap.size + 2) ((w2.alloc (.cells #[.slice none 0 0, .pointer none, .slice none 0 0, .slice none 0 0, .slice ca n cc, .slice na n nc, .slice sa m sc, .slice pa parts pc, .slice fa fl fc, .slice none 0 0, .slice ua n uc, .slice none 0 0, .slice none 0 0, .int .i64 0, .int .i64 0, .int .i64 0] 49)).alloc (.cells #[.slice none 0 0, .int .i64 0, .int .i64 0, .slice none 0 0, .slice none 0 0, .slice none 0 0, .slice none 0 0, .slice none 0 0, .slice none 0 0, .slice none 0 0, .map none, .int .i64 0, .slice none 0 0, .slice none 0 0, .slice none 0 0, .slice none 0 0, .slice none 0 0, .slice none 0 0, .slice none 0 0, .slice none 0 0, .slice none 0 0, .slice none 0 0, .slice none 0 0, .slice none 0 0, .int .i64 0] 56)) n parts m key ln (fpU key ln) ca na sa pa fa ua cc nc sc pc fl fc uc := by
  have e1 : ((w2.alloc (.cells #[.slice none 0 0, .pointer none, .slice none 0 0, .slice none 0 0, .slice ca n cc, .slice na n nc, .slice sa m sc, .slice pa parts pc, .slice fa fl fc, .slice none 0 0, .slice ua n uc, .slice none 0 0, .slice none 0 0, .int .i64 0, .int .i64 0, .int .i64 0] 49)).alloc (.cells #[.slice none 0 0, .int .i64 0, .int .i64 0, .slice none 0 0, .slice none 0 0, .slice none 0 0, .slice none 0 0, .slice none 0 0, .slice none 0 0, .slice none 0 0, .map none, .int .i64 0, .slice none 0 0, .slice none 0 0, .slice none 0 0, .slice none 0 0, .slice none 0 0, .slice none 0 0, .slice none 0 0, .slice none 0 0, .slice none 0 0, .slice none 0 0, .slice none 0 0, .slice none 0 0, .int .i64 0] 56)).heap[w2.heap.size]? = some (.cells #[.slice none 0 0, .pointer none, .slice none 0 0, .slice none 0 0, .slice ca n cc, .slice na n nc, .slice sa m sc, .slice pa parts pc, .slice fa fl fc, .slice none 0 0, .slice ua n uc, .slice none 0 0, .slice none 0 0, .int .i64 0, .int .i64 0, .int .i64 0] 49) := by
    rw [Below.heap_alloc _ _ _ (by simp)]
    exact heap_alloc_new w2 _
  have e2 : ∀ b, b < B → ((w2.alloc (.cells #[.slice none 0 0, .pointer none, .slice none 0 0, .slice none 0 0, .slice ca n cc, .slice na n nc, .slice sa m sc, .slice pa parts pc, .slice fa fl fc, .slice none 0 0, .slice ua n uc, .slice none 0 0, .slice none 0 0, .int .i64 0, .int .i64 0, .int .i64 0] 49)).alloc (.cells #[.slice none 0 0, .int .i64 0, .int .i64 0, .slice none 0 0, .slice none 0 0, .slice none 0 0, .slice none 0 0, .slice none 0 0, .slice none 0 0, .slice none 0 0, .map none, .int .i64 0, .slice none 0 0, .slice none 0 0, .slice none 0 0, .slice none 0 0, .slice none 0 0, .slice none 0 0, .slice none 0 0, .slice none 0 0, .slice none 0 0, .slice none 0 0, .slice none 0 0, .slice none 0 0, .int .i64 0] 56)).heap[b]? = w2.heap[b]? := fun b hb => by
    rw [Below.heap_alloc _ _ _ (by simp; omega), Below.heap_alloc _ _ _ (by omega)]
  generalize ((w2.alloc (.cells #[.slice none 0 0, .pointer none, .slice none 0 0, .slice none 0 0, .slice ca n cc, .slice na n nc, .slice sa m sc, .slice pa parts pc, .slice fa fl fc, .slice none 0 0, .slice ua n uc, .slice none 0 0, .slice none 0 0, .int .i64 0, .int .i64 0, .int .i64 0] 49)).alloc (.cells #[.slice none 0 0, .int .i64 0, .int .i64 0, .slice none 0 0, .slice none 0 0, .slice none 0 0, .slice none 0 0, .slice none 0 0, .slice none 0 0, .slice none 0 0, .map none, .int .i64 0, .slice none 0 0, .slice none 0 0, .slice none 0 0, .slice none 0 0, .slice none 0 0, .slice none 0 0, .slice none 0 0, .slice none 0 0, .slice none 0 0, .slice none 0 0, .slice none 0 0, .slice none 0 0, .int .i64 0] 56)) = w3 at *
  have h' := h.move e2
  refine ⟨by omega, by omega, by simp [World.cell?, e1], by simp [World.cell?, e1], by simp [World.cell?, e1], by simp [World.cell?, e1], by simp [World.cell?, e1], by simp [World.cell?, e1], fun u hu => ?_, fun u hu => ?_, fun i hi => ?_, fun u hu hp => ?_⟩
  · obtain ⟨b, o, h1, h2, h3⟩ := h'.nodes u hu
    exact ⟨b, o, h1, by omega, by omega, h3⟩
  · obtain ⟨b, o, h1, h2, h3, h4⟩ := h'.units u hu
    exact ⟨b, o, h1, by omega, by omega, h3, h4⟩
  · obtain ⟨b, o, a, c, h1, h2, h3⟩ := h'.sets i hi
    exact ⟨b, o, a, c, h1, by omega, by omega, h3⟩
  · obtain ⟨h0, b, o, h1, h2, h3⟩ := h'.first u hu hp
    exact ⟨h0, b, o, h1, by omega, by omega, h3⟩

theorem pl_start (w : World) : Pl w.heap.size (w.alloc (.cells #[.slice none 0 0, .int .i64 0, .int .i64 0, .slice none 0 0, .slice none 0 0, .slice none 0 0, .slice none 0 0, .slice none 0 0, .slice none 0 0, .slice none 0 0, .map none, .int .i64 0, .slice none 0 0, .slice none 0 0, .slice none 0 0, .slice none 0 0, .slice none 0 0, .slice none 0 0, .slice none 0 0, .slice none 0 0, .slice none 0 0, .slice none 0 0, .slice none 0 0, .slice none 0 0, .int .i64 0] 56)) (.slice none 0 0) 0 (.slice none 0 0) :=
  ⟨_, heap_alloc_new w _, rfl, rfl, rfl, rfl⟩

set_option maxRecDepth 100000 in
set_option maxHeartbeats 8000000 in
theorem zz_any {B : Nat} {w : World} {n parts m fl : Nat} {key : Nat → Key} {ln : Nat → Nat} {ca na sa fa ua : Option Addr} {cc nc sc fc uc : Nat} (h : Inp B w n parts m fl key ln na sa fa ua) (hB : B ≤ w.heap.size) :
    Calls Try.prog 18 #[.slice ca n cc, .slice na n nc, .slice sa m sc, .slice fa fl fc, .slice ua n uc, .int .i64 (parts : Int)] w fun e w' => ∃ ra rc a1 c1 a2 c2 a3 c3 a4 c4 a5 c5 a6 c6 K M Pt gr,
      e = .returned (.tuple #[.slice ra (n + parts) rc, .int .i64 ((fs key n).length : Int), .slice a1 (bG key ln n (fs key n).length) c1, .slice a2 (bG key ln n (fs key n).length) c2, .slice a3 (bG key ln n (fs key n).length) c3, .slice a4 (bG key ln n (fs key n).length) c4, .slice a5 (bG key ln n (fs key n).length) c5, .slice a6 (bG key ln n (fs key n).length) c6]) ∧
      P2 key ln n (fs key n).length 0 K M Pt gr ∧ Out w'.heap.size w' (n + parts) (bG key ln n (fs key n).length) K M Pt gr ra a1 a2 a3 a4 a5 a6 ∧ w.grownBy w' none := by
  obtain ⟨i0, hi, hz0, hz1, hz2⟩ := info_parts Try.info81
  obtain ⟨i3, hi3, h30, h31, h32⟩ := info_parts Try.info3
  obtain ⟨j9, hj9, h90, h91, h92⟩ := info_parts Try.info39
  obtain ⟨j2, hj2, h20, h21, h22⟩ := info_parts Try.info22
  have hp := h.pb
  have hnb := h.nb
  have HI := hide h
  clear h
  have hbytes : i0.bytes * parts ≤ 281474976710656 := by rw [hz2]; omega
  go_enter Try.func18, Try.ntmps18
  go_wp2_with (at_make; refine wpList_make_full _ rfl _ _ 42 rfl w.heap.size 81 i0 (.agg #[.int .i64 0, .slice none 0 0, .slice none 0 0]) 3 Try.underlying42 hi hz0 hz1 .i64 .i64 _ _ parts rfl rfl (by omega) (by omega) hbytes (by unfold maxLen; omega) (by omega) ?_)
  intro w2 _ hgrow2
  have HG := hide hgrow2
  clear hgrow2
  have hs2 := HG.out.size
  have hcall := group_any (lb := w2.heap.size) (pb := w2.heap.size + 1) (H := w2.heap.size + 2) (w := (w2.alloc (.cells #[.slice none 0 0, .pointer none, .slice none 0 0, .slice none 0 0, .slice ca n cc, .slice na n nc, .slice sa m sc, .slice (some ⟨w.heap.size, 0, none⟩) parts parts, .slice fa fl fc, .slice none 0 0, .slice ua n uc, .slice none 0 0, .slice none 0 0, .int .i64 0, .int .i64 0, .int .i64 0] 49)).alloc (.cells #[.slice none 0 0, .int .i64 0, .int .i64 0, .slice none 0 0, .slice none 0 0, .slice none 0 0, .slice none 0 0, .slice none 0 0, .slice none 0 0, .slice none 0 0, .map none, .int .i64 0, .slice none 0 0, .slice none 0 0, .slice none 0 0, .slice none 0 0, .slice none 0 0, .slice none 0 0, .slice none 0 0, .slice none 0 0, .slice none 0 0, .slice none 0 0, .slice none 0 0, .slice none 0 0, .int .i64 0] 56)) (n := n) (parts := parts) (m := m) (key := key) (ln := ln) (by simp)
    (lay_start (B := B) (pc := parts) (HI.out.move (grown_below HG.out hB)) (by omega)) (by have h1 := pl_start (w2.alloc (.cells #[.slice none 0 0, .pointer none, .slice none 0 0, .slice none 0 0, .slice ca n cc, .slice na n nc, .slice sa m sc, .slice (some ⟨w.heap.size, 0, none⟩) parts parts, .slice fa fl fc, .slice none 0 0, .slice ua n uc, .slice none 0 0, .slice none 0 0, .int .i64 0, .int .i64 0, .int .i64 0] 49)); rw [show (w2.alloc (.cells #[.slice none 0 0, .pointer none, .slice none 0 0, .slice none 0 0, .slice ca n cc, .slice na n nc, .slice sa m sc, .slice (some ⟨w.heap.size, 0, none⟩) parts parts, .slice fa fl fc, .slice none 0 0, .slice ua n uc, .slice none 0 0, .slice none 0 0, .int .i64 0, .int .i64 0, .int .i64 0] 49)).heap.size = w2.heap.size + 1 from by simp] at h1; exact h1) hnb hp HI.out.kw HI.out.nd HI.out.lnb HI.out.prts
  go_wp2_with (go_at_call 21; fail)
  refine hcall.mono ?_
  rintro e w4 ⟨rfl, FM, hst⟩
  clear hcall
  have HST := hide hst
  clear hst
  obtain ⟨K, M, Pt, gr, hP, hM⟩ := HST.out
  have HP := hide hP
  have HM := hide hM
  clear hP hM
  obtain ⟨ra, rc, hrv⟩ := own_val HM.out.gw.ownGrp
  have HRV := hide hrv
  have r3 : w4.cell? ⟨w2.heap.size + 1, 3, none⟩ = some (.slice ra (n + parts) rc) := by rw [← hrv]; exact HM.out.pl.cell3
  have r1 := HM.out.pl.cell1
  have r4 : w4.cell? ⟨w2.heap.size + 1, 0, none⟩ = some (FM .grps).v := HM.out.pl.cell0
  have hpb4 : w2.heap.size + 1 < w4.heap.size := by have := HM.out.sz; omega
  have HGW : Hid (w.grownBy w4 none) := by
    have k := HM.out.kp
    refine ⟨k.os.trans HG.out.os, k.tape.trans HG.out.tape, k.output.trans HG.out.output, ?_, fun i hi _ => ?_⟩
    · have := k.size
      simp at this
      omega
    · rw [k.block i (by omega) (by omega), Below.heap_alloc _ _ _ (by simp; omega), Below.heap_alloc _ _ _ (by omega)]
      exact HG.out.block i hi (by simp)
  obtain ⟨T, hT⟩ : ∃ T, bG key ln n (fs key n).length + 0 = T := ⟨_, rfl⟩
  rw [hT] at HM
  have HT := hide hT
  have hTb : T ≤ 69632 := by
    have h2 := bG_total (key := key) (ln := ln) (n := n)
    have h3 := HI.out.prts
    omega
  obtain ⟨ga, gc, hgv⟩ := own_val HM.out.gw.ownGrps
  have HGV := hide hgv
  rw [hgv] at r4
  have HR := hide (show w4.cell? ⟨w2.heap.size + 1, 3, none⟩ = some (.slice ra (n + parts) rc) ∧ w4.cell? ⟨w2.heap.size + 1, 1, none⟩ = some (.int .i64 ((fs key n).length : Int)) ∧ w4.cell? ⟨w2.heap.size + 1, 0, none⟩ = some (.slice ga T gc) from ⟨r3, r1, r4⟩)
  clear r3 r1 r4 hrv hT hgv
  generalize hpbe : w2.heap.size + 1 = pb at *
  clear hpbe
  go_wp2_with fail
  obtain ⟨F0, hZ0, hF0⟩ := Z6.start w4 K FM
  have HZ0 := hide hZ0
  have HF0 := hide hF0
  clear hZ0 hF0
  go_loopg [14, 15, 16, 17, 18, 19, 22] T (fun k v14 v15 v16 v17 v18 v19 v22 wr => ∃ (g : Nat) (F : Ix → Slot), v22 = .int .i64 (g : Int) ∧ g + k = T ∧ Z6 w4 K FM g 0 F wr ∧ v14 = (F (.mem 0)).v ∧ v15 = (F (.mem 1)).v ∧ v16 = (F (.mem 2)).v ∧ v17 = (F (.mem 3)).v ∧ v18 = (F (.mem 4)).v ∧ v19 = (F (.mem 5)).v)
  case atStart => exact ⟨0, F0, rfl, by omega, HZ0.out, (HF0.out 0).symm, (HF0.out 1).symm, (HF0.out 2).symm, (HF0.out 3).symm, (HF0.out 4).symm, (HF0.out 5).symm⟩
  case round =>
    obtain ⟨g, F, rfl, hgk, hZ, rfl, rfl, rfl, rfl, rfl, rfl⟩ := hrel
    have HZ := hide hZ
    clear hZ HZ0 HF0
    have mv0 : ∀ b, b < w4.heap.size → wr.heap[b]? = w4.heap[b]? := fun b hb => HZ.out.gr.block b hb (by simp)
    have p0 : wr.cell? ⟨pb, 0, none⟩ = some (.slice ga T gc) := (World.cell?_of_block (mv0 pb (by omega))).trans HR.out.2.2
    obtain ⟨b0, d0, hv0⟩ : ∃ a c, (F (.mem 0)).v = .slice a g c := by
      have h1 := HZ.out.fam.own (.mem 0)
      rw [(HZ.out.row 0 (by decide)).2.2.1] at h1
      exact own_val h1
    have HV0 := hide hv0
    rw [hv0]
    clear hv0
    obtain ⟨b1, d1, hv1⟩ : ∃ a c, (F (.mem 1)).v = .slice a g c := by
      have h1 := HZ.out.fam.own (.mem 1)
      rw [(HZ.out.row 1 (by decide)).2.2.1] at h1
      exact own_val h1
    have HV1 := hide hv1
    rw [hv1]
    clear hv1
    obtain ⟨b2, d2, hv2⟩ : ∃ a c, (F (.mem 2)).v = .slice a g c := by
      have h1 := HZ.out.fam.own (.mem 2)
      rw [(HZ.out.row 2 (by decide)).2.2.1] at h1
      exact own_val h1
    have HV2 := hide hv2
    rw [hv2]
    clear hv2
    obtain ⟨b3, d3, hv3⟩ : ∃ a c, (F (.mem 3)).v = .slice a g c := by
      have h1 := HZ.out.fam.own (.mem 3)
      rw [(HZ.out.row 3 (by decide)).2.2.1] at h1
      exact own_val h1
    have HV3 := hide hv3
    rw [hv3]
    clear hv3
    obtain ⟨b4, d4, hv4⟩ : ∃ a c, (F (.mem 4)).v = .slice a g c := by
      have h1 := HZ.out.fam.own (.mem 4)
      rw [(HZ.out.row 4 (by decide)).2.2.1] at h1
      exact own_val h1
    have HV4 := hide hv4
    rw [hv4]
    clear hv4
    obtain ⟨b5, d5, hv5⟩ : ∃ a c, (F (.mem 5)).v = .slice a g c := by
      have h1 := HZ.out.fam.own (.mem 5)
      rw [(HZ.out.row 5 (by decide)).2.2.1] at h1
      exact own_val h1
    have HV5 := hide hv5
    rw [hv5]
    clear hv5
    by_cases hg : g < T
    · have hgz : (g : Int) < (T : Int) := by omega
      obtain ⟨gb, gc', hgv', hgb, hglt, hgc, hgf⟩ := HM.out.row (by omega)
      have hga : ga = some ⟨gb, 0, none⟩ ∧ gc = gc' := by
        have := HGV.out.symm.trans hgv'
        simp only [Value.slice.injEq] at this
        exact ⟨this.1, this.2.2⟩
      obtain ⟨rfl, rfl⟩ := hga
      obtain ⟨ma, mc, hmv⟩ := own_val (HM.out.gw.ownMem g)
      obtain ⟨qa, qc, hqv⟩ := own_val (HM.out.gw.ownPar g)
      have HMV := hide hmv
      have HQV := hide hqv
      have HC := hide hgc
      clear hmv hqv hgc hgf hgv'
      have HW0 := HV0
      have c0 : wr.cell? ⟨gb, g * 8, none⟩ = some (.int .i64 (K g).1) := by
        rw [World.cell?_of_block (mv0 gb hglt)]
        exact HC.out g hg 0 (by decide)
      have c1 : wr.cell? ⟨gb, g * 8 + 1, none⟩ = some (.int .i64 (K g).2.1) := by
        rw [World.cell?_of_block (mv0 gb hglt)]
        exact HC.out g hg 1 (by decide)
      have HO : Hid (wr.ownsRow w4.heap.size 39 2 (.slice b0 g d0) g ((List.range g).flatMap (z6R K FM 0))) := by
        have h1 := HZ.out.own (s := 0) (by decide)
        rw [HW0.out] at h1
        exact h1
      have hszx := HZ.out.gr.size
      clear mv0
      go_wp2_with (at_builtin; refine wpList_append_own_at _ rfl (.tmp 46) (.tmp 55) 32 rfl w4.heap.size 39 j9 (.agg #[.int .i64 0, .int .i64 0]) 2 16 Try.underlying32 hj9 h90 h91 h92 rfl (by decide) (.slice b0 g d0) g ((List.range g).flatMap (z6R K FM 0)) rfl (by exact HO.out.alloc _) ⟨wr.heap.size, 0, none⟩ 1 1 [.int .i64 (K g).1, .int .i64 (K g).2.1] rfl rfl (by exact cells_new wr #[.int .i64 (K g).1, .int .i64 (K g).2.1] 39) (by intro x hx; simp at hx; rcases hx with rfl | rfl <;> rfl) (by unfold maxLen; omega) (by omega) (by simp; omega) ?_)
      intro v1 x1 hown1 hgrow1 _ hloc1
      obtain ⟨y0, e0, rfl⟩ := own_form hown1 (by omega)
      obtain ⟨G1, hZ1, hV1, hN1⟩ := HZ.out.step (s := 0) (by decide) (.cells #[.int .i64 (K g).1, .int .i64 (K g).2.1] 39) (v' := .slice (some ⟨y0, 0, none⟩) (g + 1) e0) (by rw [HW0.out]; exact hgrow1) (by
        show x1.ownsRow w4.heap.size 39 2 _ (g + 1) ((List.range g).flatMap (z6R K FM 0) ++ z6R K FM 0 g)
        show x1.ownsRow w4.heap.size 39 2 _ (g + 1) ((List.range g).flatMap (z6R K FM 0) ++ [.int .i64 (K g).1, .int .i64 (K g).2.1])
        exact hown1) (by rw [HW0.out]; exact hloc1)
      have HZ1 := hide hZ1
      have HVn1 := hide hV1
      have HN1 := hide hN1
      have HW1 : Hid ((G1 (.mem 1)).v = .slice b1 g d1) := by rw [HN1.out 1 (by decide)]; exact HV1.out
      clear hown1 hgrow1 hloc1 hZ1 hV1 hN1 HO p0 hszx c0 c1
      have mv1 : ∀ b, b < w4.heap.size → x1.heap[b]? = w4.heap[b]? := fun b hb => HZ1.out.gr.block b hb (by simp)
      have p0 : x1.cell? ⟨pb, 0, none⟩ = some (.slice (some ⟨gb, 0, none⟩) T gc) := (World.cell?_of_block (mv1 pb (by omega))).trans HR.out.2.2
      have c0 : x1.cell? ⟨gb, g * 8 + 2, none⟩ = some (.int .i64 (K g).2.2) := by
        rw [World.cell?_of_block (mv1 gb hglt)]
        exact HC.out g hg 2 (by decide)
      have HO : Hid (x1.ownsRow w4.heap.size 3 1 (.slice b1 g d1) g ((List.range g).flatMap (z6R K FM 1))) := by
        have h1 := HZ1.out.own (s := 1) (by decide)
        rw [HW1.out] at h1
        exact h1
      have hszx := HZ1.out.gr.size
      clear mv1
      go_wp2_with (at_builtin; refine wpList_append_own_at _ rfl (.tmp 57) (.tmp 66) 22 rfl w4.heap.size 3 i3 (.int .i64 0) 1 8 Try.underlying22 hi3 h30 h31 h32 rfl (by decide) (.slice b1 g d1) g ((List.range g).flatMap (z6R K FM 1)) rfl (by exact HO.out.alloc _) ⟨x1.heap.size, 0, none⟩ 1 1 [.int .i64 (K g).2.2] rfl rfl (by exact cells_new x1 #[.int .i64 (K g).2.2] 3) (by intro x hx; simp at hx; subst hx; rfl) (by unfold maxLen; omega) (by omega) (by simp; omega) ?_)
      intro v2 x2 hown2 hgrow2 _ hloc2
      obtain ⟨y1, e1, rfl⟩ := own_form hown2 (by omega)
      obtain ⟨G2, hZ2, hV2, hN2⟩ := HZ1.out.step (s := 1) (by decide) (.cells #[.int .i64 (K g).2.2] 3) (v' := .slice (some ⟨y1, 0, none⟩) (g + 1) e1) (by rw [HW1.out]; exact hgrow2) (by
        show x2.ownsRow w4.heap.size 3 1 _ (g + 1) ((List.range g).flatMap (z6R K FM 1) ++ z6R K FM 1 g)
        show x2.ownsRow w4.heap.size 3 1 _ (g + 1) ((List.range g).flatMap (z6R K FM 1) ++ [.int .i64 (K g).2.2])
        exact hown2) (by rw [HW1.out]; exact hloc2)
      have HZ2 := hide hZ2
      have HVn2 := hide hV2
      have HN2 := hide hN2
      have HW2 : Hid ((G2 (.mem 2)).v = .slice b2 g d2) := by rw [HN2.out 2 (by decide), HN1.out 2 (by decide)]; exact HV2.out
      clear hown2 hgrow2 hloc2 hZ2 hV2 hN2 HO p0 hszx c0
      have mv2 : ∀ b, b < w4.heap.size → x2.heap[b]? = w4.heap[b]? := fun b hb => HZ2.out.gr.block b hb (by simp)
      have p0 : x2.cell? ⟨pb, 0, none⟩ = some (.slice (some ⟨gb, 0, none⟩) T gc) := (World.cell?_of_block (mv2 pb (by omega))).trans HR.out.2.2
      have c0 : x2.cell? ⟨gb, g * 8 + 3, none⟩ = some (.slice ma (M g).length mc) := by
        rw [World.cell?_of_block (mv2 gb hglt)]
        rw [← HMV.out]; exact HC.out g hg 3 (by decide)
      have HO : Hid (x2.ownsRow w4.heap.size 22 1 (.slice b2 g d2) g ((List.range g).flatMap (z6R K FM 2))) := by
        have h1 := HZ2.out.own (s := 2) (by decide)
        rw [HW2.out] at h1
        exact h1
      have hszx := HZ2.out.gr.size
      clear mv2
      go_wp2_with (at_builtin; refine wpList_append_own_at _ rfl (.tmp 68) (.tmp 77) 31 rfl w4.heap.size 22 j2 (.slice none 0 0) 1 24 Try.underlying31 hj2 h20 h21 h22 rfl (by decide) (.slice b2 g d2) g ((List.range g).flatMap (z6R K FM 2)) rfl (by exact HO.out.alloc _) ⟨x2.heap.size, 0, none⟩ 1 1 [.slice ma (M g).length mc] rfl rfl (by exact cells_new x2 #[.slice ma (M g).length mc] 22) (by intro x hx; simp at hx; subst hx; rfl) (by unfold maxLen; omega) (by omega) (by simp; omega) ?_)
      intro v3 x3 hown3 hgrow3 _ hloc3
      obtain ⟨y2, e2, rfl⟩ := own_form hown3 (by omega)
      obtain ⟨G3, hZ3, hV3, hN3⟩ := HZ2.out.step (s := 2) (by decide) (.cells #[.slice ma (M g).length mc] 22) (v' := .slice (some ⟨y2, 0, none⟩) (g + 1) e2) (by rw [HW2.out]; exact hgrow3) (by
        show x3.ownsRow w4.heap.size 22 1 _ (g + 1) ((List.range g).flatMap (z6R K FM 2) ++ z6R K FM 2 g)
        rw [show z6R K FM 2 g = [.slice ma (M g).length mc] from by show [(FM _).v] = _; rw [HMV.out]]
        exact hown3) (by rw [HW2.out]; exact hloc3)
      have HZ3 := hide hZ3
      have HVn3 := hide hV3
      have HN3 := hide hN3
      have HW3 : Hid ((G3 (.mem 3)).v = .slice b3 g d3) := by rw [HN3.out 3 (by decide), HN2.out 3 (by decide), HN1.out 3 (by decide)]; exact HV3.out
      clear hown3 hgrow3 hloc3 hZ3 hV3 hN3 HO p0 hszx c0
      have mv3 : ∀ b, b < w4.heap.size → x3.heap[b]? = w4.heap[b]? := fun b hb => HZ3.out.gr.block b hb (by simp)
      have p0 : x3.cell? ⟨pb, 0, none⟩ = some (.slice (some ⟨gb, 0, none⟩) T gc) := (World.cell?_of_block (mv3 pb (by omega))).trans HR.out.2.2
      have c0 : x3.cell? ⟨gb, g * 8 + 6, none⟩ = some (.slice qa (Pt g).length qc) := by
        rw [World.cell?_of_block (mv3 gb hglt)]
        rw [← HQV.out]; exact HC.out g hg 6 (by decide)
      have HO : Hid (x3.ownsRow w4.heap.size 22 1 (.slice b3 g d3) g ((List.range g).flatMap (z6R K FM 3))) := by
        have h1 := HZ3.out.own (s := 3) (by decide)
        rw [HW3.out] at h1
        exact h1
      have hszx := HZ3.out.gr.size
      clear mv3
      go_wp2_with (at_builtin; refine wpList_append_own_at _ rfl (.tmp 79) (.tmp 88) 31 rfl w4.heap.size 22 j2 (.slice none 0 0) 1 24 Try.underlying31 hj2 h20 h21 h22 rfl (by decide) (.slice b3 g d3) g ((List.range g).flatMap (z6R K FM 3)) rfl (by exact HO.out.alloc _) ⟨x3.heap.size, 0, none⟩ 1 1 [.slice qa (Pt g).length qc] rfl rfl (by exact cells_new x3 #[.slice qa (Pt g).length qc] 22) (by intro x hx; simp at hx; subst hx; rfl) (by unfold maxLen; omega) (by omega) (by simp; omega) ?_)
      intro v4 x4 hown4 hgrow4 _ hloc4
      obtain ⟨y3, e3, rfl⟩ := own_form hown4 (by omega)
      obtain ⟨G4, hZ4, hV4, hN4⟩ := HZ3.out.step (s := 3) (by decide) (.cells #[.slice qa (Pt g).length qc] 22) (v' := .slice (some ⟨y3, 0, none⟩) (g + 1) e3) (by rw [HW3.out]; exact hgrow4) (by
        show x4.ownsRow w4.heap.size 22 1 _ (g + 1) ((List.range g).flatMap (z6R K FM 3) ++ z6R K FM 3 g)
        rw [show z6R K FM 3 g = [.slice qa (Pt g).length qc] from by show [(FM _).v] = _; rw [HQV.out]]
        exact hown4) (by rw [HW3.out]; exact hloc4)
      have HZ4 := hide hZ4
      have HVn4 := hide hV4
      have HN4 := hide hN4
      have HW4 : Hid ((G4 (.mem 4)).v = .slice b4 g d4) := by rw [HN4.out 4 (by decide), HN3.out 4 (by decide), HN2.out 4 (by decide), HN1.out 4 (by decide)]; exact HV4.out
      clear hown4 hgrow4 hloc4 hZ4 hV4 hN4 HO p0 hszx c0
      have mv4 : ∀ b, b < w4.heap.size → x4.heap[b]? = w4.heap[b]? := fun b hb => HZ4.out.gr.block b hb (by simp)
      have p0 : x4.cell? ⟨pb, 0, none⟩ = some (.slice (some ⟨gb, 0, none⟩) T gc) := (World.cell?_of_block (mv4 pb (by omega))).trans HR.out.2.2
      have c0 : x4.cell? ⟨gb, g * 8 + 4, none⟩ = some (.int .i64 0) := by
        rw [World.cell?_of_block (mv4 gb hglt)]
        exact HC.out g hg 4 (by decide)
      have c1 : x4.cell? ⟨gb, g * 8 + 5, none⟩ = some (.int .i64 0) := by
        rw [World.cell?_of_block (mv4 gb hglt)]
        exact HC.out g hg 5 (by decide)
      have HO : Hid (x4.ownsRow w4.heap.size 39 2 (.slice b4 g d4) g ((List.range g).flatMap (z6R K FM 4))) := by
        have h1 := HZ4.out.own (s := 4) (by decide)
        rw [HW4.out] at h1
        exact h1
      have hszx := HZ4.out.gr.size
      clear mv4
      go_wp2_with (at_builtin; refine wpList_append_own_at _ rfl (.tmp 90) (.tmp 99) 32 rfl w4.heap.size 39 j9 (.agg #[.int .i64 0, .int .i64 0]) 2 16 Try.underlying32 hj9 h90 h91 h92 rfl (by decide) (.slice b4 g d4) g ((List.range g).flatMap (z6R K FM 4)) rfl (by exact HO.out.alloc _) ⟨x4.heap.size, 0, none⟩ 1 1 [.int .i64 0, .int .i64 0] rfl rfl (by exact cells_new x4 #[.int .i64 0, .int .i64 0] 39) (by intro x hx; simp at hx; subst hx; rfl) (by unfold maxLen; omega) (by omega) (by simp; omega) ?_)
      intro v5 x5 hown5 hgrow5 _ hloc5
      obtain ⟨y4, e4, rfl⟩ := own_form hown5 (by omega)
      obtain ⟨G5, hZ5, hV5, hN5⟩ := HZ4.out.step (s := 4) (by decide) (.cells #[.int .i64 0, .int .i64 0] 39) (v' := .slice (some ⟨y4, 0, none⟩) (g + 1) e4) (by rw [HW4.out]; exact hgrow5) (by
        show x5.ownsRow w4.heap.size 39 2 _ (g + 1) ((List.range g).flatMap (z6R K FM 4) ++ z6R K FM 4 g)
        show x5.ownsRow w4.heap.size 39 2 _ (g + 1) ((List.range g).flatMap (z6R K FM 4) ++ [.int .i64 0, .int .i64 0])
        exact hown5) (by rw [HW4.out]; exact hloc5)
      have HZ5 := hide hZ5
      have HVn5 := hide hV5
      have HN5 := hide hN5
      have HW5 : Hid ((G5 (.mem 5)).v = .slice b5 g d5) := by rw [HN5.out 5 (by decide), HN4.out 5 (by decide), HN3.out 5 (by decide), HN2.out 5 (by decide), HN1.out 5 (by decide)]; exact HV5.out
      clear hown5 hgrow5 hloc5 hZ5 hV5 hN5 HO p0 hszx c0 c1
      have mv5 : ∀ b, b < w4.heap.size → x5.heap[b]? = w4.heap[b]? := fun b hb => HZ5.out.gr.block b hb (by simp)
      have p0 : x5.cell? ⟨pb, 0, none⟩ = some (.slice (some ⟨gb, 0, none⟩) T gc) := (World.cell?_of_block (mv5 pb (by omega))).trans HR.out.2.2
      have c0 : x5.cell? ⟨gb, g * 8 + 7, none⟩ = some (.slice none 0 0) := by
        rw [World.cell?_of_block (mv5 gb hglt)]
        exact HC.out g hg 7 (by decide)
      have HO : Hid (x5.ownsRow w4.heap.size 22 1 (.slice b5 g d5) g ((List.range g).flatMap (z6R K FM 5))) := by
        have h1 := HZ5.out.own (s := 5) (by decide)
        rw [HW5.out] at h1
        exact h1
      have hszx := HZ5.out.gr.size
      clear mv5
      go_wp2_with (at_builtin; refine wpList_append_own_at _ rfl (.tmp 101) (.tmp 110) 31 rfl w4.heap.size 22 j2 (.slice none 0 0) 1 24 Try.underlying31 hj2 h20 h21 h22 rfl (by decide) (.slice b5 g d5) g ((List.range g).flatMap (z6R K FM 5)) rfl (by exact HO.out.alloc _) ⟨x5.heap.size, 0, none⟩ 1 1 [.slice none 0 0] rfl rfl (by exact cells_new x5 #[.slice none 0 0] 22) (by intro x hx; simp at hx; subst hx; rfl) (by unfold maxLen; omega) (by omega) (by simp; omega) ?_)
      intro v6 x6 hown6 hgrow6 _ hloc6
      obtain ⟨y5, e5, rfl⟩ := own_form hown6 (by omega)
      obtain ⟨G6, hZ6, hV6, hN6⟩ := HZ5.out.step (s := 5) (by decide) (.cells #[.slice none 0 0] 22) (v' := .slice (some ⟨y5, 0, none⟩) (g + 1) e5) (by rw [HW5.out]; exact hgrow6) (by
        show x6.ownsRow w4.heap.size 22 1 _ (g + 1) ((List.range g).flatMap (z6R K FM 5) ++ z6R K FM 5 g)
        show x6.ownsRow w4.heap.size 22 1 _ (g + 1) ((List.range g).flatMap (z6R K FM 5) ++ [.slice none 0 0])
        exact hown6) (by rw [HW5.out]; exact hloc6)
      have HZ6 := hide hZ6
      have HVn6 := hide hV6
      have HN6 := hide hN6
      clear hown6 hgrow6 hloc6 hZ6 hV6 hN6 HO p0 hszx c0
      go_wp2_with fail
      go_roundg (T - (g + 1))
      case measure => omega
      case rel =>
        refine ⟨g + 1, G6, by simp, by omega, HZ6.out.next, ?_, ?_, ?_, ?_, ?_, ?_⟩
        · rw [HN6.out 0 (by decide), HN5.out 0 (by decide), HN4.out 0 (by decide), HN3.out 0 (by decide), HN2.out 0 (by decide)]; exact HVn1.out.symm
        · rw [HN6.out 1 (by decide), HN5.out 1 (by decide), HN4.out 1 (by decide), HN3.out 1 (by decide)]; exact HVn2.out.symm
        · rw [HN6.out 2 (by decide), HN5.out 2 (by decide), HN4.out 2 (by decide)]; exact HVn3.out.symm
        · rw [HN6.out 3 (by decide), HN5.out 3 (by decide)]; exact HVn4.out.symm
        · rw [HN6.out 4 (by decide)]; exact HVn5.out.symm
        · exact HVn6.out.symm
    · have hgz : ¬ ((g : Int) < (T : Int)) := by omega
      obtain rfl : g = T := by omega
      have q3 : wr.cell? ⟨pb, 3, none⟩ = some (.slice ra (n + parts) rc) := (World.cell?_of_block (mv0 pb (by omega))).trans HR.out.1
      have q1 : wr.cell? ⟨pb, 1, none⟩ = some (.int .i64 ((fs key n).length : Int)) := (World.cell?_of_block (mv0 pb (by omega))).trans HR.out.2.1
      clear mv0
      go_wp2_with fail
      go_quiet (fail)
      go_wp2_with fail
      refine bodyPost_ret (v := .tuple #[.slice ra (n + parts) rc, .int .i64 ((fs key n).length : Int), .slice b0 g d0, .slice b1 g d1, .slice b2 g d2, .slice b3 g d3, .slice b4 g d4, .slice b5 g d5]) (by simp [results, Try.results18]) rfl ?_
      obtain rfl : bG key ln n (fs key n).length = g := HT.out
      refine ⟨ra, rc, b0, d0, b1, d1, b2, d2, b3, d3, b4, d4, b5, d5, K, M, Pt, gr, rfl, HP.out, ?_, grown_drewN (HGW.out.trans HZ.out.gr) _⟩
      exact (HZ.out.out HM.out HRV.out HV0.out HV1.out HV2.out HV3.out HV4.out HV5.out).move (fun _ _ => rfl)
end Go.Proofs.Qxb6603801a
