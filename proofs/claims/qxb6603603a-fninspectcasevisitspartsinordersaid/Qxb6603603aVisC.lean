import Derived.Test.Qxb6603603aSt
/- The visitor of ZZinspectCaseOfColumns, and Inspect at a CASE. -/
namespace Go.Proofs.Qxb6603603a
open Go.RowKit

/-- every block that holds neither strings nor ints is as it was, but for two of the visitor's variables -/
def Kind (S O : Nat) (w w' : World) : Prop := ∀ i c t fr, w.heap[i]? = some (.cells c t fr) → t ≠ 9 → t ≠ 3 → i ≠ S → i ≠ O → w'.heap[i]? = w.heap[i]?
theorem Kind.refl (S O : Nat) (w : World) : Kind S O w w := fun _ _ _ _ _ _ _ _ _ => rfl
theorem Kind.trans {S O : Nat} {a b c : World} (h : Kind S O a b) (k : Kind S O b c) : Kind S O a c := fun i c t fr h0 h1 h2 h3 h4 => by
  have e := h i c t fr h0 h1 h2 h3 h4
  rw [k i c t fr (by rw [e]; exact h0) h1 h2 h3 h4]; exact e
theorem Kind.first {H V S O : Nat} {w : World} {k : Nat} {names : List ByteArray} {oth : List Int} (h : Vis H V S O w k names oth) (v : Value) : Kind S O w (w.setCell ⟨V, 0, none⟩ v) := fun i c t fr h0 _ h2 _ _ => by
  refine Below.heap_setCell _ _ _ _ fun e => ?_
  subst e
  have hv := h.v
  rw [h0] at hv
  simp at hv
  exact h2 hv.2.1
theorem Kind.grown {S O : Nat} {w1 w2 : World} {sv v : Value} {H n : Nat} {xs : List Value} (b : Nat) (hb : b = S ∨ b = O) (e : Nat) (he : e = 9 ∨ e = 3) (hown : w1.ownsRow H e 1 sv n xs)
    (hg : ∀ i, i < w1.heap.size → (∀ g, sv.ownBlock = some g → g ≠ i) → w2.heap[i]? = w1.heap[i]?) : Kind S O w1 (w2.setCell ⟨b, 0, none⟩ v) := fun i c t fr h0 h1 h2 h3 h4 => by
  rw [Below.heap_setCell _ _ _ _ (by rcases hb with rfl | rfl; exact h3; exact h4)]
  refine hg i (lt_of_block h0) fun g hg' e' => ?_
  subst e'
  obtain ⟨_, cur, hh⟩ := own_blk hown hg'
  rw [h0] at hh
  simp at hh
  rcases he with rfl | rfl
  · exact h1 hh.2.1
  · exact h2 hh.2.1

theorem ta_46_34 (x : Option Addr) (w : World) : (Instr.typeAssert (.iface 46 (.pointer x)) 38 34 true).run Try.prog w = .ok (.tuple #[.pointer none, .bool false]) w := by kernel_rfl

set_option maxHeartbeats 400000 in
theorem vc_leaf {H V S O : Nat} {w : World} {k : Nat} {names : List ByteArray} {oth : List Int} (h : Hid (Vis H V S O w k names oth)) (p : Nat) (nm : ByteArray)
    (hpV : p ≠ V) (hc : w.cell? ⟨p, 2, none⟩ = some (.string nm)) (hk : k ≤ 1000000) (hn : names.length ≤ 1000000) :
    Calls Try.prog 16 #[.iface 34 (.pointer (some ⟨p, 0, none⟩)), .pointer (some ⟨V, 0, none⟩), .pointer (some ⟨S, 0, none⟩), .pointer (some ⟨O, 0, none⟩)] w fun e w' =>
      e = .returned (.bool true) ∧ Vis H V S O w' (k + 1) (names ++ [nm]) oth ∧ Keep H V S O w w' ∧ Kind S O w w' := by
  obtain ⟨i0, hi, hz0, hz1, hz2⟩ := info_parts Try.info9
  have hv := cell_of_one h.out.v
  have hvf := free_of_one h.out.v
  obtain ⟨sv, hS, hown⟩ := h.out.s
  have hs := cell_of_one hS
  have hsf := free_of_one hS
  have HS : Hid (w.heap[S]? = some (.cells #[sv] 22 (0, 0))) := hS
  have HOWN : Hid (w.ownsRow H 9 1 sv names.length (names.map Value.string)) := hown
  clear hS hown
  have h1 := h.out.vs
  have h2 := h.out.vo
  have h3 := h.out.so
  have ta := ta_34_34
  have HN : Hid (names.length ≤ 1000000) := hn
  have H1 : Hid (V ≠ S) := h1
  clear h1 h2 h3 hn hs hsf
  have hc1 : (w.setCell ⟨V, 0, none⟩ (.int .i64 ((k : Int) + 1))).cell? ⟨p, 2, none⟩ = some (.string nm) := by
    rw [World.cell?_of_block (w := w) (Below.heap_setCell _ _ _ _ hpV)]; exact hc
  have hS1 : (w.setCell ⟨V, 0, none⟩ (.int .i64 ((k : Int) + 1))).heap[S]? = some (.cells #[sv] 22 (0, 0)) := by
    rw [Below.heap_setCell _ _ _ _ (fun e => H1.out e.symm)]; exact HS.out
  have HC1 : Hid ((w.setCell ⟨V, 0, none⟩ (.int .i64 ((k : Int) + 1))).cell? ⟨p, 2, none⟩ = some (.string nm)) := hc1
  have HS1 : Hid ((w.setCell ⟨V, 0, none⟩ (.int .i64 ((k : Int) + 1))).heap[S]? = some (.cells #[sv] 22 (0, 0))) := hS1
  clear hc1 hS1 hc
  go_enter Try.func16, Try.ntmps16
  go_wp2
  generalize hw1 : w.setCell ⟨V, 0, none⟩ (.int .i64 ((k : Int) + 1)) = w1 at *
  have hc1 := HC1.out
  have hs1 := cell_of_one HS1.out
  have hsf1 := free_of_one HS1.out
  have HW1 : Hid (w.setCell ⟨V, 0, none⟩ (.int .i64 ((k : Int) + 1)) = w1) := hw1
  clear hw1
  have hsz1 : H ≤ w1.heap.size := by have := h.out.size; rw [← HW1.out]; simpa using this
  have HV1 : Hid (Vis H V S O w1 (k + 1) names oth ∧ Keep H V S O w w1) := by have := h.out.first; rw [HW1.out] at this; exact this
  have hown1 : Hid (w1.ownsRow H 9 1 sv names.length (names.map Value.string)) := by have := ownsRow_setCell_below HOWN.out h.out.ltV (a := ⟨V, 0, none⟩) (.int .i64 ((k : Int) + 1)); rw [HW1.out] at this; exact this
  have hs1' : (w1.alloc (.cells #[.string nm] 9)).cell? ⟨S, 0, none⟩ = some sv := by rw [World.cell?_of_block (w := w1) (Below.heap_alloc w1 _ _ (Nat.lt_of_lt_of_le h.out.ltS hsz1))]; exact hs1
  go_region_law (refine step_append_own rfl (.tmp 18) (.tmp 23) 22 rfl H 9 i0 (.string ByteArray.empty) 1 16 Try.underlying22 hi hz0 hz1 hz2 rfl (by decide) sv names.length (names.map Value.string) rfl (by exact (hown1.out.alloc _).drew) ⟨w1.heap.size, 0, none⟩ 1 1 [.string nm] rfl rfl (by intro t u ht; match t, ht with | 0, ht => simp at ht; subst ht; simp [Addr.add]) (by intro u hu; simp at hu; subst hu; rfl) (by unfold maxLen; have := HN.out; omega) (by have := HN.out; omega) (by simp; omega) (by decide) ?_; intro g2 cap2 w2 hown2 hgrow2; have hS2 : w2.heap[S]? = some (.cells #[sv] 22 (0, 0)) := by { rw [grown_blk hgrow2 (Nat.lt_of_lt_of_le h.out.ltS hsz1) (fun g hg e => by have := (own_blk hown1.out hg).1; have := h.out.ltS; omega)]; exact HS1.out }; have hs2 := cell_of_one hS2; have hsf2 := free_of_one hS2)
  all_goals
    go_wp2
    go_ret
    obtain ⟨r1, r2⟩ := HV1.out.1.seen HS1.out hown1.out (fun i h1 h2 => grown_blk hgrow2 h1 h2) hgrow2.os hgrow2.tape hgrow2.output (Nat.le_trans (by simp) hgrow2.size) hown2
    refine ⟨rfl, r1, HV1.out.2.trans r2, Kind.trans ?_ (Kind.grown S (.inl rfl) 9 (.inl rfl) hown1.out (fun i h1 h2 => grown_blk hgrow2 h1 h2))⟩
    rw [← HW1.out]
    exact Kind.first h.out _

set_option maxHeartbeats 400000 in
theorem vc_root {H V S O : Nat} {w : World} {k : Nat} {names : List ByteArray} {oth : List Int} (h : Hid (Vis H V S O w k names oth)) (x : Option Addr)
    (hk : k ≤ 1000000) (hn : oth.length ≤ 1000000) :
    Calls Try.prog 16 #[.iface 46 (.pointer x), .pointer (some ⟨V, 0, none⟩), .pointer (some ⟨S, 0, none⟩), .pointer (some ⟨O, 0, none⟩)] w fun e w' =>
      e = .returned (.bool true) ∧ Vis H V S O w' (k + 1) names (oth ++ [(k : Int)]) ∧ Keep H V S O w w' := by
  obtain ⟨i0, hi, hz0, hz1, hz2⟩ := info_parts Try.info3
  have hv := cell_of_one h.out.v
  have hvf := free_of_one h.out.v
  obtain ⟨ov, hO, hown⟩ := h.out.o
  have ta := ta_46_34
  have HO : Hid (w.heap[O]? = some (.cells #[ov] 25 (0, 0))) := hO
  have HOWN : Hid (w.ownsRow H 3 1 ov oth.length (oth.map (Value.int .i64))) := hown
  have HN : Hid (oth.length ≤ 1000000) := hn
  clear hO hown hn
  have hO1 : (w.setCell ⟨V, 0, none⟩ (.int .i64 ((k : Int) + 1))).heap[O]? = some (.cells #[ov] 25 (0, 0)) := by
    rw [Below.heap_setCell _ _ _ _ h.out.vo.symm]; exact HO.out
  have HO1 : Hid ((w.setCell ⟨V, 0, none⟩ (.int .i64 ((k : Int) + 1))).heap[O]? = some (.cells #[ov] 25 (0, 0))) := hO1
  have hcO := cell_of_one hO1
  clear hO1
  go_enter Try.func16, Try.ntmps16
  go_wp2_with (at_builtin; refine wpList_append_own _ rfl (.tmp 25) (.tmp 27) 25 rfl H 3 i0 (.int .i64 0) 1 8 Try.underlying25 hi hz0 hz1 hz2 rfl (by decide) ov oth.length (oth.map (Value.int .i64)) rfl (by exact (ownsRow_setCell_below HOWN.out h.out.ltV _).alloc _) ⟨w.heap.size, 0, none⟩ 1 1 [.int .i64 (k : Int)] rfl rfl ?c1 ?c2 ?c3 ?c4 ?c5 ?_)
  case c1 =>
    have e := cell_one_new (w.setCell ⟨V, 0, none⟩ (.int .i64 ((k : Int) + 1))) (.int .i64 (k : Int)) 3
    rw [World.heap_size_setCell'] at e
    exact e
  case c2 => intro u hu; simp at hu; subst hu; rfl
  case c3 => unfold maxLen; have := HN.out; omega
  case c4 => have := HN.out; omega
  case c5 => have := h.out.size; simp; omega
  intro v' w2 hown2 hgrow2 _
  obtain ⟨g2, cap2, rfl⟩ := own_form hown2 (by omega)
  have hsz1 : H ≤ (w.setCell ⟨V, 0, none⟩ (.int .i64 ((k : Int) + 1))).heap.size := by have := h.out.size; simpa using this
  have hb2 : ∀ i, i < H → w2.heap[i]? = (w.setCell ⟨V, 0, none⟩ (.int .i64 ((k : Int) + 1))).heap[i]? := fun i hi => grown_blk' hgrow2 (Nat.lt_of_lt_of_le hi hsz1) (fun g hg e => by have := (own_blk HOWN.out hg).1; omega)
  have hO2 : w2.heap[O]? = some (.cells #[ov] 25 (0, 0)) := by rw [hb2 O h.out.ltO]; exact HO1.out
  have hcO2 := cell_of_one hO2
  have hfO2 := free_of_one hO2
  obtain ⟨r1, r2⟩ := h.out.first
  obtain ⟨r3, r4⟩ := r1.other HO1.out (ownsRow_setCell_below HOWN.out h.out.ltV _) (fun i h1 h2 => grown_blk' hgrow2 h1 h2) hgrow2.os hgrow2.tape hgrow2.output (Nat.le_trans (by simp) hgrow2.size) hown2
  have HR : Hid (Vis H V S O (w2.setCell ⟨O, 0, none⟩ (.slice (some ⟨g2, 0, none⟩) (oth.length + 1) cap2)) (k + 1) names (oth ++ [(k : Int)]) ∧ Keep H V S O w (w2.setCell ⟨O, 0, none⟩ (.slice (some ⟨g2, 0, none⟩) (oth.length + 1) cap2))) := ⟨r3, r2.trans r4⟩
  clear r1 r2 r3 r4 hb2 hO2
  go_wp2
  go_ret
  exact ⟨rfl, HR.out⟩
end Go.Proofs.Qxb6603603a
