import Derived.Test.Qxb6603603aRows
import Derived.WalkKit
import Derived.WalkSpells
import Derived.WalkLawsBesides
import Derived.Deep.RegionLaw
namespace Go.Proofs.Qxb6603603a
open Go.RowKit

theorem Try.info9 : (Try.prog.info? 9).map (fun i => (i.zero, i.size, i.bytes)) = some (some (.string ByteArray.empty), 1, 16) := by kernel_rfl
theorem Try.info3 : (Try.prog.info? 3).map (fun i => (i.zero, i.size, i.bytes)) = some (some (.int .i64 0), 1, 8) := by kernel_rfl

/-- an append to a row of the call's own, as one step of a region that draws -/
theorem step_append_own {P : Program} {ops : Array Oper} {o : Oper} {a : Act} {w : World} {K : Act → World → Prop} {Q : Exit → Act → World → Prop} {E : Prop}
    (hg : o.guard = none) (s x : Operand) (t : TypeId) (hop : o.op = Op.call { callee := Callee.builtin Builtin.append, args := #[s, x], argTypes := #[t, t] })
    (base : Nat) (e : TypeId) (i : TypeInfo) (z : Value) (size bytes : Nat) (ht : P.underlying t = some (.slice e)) (hi : P.info? e = some i) (hz : i.zero = some z)
    (hsize : i.size = size) (hby : i.bytes = bytes) (hzs : z.cells.size = size) (hsz : 0 < size)
    (v : Value) (n : Nat) (xs : List Value) (hs : a.eval s = v) (hown : w.ownsRow base e size v n xs)
    (ad : Addr) (m c : Nat) (news : List Value) (hx : a.eval x = .slice (some ad) m c) (hl : news.length = m * size) (hnews : ∀ j u, news[j]? = some u → w.cell? (ad.add j) = some u) (h1 : ∀ u ∈ news, u.oneCell' = true)
    (h63 : n + m ≤ maxLen) (hbytes : (n + m) * bytes ≤ 140737488355328) (hbase : base ≤ w.heap.size) (hm : 0 < m)
    (hK : ∀ g cap w', w'.ownsRow base e size (.slice (some ⟨g, 0, none⟩) (n + m) cap) (n + m) (xs ++ news) → w.grownBy w' v.ownBlock → K (a.put o.dst (.slice (some ⟨g, 0, none⟩) (n + m) cap)) w') :
    if Region.wanted o (yielded ops a.tmps) = true then Oper.wp P o a w K Q else E := by
  have hw : Region.wanted o (yielded ops a.tmps) = true := by simp [Region.wanted, hg]
  rw [if_pos hw]
  obtain ⟨v', w', hr, h2, h3, h4⟩ := run_append_own (P := P) w base t o.type e i z size bytes ht hi hz hsize hby hzs hsz v n xs hown ad m c news hl hnews h1 h63 hbytes hbase
  obtain ⟨g, cap, rfl⟩ : ∃ g cap, v' = .slice (some ⟨g, 0, none⟩) (n + m) cap := by
    obtain ⟨_, h5⟩ := h2
    rcases h5 with ⟨_, h6⟩ | ⟨g, cap, cur, h6, _⟩
    · omega
    · exact ⟨g, cap, h6⟩
  unfold Oper.wp
  simp [execOp, hop, resolve, invoke, builtin, hs, hx, hr, Result.andThen]
  exact hK g cap w' h2 h3

theorem ta_34_34 (x : Option Addr) (w : World) : (Instr.typeAssert (.iface 34 (.pointer x)) 38 34 true).run Try.prog w = .ok (.tuple #[.pointer x, .bool true]) w := by kernel_rfl

/-- what the visitor's captured variables hold: V: how many visits; S: the names seen; O: the other visits' places. H: the heap's size as Inspect began. -/
structure Vis (H V S O : Nat) (w : World) (k : Nat) (names : List ByteArray) (oth : List Int) : Prop where
  ltV : V < H
  ltS : S < H
  ltO : O < H
  vs : V ≠ S
  vo : V ≠ O
  so : S ≠ O
  size : H ≤ w.heap.size
  v : w.heap[V]? = some (.cells #[.int .i64 (k : Int)] 3 (0, 0))
  s : ∃ sv, w.heap[S]? = some (.cells #[sv] 22 (0, 0)) ∧ w.ownsRow H 9 1 sv names.length (names.map Value.string)
  o : ∃ ov, w.heap[O]? = some (.cells #[ov] 25 (0, 0)) ∧ w.ownsRow H 3 1 ov oth.length (oth.map (Value.int .i64))

/-- what was there as Inspect began is as it was, but for the three variables -/
structure Keep (H V S O : Nat) (w w' : World) : Prop where
  os : w'.os = w.os
  tape : w'.tape = w.tape
  output : w'.output = w.output
  size : w.heap.size ≤ w'.heap.size
  block : ∀ i, i < H → i ≠ V → i ≠ S → i ≠ O → w'.heap[i]? = w.heap[i]?

theorem own_blk {w : World} {H e size n : Nat} {v : Value} {xs : List Value} (h : w.ownsRow H e size v n xs) {g : Nat} (hg : v.ownBlock = some g) : H ≤ g ∧ ∃ cur, w.heap[g]? = some (.cells cur e (0, 0)) := by
  obtain ⟨_, h2⟩ := h
  rcases h2 with ⟨rfl, _⟩ | ⟨g', cap, cur, rfl, hb, hh, _⟩
  · cases hg
  · simp only [Value.ownBlock, Option.some.injEq] at hg
    subst hg
    exact ⟨hb, cur, hh⟩

theorem own_move {w w' : World} {H e size n : Nat} {v : Value} {xs : List Value} (h : w.ownsRow H e size v n xs) (hb : ∀ g, v.ownBlock = some g → w'.heap[g]? = w.heap[g]?) : w'.ownsRow H e size v n xs := by
  obtain ⟨h1, h2⟩ := h
  refine ⟨h1, ?_⟩
  rcases h2 with h2 | ⟨g, cap, cur, rfl, hg, hh, r⟩
  · exact .inl h2
  · exact .inr ⟨g, cap, cur, rfl, hg, by rw [hb g rfl]; exact hh, r⟩

theorem own_diff {w : World} {H e e' size size' n n' : Nat} {v v' : Value} {xs xs' : List Value} (h : w.ownsRow H e size v n xs) (h' : w.ownsRow H e' size' v' n' xs') (hne : e ≠ e') : ∀ g, v.ownBlock = some g → v'.ownBlock ≠ some g := by
  intro g hg hg'
  obtain ⟨_, cur, h1⟩ := own_blk h hg
  obtain ⟨_, cur', h2⟩ := own_blk h' hg'
  rw [h1] at h2
  simp at h2
  exact hne h2.2

/-- a step of the visitor: a new block, then a row of its own that grows -/
theorem grown_blk {w1 w2 : World} {X : Obj} {sv : Value} (hg : ((w1.alloc X).drew).grownBy w2 sv.ownBlock) {i : Nat} (hi : i < w1.heap.size) (hne : ∀ g, sv.ownBlock = some g → g ≠ i) : w2.heap[i]? = w1.heap[i]? := by
  rw [hg.block i (by show i < (w1.heap.push X).size; simp; omega) (fun he => hne i he.symm rfl)]
  exact Below.heap_alloc w1 X i hi

theorem grown_blk' {w1 w2 : World} {X : Obj} {sv : Value} (hg : (w1.alloc X).grownBy w2 sv.ownBlock) {i : Nat} (hi : i < w1.heap.size) (hne : ∀ g, sv.ownBlock = some g → g ≠ i) : w2.heap[i]? = w1.heap[i]? := by
  rw [hg.block i (by show i < (w1.heap.push X).size; simp; omega) (fun he => hne i he.symm rfl)]
  exact Below.heap_alloc w1 X i hi

theorem Vis.first {H V S O : Nat} {w : World} {k : Nat} {names : List ByteArray} {oth : List Int} (h : Vis H V S O w k names oth) : Vis H V S O (w.setCell ⟨V, 0, none⟩ (.int .i64 ((k : Int) + 1))) (k + 1) names oth ∧ Keep H V S O w (w.setCell ⟨V, 0, none⟩ (.int .i64 ((k : Int) + 1))) := by
  obtain ⟨sv, hS, hso⟩ := h.s
  obtain ⟨ov, hO, hoo⟩ := h.o
  refine ⟨⟨h.ltV, h.ltS, h.ltO, h.vs, h.vo, h.so, by simpa using h.size, by simpa using one_setCell h.v, ⟨sv, ?_, ?_⟩, ⟨ov, ?_, ?_⟩⟩, ⟨rfl, rfl, rfl, by simp, fun i _ h1 _ _ => Below.heap_setCell _ _ _ _ h1⟩⟩
  · rw [Below.heap_setCell _ _ _ _ h.vs.symm]; exact hS
  · exact ownsRow_setCell_below hso h.ltV _
  · rw [Below.heap_setCell _ _ _ _ h.vo.symm]; exact hO
  · exact ownsRow_setCell_below hoo h.ltV _

theorem Keep.trans {H V S O : Nat} {a b c : World} (h : Keep H V S O a b) (k : Keep H V S O b c) : Keep H V S O a c :=
  ⟨k.os.trans h.os, k.tape.trans h.tape, k.output.trans h.output, Nat.le_trans h.size k.size, fun i h1 h2 h3 h4 => (k.block i h1 h2 h3 h4).trans (h.block i h1 h2 h3 h4)⟩

/-- the names' row has grown by one, and its variable is written -/
theorem Vis.seen {H V S O : Nat} {w w2 : World} {k : Nat} {names : List ByteArray} {oth : List Int} {sv v' : Value} {nm : ByteArray} (h : Vis H V S O w k names oth) (hS : w.heap[S]? = some (.cells #[sv] 22 (0, 0))) (hown : w.ownsRow H 9 1 sv names.length (names.map Value.string))
    (hb : ∀ i, i < w.heap.size → (∀ g, sv.ownBlock = some g → g ≠ i) → w2.heap[i]? = w.heap[i]?) (hos : w2.os = w.os) (htape : w2.tape = w.tape) (hout : w2.output = w.output) (hsz : w.heap.size ≤ w2.heap.size)
    (hown2 : w2.ownsRow H 9 1 v' (names.length + 1) (names.map Value.string ++ [.string nm])) :
    Vis H V S O (w2.setCell ⟨S, 0, none⟩ v') k (names ++ [nm]) oth ∧ Keep H V S O w (w2.setCell ⟨S, 0, none⟩ v') := by
  obtain ⟨ov, hO, hoo⟩ := h.o
  have hlow : ∀ i, i < H → w2.heap[i]? = w.heap[i]? := fun i hi => hb i (Nat.lt_of_lt_of_le hi h.size) (fun g hg e => by have := (own_blk hown hg).1; omega)
  refine ⟨⟨h.ltV, h.ltS, h.ltO, h.vs, h.vo, h.so, by simpa using Nat.le_trans h.size hsz, ?_, ⟨v', ?_, ?_⟩, ⟨ov, ?_, ?_⟩⟩, ⟨hos, htape, hout, by simpa using hsz, fun i h1 _ h3 _ => ?_⟩⟩
  · rw [Below.heap_setCell _ _ _ _ h.vs, hlow V h.ltV]; exact h.v
  · exact one_setCell (v := sv) (by rw [hlow S h.ltS]; exact hS)
  · have := ownsRow_setCell_below hown2 h.ltS (a := ⟨S, 0, none⟩) v'
    simpa using this
  · rw [Below.heap_setCell _ _ _ _ h.so.symm, hlow O h.ltO]; exact hO
  · refine ownsRow_setCell_below (own_move hoo fun g hg => ?_) h.ltS _
    obtain ⟨_, cur, hh⟩ := own_blk hoo hg
    exact hb g (lt_of_block hh) (fun g' hg' e => own_diff hown hoo (by decide) g' hg' (by rw [e]; exact hg))
  · rw [Below.heap_setCell _ _ _ _ h3]; exact hlow i h1

set_option maxHeartbeats 400000 in
theorem vis_leaf {H V S O D : Nat} {w : World} {k : Nat} {names : List ByteArray} {oth : List Int} (h : Hid (Vis H V S O w k names oth)) (p : Nat) (nm : ByteArray)
    (hpV : p ≠ V) (hc : w.cell? ⟨p, 2, none⟩ = some (.string nm)) (hk : k ≤ 1000000) (hn : names.length ≤ 1000000) :
    Calls Try.prog 15 #[.iface 34 (.pointer (some ⟨p, 0, none⟩)), .pointer (some ⟨V, 0, none⟩), .pointer (some ⟨S, 0, none⟩), .pointer (some ⟨O, 0, none⟩), .pointer (some ⟨D, 0, none⟩)] w fun e w' =>
      e = .returned (.bool true) ∧ Vis H V S O w' (k + 1) (names ++ [nm]) oth ∧ Keep H V S O w w' := by
  obtain ⟨i0, hi, hz0, hz1, hz2⟩ := info_parts Try.info9
  have hv := cell_of_one h.out.v
  have hvf := free_of_one h.out.v
  obtain ⟨sv, hS, hown⟩ := h.out.s
  have hs := cell_of_one hS
  have hsf := free_of_one hS
  have HS : Hid (w.heap[S]? = some (.cells #[sv] 22 (0, 0))) := hS
  have HOWN : Hid (w.ownsRow H 9 1 sv names.length (names.map Value.string)) := hown
  clear hS hown
  have h1 := h.out.vs
  have h2 := h.out.vo
  have h3 := h.out.so
  have ta := ta_34_34
  have HN : Hid (names.length ≤ 1000000) := hn
  have H1 : Hid (V ≠ S) := h1
  clear h1 h2 h3 hn hs hsf
  have hc1 : (w.setCell ⟨V, 0, none⟩ (.int .i64 ((k : Int) + 1))).cell? ⟨p, 2, none⟩ = some (.string nm) := by
    rw [World.cell?_of_block (w := w) (Below.heap_setCell _ _ _ _ hpV)]; exact hc
  have hS1 : (w.setCell ⟨V, 0, none⟩ (.int .i64 ((k : Int) + 1))).heap[S]? = some (.cells #[sv] 22 (0, 0)) := by
    rw [Below.heap_setCell _ _ _ _ (fun e => H1.out e.symm)]; exact HS.out
  have HC1 : Hid ((w.setCell ⟨V, 0, none⟩ (.int .i64 ((k : Int) + 1))).cell? ⟨p, 2, none⟩ = some (.string nm)) := hc1
  have HS1 : Hid ((w.setCell ⟨V, 0, none⟩ (.int .i64 ((k : Int) + 1))).heap[S]? = some (.cells #[sv] 22 (0, 0))) := hS1
  clear hc1 hS1 hc
  go_enter Try.func15, Try.ntmps15
  go_wp2
  generalize hw1 : w.setCell ⟨V, 0, none⟩ (.int .i64 ((k : Int) + 1)) = w1 at *
  have hc1 := HC1.out
  have hs1 := cell_of_one HS1.out
  have hsf1 := free_of_one HS1.out
  have HW1 : Hid (w.setCell ⟨V, 0, none⟩ (.int .i64 ((k : Int) + 1)) = w1) := hw1
  clear hw1
  have hsz1 : H ≤ w1.heap.size := by have := h.out.size; rw [← HW1.out]; simpa using this
  have HV1 : Hid (Vis H V S O w1 (k + 1) names oth ∧ Keep H V S O w w1) := by have := h.out.first; rw [HW1.out] at this; exact this
  have hown1 : Hid (w1.ownsRow H 9 1 sv names.length (names.map Value.string)) := by have := ownsRow_setCell_below HOWN.out h.out.ltV (a := ⟨V, 0, none⟩) (.int .i64 ((k : Int) + 1)); rw [HW1.out] at this; exact this
  have hs1' : (w1.alloc (.cells #[.string nm] 9)).cell? ⟨S, 0, none⟩ = some sv := by rw [World.cell?_of_block (w := w1) (Below.heap_alloc w1 _ _ (Nat.lt_of_lt_of_le h.out.ltS hsz1))]; exact hs1
  go_region_law (refine step_append_own rfl (.tmp 19) (.tmp 24) 22 rfl H 9 i0 (.string ByteArray.empty) 1 16 Try.underlying22 hi hz0 hz1 hz2 rfl (by decide) sv names.length (names.map Value.string) rfl (by exact (hown1.out.alloc _).drew) ⟨w1.heap.size, 0, none⟩ 1 1 [.string nm] rfl rfl (by intro t u ht; match t, ht with | 0, ht => simp at ht; subst ht; simp [Addr.add]) (by intro u hu; simp at hu; subst hu; rfl) (by unfold maxLen; have := HN.out; omega) (by have := HN.out; omega) (by simp; omega) (by decide) ?_; intro g2 cap2 w2 hown2 hgrow2; have hS2 : w2.heap[S]? = some (.cells #[sv] 22 (0, 0)) := by { rw [grown_blk hgrow2 (Nat.lt_of_lt_of_le h.out.ltS hsz1) (fun g hg e => by have := (own_blk hown1.out hg).1; have := h.out.ltS; omega)]; exact HS1.out }; have hs2 := cell_of_one hS2; have hsf2 := free_of_one hS2)
  all_goals
    go_wp2
    go_ret
    obtain ⟨r1, r2⟩ := HV1.out.1.seen HS1.out hown1.out (fun i h1 h2 => grown_blk hgrow2 h1 h2) hgrow2.os hgrow2.tape hgrow2.output (Nat.le_trans (by simp) hgrow2.size) hown2
    exact ⟨rfl, r1, HV1.out.2.trans r2⟩

/-- the other visits' row has grown by one, and its variable is written -/
theorem Vis.other {H V S O : Nat} {w w2 : World} {k : Nat} {names : List ByteArray} {oth : List Int} {ov v' : Value} {x : Int} (h : Vis H V S O w k names oth) (hO : w.heap[O]? = some (.cells #[ov] 25 (0, 0))) (hown : w.ownsRow H 3 1 ov oth.length (oth.map (Value.int .i64)))
    (hb : ∀ i, i < w.heap.size → (∀ g, ov.ownBlock = some g → g ≠ i) → w2.heap[i]? = w.heap[i]?) (hos : w2.os = w.os) (htape : w2.tape = w.tape) (hout : w2.output = w.output) (hsz : w.heap.size ≤ w2.heap.size)
    (hown2 : w2.ownsRow H 3 1 v' (oth.length + 1) (oth.map (Value.int .i64) ++ [.int .i64 x])) :
    Vis H V S O (w2.setCell ⟨O, 0, none⟩ v') k names (oth ++ [x]) ∧ Keep H V S O w (w2.setCell ⟨O, 0, none⟩ v') := by
  obtain ⟨sv, hS, hso⟩ := h.s
  have hlow : ∀ i, i < H → w2.heap[i]? = w.heap[i]? := fun i hi => hb i (Nat.lt_of_lt_of_le hi h.size) (fun g hg e => by have := (own_blk hown hg).1; omega)
  refine ⟨⟨h.ltV, h.ltS, h.ltO, h.vs, h.vo, h.so, by simpa using Nat.le_trans h.size hsz, ?_, ⟨sv, ?_, ?_⟩, ⟨v', ?_, ?_⟩⟩, ⟨hos, htape, hout, by simpa using hsz, fun i h1 _ _ h4 => ?_⟩⟩
  · rw [Below.heap_setCell _ _ _ _ h.vo, hlow V h.ltV]; exact h.v
  · rw [Below.heap_setCell _ _ _ _ h.so, hlow S h.ltS]; exact hS
  · refine ownsRow_setCell_below (own_move hso fun g hg => ?_) h.ltO _
    obtain ⟨_, cur, hh⟩ := own_blk hso hg
    exact hb g (lt_of_block hh) (fun g' hg' e => own_diff hown hso (by decide) g' hg' (by rw [e]; exact hg))
  · exact one_setCell (v := ov) (by rw [hlow O h.ltO]; exact hO)
  · have := ownsRow_setCell_below hown2 h.ltO (a := ⟨O, 0, none⟩) v'
    simpa using this
  · rw [Below.heap_setCell _ _ _ _ h4]; exact hlow i h1

/-- an owned row that is not empty has the form of a slice -/
theorem own_form {w : World} {H e size n : Nat} {v : Value} {xs : List Value} (h : w.ownsRow H e size v n xs) (hn : 0 < n) : ∃ g cap, v = .slice (some ⟨g, 0, none⟩) n cap := by
  obtain ⟨_, h5⟩ := h
  rcases h5 with ⟨_, h6⟩ | ⟨g, cap, cur, h6, _⟩
  · omega
  · exact ⟨g, cap, h6⟩

theorem World.heap_size_setCell' (w : World) (a : Addr) (v : Value) : (w.setCell a v).heap.size = w.heap.size := by simp

theorem ta_40_34 (x : Option Addr) (w : World) : (Instr.typeAssert (.iface 40 (.pointer x)) 38 34 true).run Try.prog w = .ok (.tuple #[.pointer none, .bool false]) w := by kernel_rfl

set_option maxHeartbeats 400000 in
theorem vis_root {H V S O D : Nat} {w : World} {k : Nat} {names : List ByteArray} {oth : List Int} {d : Bool} (h : Hid (Vis H V S O w k names oth)) (x : Option Addr)
    (hD : D < H) (hDV : D ≠ V) (hDO : D ≠ O) (hd : w.cell? ⟨D, 0, none⟩ = some (.bool d)) (hk : k ≤ 1000000) (hn : oth.length ≤ 1000000) :
    Calls Try.prog 15 #[.iface 40 (.pointer x), .pointer (some ⟨V, 0, none⟩), .pointer (some ⟨S, 0, none⟩), .pointer (some ⟨O, 0, none⟩), .pointer (some ⟨D, 0, none⟩)] w fun e w' =>
      e = .returned (.bool d) ∧ Vis H V S O w' (k + 1) names (oth ++ [(k : Int)]) ∧ Keep H V S O w w' := by
  obtain ⟨i0, hi, hz0, hz1, hz2⟩ := info_parts Try.info3
  have hv := cell_of_one h.out.v
  have hvf := free_of_one h.out.v
  obtain ⟨ov, hO, hown⟩ := h.out.o
  have ta := ta_40_34
  have HO : Hid (w.heap[O]? = some (.cells #[ov] 25 (0, 0))) := hO
  have HOWN : Hid (w.ownsRow H 3 1 ov oth.length (oth.map (Value.int .i64))) := hown
  have HN : Hid (oth.length ≤ 1000000) := hn
  clear hO hown hn
  have hO1 : (w.setCell ⟨V, 0, none⟩ (.int .i64 ((k : Int) + 1))).heap[O]? = some (.cells #[ov] 25 (0, 0)) := by
    rw [Below.heap_setCell _ _ _ _ h.out.vo.symm]; exact HO.out
  have hd1 : (w.setCell ⟨V, 0, none⟩ (.int .i64 ((k : Int) + 1))).cell? ⟨D, 0, none⟩ = some (.bool d) := by
    rw [World.cell?_of_block (w := w) (Below.heap_setCell _ _ _ _ hDV)]; exact hd
  have HO1 : Hid ((w.setCell ⟨V, 0, none⟩ (.int .i64 ((k : Int) + 1))).heap[O]? = some (.cells #[ov] 25 (0, 0))) := hO1
  have HD1 : Hid ((w.setCell ⟨V, 0, none⟩ (.int .i64 ((k : Int) + 1))).cell? ⟨D, 0, none⟩ = some (.bool d)) := hd1
  have hcO := cell_of_one hO1
  clear hO1 hd1 hd
  go_enter Try.func15, Try.ntmps15
  go_wp2_with (at_builtin; refine wpList_append_own _ rfl (.tmp 26) (.tmp 28) 25 rfl H 3 i0 (.int .i64 0) 1 8 Try.underlying25 hi hz0 hz1 hz2 rfl (by decide) ov oth.length (oth.map (Value.int .i64)) rfl (by exact (ownsRow_setCell_below HOWN.out h.out.ltV _).alloc _) ⟨w.heap.size, 0, none⟩ 1 1 [.int .i64 (k : Int)] rfl rfl ?c1 ?c2 ?c3 ?c4 ?c5 ?_)
  case c1 =>
    have e := cell_one_new (w.setCell ⟨V, 0, none⟩ (.int .i64 ((k : Int) + 1))) (.int .i64 (k : Int)) 3
    rw [World.heap_size_setCell'] at e
    exact e
  case c2 => intro u hu; simp at hu; subst hu; rfl
  case c3 => unfold maxLen; have := HN.out; omega
  case c4 => have := HN.out; omega
  case c5 => have := h.out.size; simp; omega
  intro v' w2 hown2 hgrow2 _
  obtain ⟨g2, cap2, rfl⟩ := own_form hown2 (by omega)
  have hsz1 : H ≤ (w.setCell ⟨V, 0, none⟩ (.int .i64 ((k : Int) + 1))).heap.size := by have := h.out.size; simpa using this
  have hb2 : ∀ i, i < H → w2.heap[i]? = (w.setCell ⟨V, 0, none⟩ (.int .i64 ((k : Int) + 1))).heap[i]? := fun i hi => grown_blk' hgrow2 (Nat.lt_of_lt_of_le hi hsz1) (fun g hg e => by have := (own_blk HOWN.out hg).1; omega)
  have hO2 : w2.heap[O]? = some (.cells #[ov] 25 (0, 0)) := by rw [hb2 O h.out.ltO]; exact HO1.out
  have hcO2 := cell_of_one hO2
  have hfO2 := free_of_one hO2
  have hd2 : (w2.setCell ⟨O, 0, none⟩ (.slice (some ⟨g2, 0, none⟩) (oth.length + 1) cap2)).cell? ⟨D, 0, none⟩ = some (.bool d) := by
    rw [World.cell?_of_block (w := w2) (Below.heap_setCell _ _ _ _ hDO), World.cell?_of_block (hb2 D hD)]; exact HD1.out
  obtain ⟨r1, r2⟩ := h.out.first
  obtain ⟨r3, r4⟩ := r1.other HO1.out (ownsRow_setCell_below HOWN.out h.out.ltV _) (fun i h1 h2 => grown_blk' hgrow2 h1 h2) hgrow2.os hgrow2.tape hgrow2.output (Nat.le_trans (by simp) hgrow2.size) hown2
  have HR : Hid (Vis H V S O (w2.setCell ⟨O, 0, none⟩ (.slice (some ⟨g2, 0, none⟩) (oth.length + 1) cap2)) (k + 1) names (oth ++ [(k : Int)]) ∧ Keep H V S O w (w2.setCell ⟨O, 0, none⟩ (.slice (some ⟨g2, 0, none⟩) (oth.length + 1) cap2))) := ⟨r3, r2.trans r4⟩
  clear r1 r2 r3 r4 hb2 hO2
  go_wp2
  go_ret
  exact ⟨rfl, HR.out⟩
end Go.Proofs.Qxb6603603a
