import Derived.Test.Qxb6603603aZD
import Derived.Test.Qxb6603603aLog
namespace Go.Proofs.Qxb6603603a
open Go.RowKit

set_option maxRecDepth 100000 in
set_option maxHeartbeats 2000000 in
theorem cbytes (operand elseN : ByteArray) (ho he : Bool) (a b : Option Addr) (ca cb : Nat) (cs rs : List ByteArray) (w : World) (hl1 : operand.size ≤ maxLen) (hl2 : elseN.size ≤ maxLen) (hl3 : cs.length ≤ maxLen) (hl4 : rs.length ≤ maxLen)
    (hA : Sl w a cs) (hB : Sl w b rs) :
    Calls Try.prog 10 #[.string operand, .bool ho, .slice a cs.length ca, .slice b rs.length cb, .string elseN, .bool he] w fun e w' => SomeBool e ∧ w' = w := by
  unfold maxLen at hl1 hl2 hl3 hl4
  have HA := hide hA
  have HB := hide hB
  clear hA hB
  go_enter Try.func10, Try.ntmps10
  go_wp2
  all_goals try (go_ret; exact ⟨SomeBool.mk _, rfl⟩)
  go_loop [13, 14] (fun sz si => ∃ (i : Nat) (z : Int), i ≤ cs.length ∧ si = .int .i64 (i : Int) ∧ sz = .int .i64 z ∧ 0 ≤ z ∧ z ≤ 1048576) (fun _ si => cs.length - (intOf si).toNat)
  case atStart => exact ⟨0, _, by omega, rfl, rfl, by omega, by omega⟩
  case round =>
    obtain ⟨i, z, hi, rfl, rfl, hz0, hz1⟩ := hrel
    by_cases hlt : i < cs.length
    · obtain ⟨g, off, rfl, _, hci⟩ := HA.out i hlt
      generalize cs.getD i ByteArray.empty = x at hci
      by_cases hx : x.size ≤ 1048576
      · by_cases hx2 : z + (x.size : Int) ≤ 1048576
        · go_wp2
          exact ⟨⟨i + 1, z + (x.size : Int), by omega, by go_num, rfl, by omega, by omega⟩, by simp [intOf]; omega⟩
        · go_wp2
          go_ret
          exact ⟨SomeBool.mk _, rfl⟩
      · go_wp2
        go_ret
        exact ⟨SomeBool.mk _, rfl⟩
    · go_wp2
      all_goals try (go_ret; exact ⟨SomeBool.mk _, rfl⟩)
      go_loop [13, 15] (fun sz si => ∃ (i : Nat) (z : Int), i ≤ rs.length ∧ si = .int .i64 (i : Int) ∧ sz = .int .i64 z ∧ 0 ≤ z ∧ z ≤ 1048576) (fun _ si => rs.length - (intOf si).toNat)
      case atStart => exact ⟨0, _, by omega, rfl, rfl, by omega, by omega⟩
      case round =>
        obtain ⟨i, z, hi, rfl, rfl, hz0, hz1⟩ := hrel
        by_cases hlt : i < rs.length
        · obtain ⟨g, off, rfl, _, hci⟩ := HB.out i hlt
          generalize rs.getD i ByteArray.empty = x at hci
          by_cases hx : x.size ≤ 1048576
          · by_cases hx2 : z + (x.size : Int) ≤ 1048576
            · go_wp2
              exact ⟨⟨i + 1, z + (x.size : Int), by omega, by go_num, rfl, by omega, by omega⟩, by simp [intOf]; omega⟩
            · go_wp2
              go_ret
              exact ⟨SomeBool.mk _, rfl⟩
          · go_wp2
            go_ret
            exact ⟨SomeBool.mk _, rfl⟩
        · go_wp2
          all_goals (go_ret; exact ⟨SomeBool.mk _, rfl⟩)

/-- zzCloneStrings at whatever slice of strings -/
theorem clone_gen (a : Option Addr) (cap : Nat) (ss : List ByteArray) (w : World) (hn : ss.length ≤ 65536) (h0 : a = none → ss = [] ∧ cap = 0) (hA : Sl w a ss) :
    Calls Try.prog 7 #[.slice a ss.length cap] w fun e w' => ∃ a' cap', e = .returned (.slice a' ss.length cap') ∧ Sl w' a' ss ∧ Below w.heap.size w w' := by
  cases a with
  | none =>
    obtain ⟨rfl, rfl⟩ := h0 rfl
    refine (clone_nil w).mono ?_
    rintro e w' ⟨rfl, rfl⟩
    exact ⟨none, 0, rfl, (fun i hi => by cases hi), Below.refl _ _⟩
  | some ad =>
    by_cases hz : ss = []
    · subst hz
      refine (clone_empty ad cap w).mono ?_
      rintro e w' ⟨rfl, h⟩
      exact ⟨_, 0, rfl, (fun i hi => by cases hi), h.below⟩
    · have hpos : 0 < ss.length := by cases ss with | nil => exact absurd rfl hz | cons => simp
      obtain ⟨g, off, e, _, _⟩ := hA 0 hpos
      simp only [Option.some.injEq] at e
      subst e
      refine (clone_any g off cap ss w hn (fun i hi => ?_)).mono ?_
      · obtain ⟨g', off', e, h1, h2⟩ := hA i hi
        simp only [Option.some.injEq, Addr.mk.injEq, and_true] at e
        obtain ⟨rfl, rfl⟩ := e
        exact ⟨h1, h2⟩
      · rintro e w' ⟨rfl, h⟩
        exact ⟨_, _, rfl, (fun i hi => ⟨_, 0, rfl, by have := h.size; omega, h.cell i hi⟩), h.below⟩

theorem Sl.move {w w' : World} {a : Option Addr} {ss : List ByteArray} (h : Sl w a ss) (hb : Below w.heap.size w w') : Sl w' a ss := fun i hi => by
  obtain ⟨g, off, e, h1, h2⟩ := h i hi
  exact ⟨g, off, e, by have := hb.size; omega, (hb.cell (p := ⟨g, off + i, none⟩) h1).trans h2⟩
end Go.Proofs.Qxb6603603a
