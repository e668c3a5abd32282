import Derived.Test.Qxb6603801aFs
import Derived.DeepKeys4
namespace Go.Proofs.Qxb6603801a
open Go.RowKit Go.Maps

theorem Try.laidOut : laidOutB Try.prog = true := by kernel_rfl
theorem Try.row63 : (63 : TypeId) < Try.prog.types.size := of_decide_eq_true (by kernel_rfl)
theorem Try.wide63 : (match Try.prog.underlying 63 with | some (.array _ _) | some (.struct _) => true | _ => false) = true := by kernel_rfl
theorem law63 : Keyed Try.prog 63 := Keyed.of_law (deep_law_laid Try.laidOut (m := 3) (by omega) Try.row63 (by kernel_rfl) Try.wide63)
theorem Try.cells63 : Try.prog.cellsOf 63 = 3 := by kernel_rfl
theorem Try.cells39 : Try.prog.cellsOf 39 = 2 := by kernel_rfl
theorem Try.cells3 : Try.prog.cellsOf 3 = 1 := by kernel_rfl
theorem Try.keyType63 : Try.prog.keyType 63 = true := by kernel_rfl
theorem Try.typesSize : ∃ m, Try.prog.types.size = m + 2 := ⟨Try.prog.types.size - 2, by have : 2 ≤ Try.prog.types.size := of_decide_eq_true (by kernel_rfl); omega⟩

def klit (k : Key) : Lit := .string (keyBytes [.int .i64 k.1, .int .i64 k.2.1, .int .i64 k.2.2])
def kval (k : Key) : Value := .agg #[.int .i64 k.1, .int .i64 k.2.1, .int .i64 k.2.2]
def kwf (k : Key) : Prop := (Lit.int .i64 k.1).wf = true ∧ (Lit.int .i64 k.2.1).wf = true ∧ (Lit.int .i64 k.2.2).wf = true

theorem keyOf63 {k : Key} (h : kwf k) : keyOf Try.prog 63 (kval k) = some (klit k) := by
  obtain ⟨h1, h2, h3⟩ := h
  obtain ⟨m, hm⟩ := Try.typesSize
  have hf : (kval k).formed Try.prog 63 = true := by simp [kval, Value.formed, Try.underlying63, Try.cells63]
  unfold keyOf
  rw [Try.underlying63]
  simp only [Try.keyType63, hf, Bool.and_self, if_true]
  rw [hm]
  have hc : (kval k).cells.toList = [.int .i64 k.1, .int .i64 k.2.1, .int .i64 k.2.2] := rfl
  rw [hc]
  simp [Program.keyLits, Try.underlying63, Try.underlying39, Try.underlying3, Try.cells63, Try.cells39, Try.cells3, h1, h2, h3, List.range_succ, klit]

theorem klit_inj {k k' : Key} (h : kwf k) (h' : kwf k') (e : klit k = klit k') : k = k' := by
  have h1 := keyOf63 h
  have h2 := keyOf63 h'
  rw [e] at h1
  have := law63.inj h1 h2
  obtain ⟨a, b, c⟩ := k
  obtain ⟨a', b', c'⟩ := k'
  simpa [kval] using this

theorem zero3 (w : World) : (zeroValue 3).run Try.prog w = .ok (.int .i64 0) w := by kernel_rfl

/-- the map holds just the keys met, each with its group -/
def MapIs (key : Nat → Key) (u : Nat) (D : DataW Unit) : Prop :=
  IsMap D ∧ ∀ k, kwf k → Maps.has D (klit k) = decide (k ∈ kls key u) ∧ (k ∈ kls key u → D.atKey (klit k) (.lit (.int .i64 0)) = .lit (.int .i64 ((kls key u).idxOf k : Nat)))

theorem mapIs_start (key : Nat → Key) : MapIs key 0 (.map []) := ⟨isMap_empty, fun k _ => ⟨by simp [kls, fs, Maps.has], fun h => by simp [kls, fs] at h⟩⟩

theorem mapIs_old {key : Nat → Key} {u : Nat} {D : DataW Unit} (h : MapIs key u D) (hk : key u ∈ kls key u) : MapIs key (u + 1) D := by
  unfold MapIs kls at *
  rw [fs_old hk]
  exact h

theorem mapIs_new {key : Nat → Key} {u : Nat} {D : DataW Unit} (h : MapIs key u D) (hw : kwf (key u)) (hk : key u ∉ kls key u) : MapIs key (u + 1) (D.put (klit (key u)) (.lit (.int .i64 ((fs key u).length : Nat)))) := by
  have hl : WideAt.IsKeyLit (klit (key u)) := law63.key (keyOf63 hw)
  have e : kls key (u + 1) = kls key u ++ [key u] := by rw [kls, fs_new hk, List.map_append]; rfl
  have hlen : (fs key u).length = (kls key u).length := by simp [kls]
  refine ⟨h.1.put _ _, fun k hwk => ?_⟩
  rw [e]
  by_cases ek : k = key u
  · subst ek
    refine ⟨?_, fun _ => ?_⟩
    · rw [has_put_same h.1 hl]; simp
    · rw [atKey_put_same h.1 hl, List.idxOf_append, if_neg hk, hlen]
      simp
  · have hne : klit k ≠ klit (key u) := fun e => ek (klit_inj hwk hw e)
    refine ⟨?_, fun hm => ?_⟩
    · rw [has_put_other hne, (h.2 k hwk).1]; simp [ek]
    · have hm' : k ∈ kls key u := by simpa [ek] using hm
      rw [atKey_put_other hne, (h.2 k hwk).2 hm', List.idxOf_append, if_pos hm']
end Go.Proofs.Qxb6603801a
