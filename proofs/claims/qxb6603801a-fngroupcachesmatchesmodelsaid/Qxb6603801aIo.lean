import Derived.Test.Qxb6603801aCpb
namespace Go.Proofs.Qxb6603801a
open Go.RowKit

/-- what the (copied) arguments hold: a layout that fits -/
structure Inp (B : Nat) (w : World) (n parts m fl : Nat) (key : Nat → Key) (ln : Nat → Nat) (na sa fa ua : Option Addr) : Prop where
  nodes : Ints B w na n fun u => (key u).2.2
  units : Units B w ua n (fun u => (key u).1) fun u => (key u).2.1
  sets : Lens B w sa m ln
  first : ∀ u, u < n → 0 < parts → u < fl ∧ ∃ b o, fa = some ⟨b, o, none⟩ ∧ b < B ∧ w.cell? ⟨b, o + u, none⟩ = some (.int .i64 (fpU key ln u : Int))
  kw : ∀ u, u < n → kwf (key u)
  nd : ∀ u, u < n → ∃ i : Nat, (key u).2.2 = (i : Int) ∧ i < m
  lnb : ∀ i, i < m → ln i ≤ 1048576
  prts : parts = fpU key ln n
  nb : n ≤ 4096
  pb : parts ≤ 65536

theorem Inp.move {B : Nat} {w w' : World} {n parts m fl : Nat} {key : Nat → Key} {ln : Nat → Nat} {na sa fa ua : Option Addr} (h : Inp B w n parts m fl key ln na sa fa ua) (hb : ∀ b, b < B → w'.heap[b]? = w.heap[b]?) : Inp B w' n parts m fl key ln na sa fa ua := by
  refine ⟨h.nodes.move hb, h.units.move hb, h.sets.move hb, fun u hu hp => ?_, h.kw, h.nd, h.lnb, h.prts, h.nb, h.pb⟩
  obtain ⟨h1, b, o, h2, h3, h4⟩ := h.first u hu hp
  exact ⟨h1, b, o, h2, h3, by rw [World.cell?_of_block (hb b h3)]; exact h4⟩

/-- what ZZGroupCaches hands back -/
structure Out (B : Nat) (w : World) (N T : Nat) (K : Nat → Key) (M Pt : Nat → List Nat) (gr : Nat → Int) (ra a1 a2 a3 a4 a5 a6 : Option Addr) : Prop where
  grp : Ints B w ra N gr
  uns : Units B w a1 T (fun g => (K g).1) fun g => (K g).2.1
  nds : Ints B w a2 T fun g => (K g).2.2
  mem : ∀ g, g < T → ∃ b o ma mc, a3 = some ⟨b, o, none⟩ ∧ b < B ∧ w.cell? ⟨b, o + g, none⟩ = some (.slice ma (M g).length mc) ∧ Ints B w ma (M g).length fun i => ((M g).getD i 0 : Nat)
  par : ∀ g, g < T → ∃ b o ma mc, a4 = some ⟨b, o, none⟩ ∧ b < B ∧ w.cell? ⟨b, o + g, none⟩ = some (.slice ma (Pt g).length mc) ∧ (Pt g = [] → ma = none ∧ mc = 0) ∧ Ints B w ma (Pt g).length fun i => ((Pt g).getD i 0 : Nat)
  plc : Units B w a5 T (fun _ => 0) fun _ => 0
  sid : ∀ g, g < T → ∃ b o, a6 = some ⟨b, o, none⟩ ∧ b < B ∧ w.cell? ⟨b, o + g, none⟩ = some (.slice none 0 0)

theorem Out.move {B : Nat} {w w' : World} {N T : Nat} {K : Nat → Key} {M Pt : Nat → List Nat} {gr : Nat → Int} {ra a1 a2 a3 a4 a5 a6 : Option Addr} (h : Out B w N T K M Pt gr ra a1 a2 a3 a4 a5 a6) (hb : ∀ b, b < B → w'.heap[b]? = w.heap[b]?) : Out B w' N T K M Pt gr ra a1 a2 a3 a4 a5 a6 := by
  refine ⟨h.grp.move hb, h.uns.move hb, h.nds.move hb, fun g hg => ?_, fun g hg => ?_, h.plc.move hb, fun g hg => ?_⟩
  · obtain ⟨b, o, ma, mc, h1, h2, h3, h4⟩ := h.mem g hg
    exact ⟨b, o, ma, mc, h1, h2, by rw [World.cell?_of_block (hb b h2)]; exact h3, h4.move hb⟩
  · obtain ⟨b, o, ma, mc, h1, h2, h3, h4, h5⟩ := h.par g hg
    exact ⟨b, o, ma, mc, h1, h2, by rw [World.cell?_of_block (hb b h2)]; exact h3, h4, h5.move hb⟩
  · obtain ⟨b, o, h1, h2, h3⟩ := h.sid g hg
    exact ⟨b, o, h1, h2, by rw [World.cell?_of_block (hb b h2)]; exact h3⟩

theorem ints_intsV {w : World} {B n : Nat} {v : Value} {l : List Nat} (h : w.ownsRow B 3 1 v n (intsV l)) (hn : n = l.length) {a : Option Addr} {c : Nat} (hv : v = .slice a n c) : Ints w.heap.size w a n fun i => ((l.getD i 0 : Nat) : Int) := by
  intro i hi
  obtain ⟨g, cap, h1⟩ := own_form h (by omega)
  rw [hv] at h1
  cases h1
  subst hv
  refine ⟨g, 0, rfl, (h.lt g rfl).2, ?_⟩
  rw [Nat.zero_add, h.cellAt i (by omega)]
  have : i < l.length := by omega
  simp [intsV, this]

end Go.Proofs.Qxb6603801a
