import Derived.Test.Qxb6603801aIo
namespace Go.Proofs.Qxb6603801a
open Go.RowKit

section
variable {w w' : World} {a : Option Addr} {n : Nat} {f g : Nat → Int} {ln : Nat → Nat}
theorem Ints.up (h : Ints w.heap.size w a n f) (hg : w.grownBy w' none) : Ints w'.heap.size w' a n f := (h.move (grown_below hg (Nat.le_refl _))).mono hg.size
theorem Units.up (h : Units w.heap.size w a n f g) (hg : w.grownBy w' none) : Units w'.heap.size w' a n f g := fun i hi => by
  obtain ⟨b, o, h1, h2, h3, h4⟩ := h.move (grown_below hg (Nat.le_refl _)) i hi
  exact ⟨b, o, h1, Nat.lt_of_lt_of_le h2 hg.size, h3, h4⟩
theorem Lens.up (h : Lens w.heap.size w a n ln) (hg : w.grownBy w' none) : Lens w'.heap.size w' a n ln := fun i hi => by
  obtain ⟨b, o, a', c', h1, h2, h3⟩ := h.move (grown_below hg (Nat.le_refl _)) i hi
  exact ⟨b, o, a', c', h1, Nat.lt_of_lt_of_le h2 hg.size, h3⟩

theorem Inp.up {parts m fl : Nat} {key : Nat → Key} {na sa fa ua : Option Addr} (h : Inp w.heap.size w n parts m fl key ln na sa fa ua) (hg : w.grownBy w' none) : Inp w'.heap.size w' n parts m fl key ln na sa fa ua := by
  refine ⟨h.nodes.up hg, h.units.up hg, h.sets.up hg, fun u hu hp => ?_, h.kw, h.nd, h.lnb, h.prts, h.nb, h.pb⟩
  obtain ⟨h1, b, o, h2, h3, h4⟩ := (h.move (grown_below hg (Nat.le_refl _))).first u hu hp
  exact ⟨h1, b, o, h2, Nat.lt_of_lt_of_le h3 hg.size, h4⟩

theorem Out.up {N T : Nat} {K : Nat → Key} {M Pt : Nat → List Nat} {gr : Nat → Int} {ra a1 a2 a3 a4 a5 a6 : Option Addr} (h : Out w.heap.size w N T K M Pt gr ra a1 a2 a3 a4 a5 a6) (hg : w.grownBy w' none) : Out w'.heap.size w' N T K M Pt gr ra a1 a2 a3 a4 a5 a6 := by
  have h' := h.move (grown_below hg (Nat.le_refl _))
  refine ⟨h.grp.up hg, h.uns.up hg, h.nds.up hg, fun g hgT => ?_, fun g hgT => ?_, h.plc.up hg, fun g hgT => ?_⟩
  · obtain ⟨b, o, ma, mc, h1, h2, h3, h4⟩ := h'.mem g hgT
    exact ⟨b, o, ma, mc, h1, Nat.lt_of_lt_of_le h2 hg.size, h3, h4.mono hg.size⟩
  · obtain ⟨b, o, ma, mc, h1, h2, h3, h4, h5⟩ := h'.par g hgT
    exact ⟨b, o, ma, mc, h1, Nat.lt_of_lt_of_le h2 hg.size, h3, h4, h5.mono hg.size⟩
  · obtain ⟨b, o, h1, h2, h3⟩ := h'.sid g hgT
    exact ⟨b, o, h1, Nat.lt_of_lt_of_le h2 hg.size, h3⟩

theorem ints_own_of {B rb c : Nat} {f' : Nat → Int} (h : w.ownsRow B 3 1 (.slice (some ⟨rb, 0, none⟩) n c) n (ivals n f)) (hf : ∀ j, j < n → f j = f' j) : Ints w.heap.size w (some ⟨rb, 0, none⟩) n f' := by
  rw [ivals_congr hf] at h
  exact ints_own h
end
end Go.Proofs.Qxb6603801a
