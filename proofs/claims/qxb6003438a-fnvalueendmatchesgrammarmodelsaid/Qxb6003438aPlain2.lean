import Derived.Test.Qxb6003438aPlain
/-
  THE PLAIN MATHEMATICS of the grammar model: canonical decimal. No Go in sight.
-/
namespace Go.Proofs.Qxb6003438a.Plain

/-- the digits of u, written ahead of acc, as the loop of zzItoa writes them -/
def decA : Nat → Nat → List Int → List Int
  | 0, _, acc => acc
  | f + 1, u, acc => if u / 10 = 0 then (48 + ((u % 10 : Nat) : Int)) :: acc else decA f (u / 10) ((48 + ((u % 10 : Nat) : Int)) :: acc)

def itoaL (v : Int) : List Int := if v < 0 then 45 :: decA 8 (-v).toNat [] else decA 8 v.toNat []

def valN (d : List Int) : Nat := d.foldl (fun v c => v * 10 + (c - 48).toNat) 0

theorem valN_snoc (d : List Int) (c : Int) : valN (d ++ [c]) = valN d * 10 + (c - 48).toNat := by
  simp [valN]

/-- the bytes from b on, n of them -/
def seg (z : Nat → Int) (b n : Nat) : List Int := (List.range n).map (fun i => z (b + i))

theorem seg_length (z : Nat → Int) (b n : Nat) : (seg z b n).length = n := by simp [seg]
theorem seg_zero (z : Nat → Int) (b : Nat) : seg z b 0 = [] := rfl
theorem seg_succ (z : Nat → Int) (b n : Nat) : seg z b (n + 1) = seg z b n ++ [z (b + n)] := by
  simp [seg, List.range_succ]
theorem seg_cons (z : Nat → Int) (b n : Nat) : seg z b (n + 1) = z b :: seg z (b + 1) n := by
  induction n with
  | zero => rfl
  | succ n ih =>
    rw [seg_succ, ih, seg_succ]
    simp [Nat.add_assoc, Nat.add_comm 1 n]

theorem valN_lt (z : Nat → Int) (b n : Nat) (h : ∀ i, i < n → dig (z (b + i))) : valN (seg z b n) < 10 ^ n := by
  induction n with
  | zero => simp [seg, valN]
  | succ n ih =>
    have h1 := ih (fun i hi => h i (by omega))
    have h2 := h n (by omega)
    unfold dig at h2
    rw [seg_succ, valN_snoc, Nat.pow_succ]
    omega

theorem valN_zero_head (z : Nat → Int) (b n : Nat) (h0 : z b = 48) : valN (seg z b (n + 1)) = valN (seg z (b + 1) n) := by
  rw [seg_cons]
  simp [valN, h0]

theorem valN_pos (z : Nat → Int) (b n : Nat) (h : ∀ i, i < n + 1 → dig (z (b + i))) (h0 : z b ≠ 48) : 0 < valN (seg z b (n + 1)) := by
  induction n with
  | zero =>
    have h1 := h 0 (by omega)
    unfold dig at h1
    simp only [Nat.add_zero] at h1
    simp [seg, valN]
    omega
  | succ n ih =>
    have h1 := ih (fun i hi => h i (by omega))
    rw [seg_succ, valN_snoc]
    omega

/-- no leading zero: the digits are written back as they were -/
theorem decA_valN (z : Nat → Int) (b : Nat) : ∀ (n f : Nat) (acc : List Int), n < f → (∀ i, i < n + 1 → dig (z (b + i))) → (n = 0 ∨ z b ≠ 48) →
    decA f (valN (seg z b (n + 1))) acc = seg z b (n + 1) ++ acc := by
  intro n
  induction n with
  | zero =>
    intro f acc hf h _
    have h1 := h 0 (by omega)
    unfold dig at h1
    simp only [Nat.add_zero] at h1
    cases f with
    | zero => omega
    | succ f =>
      have e : valN (seg z b (0 + 1)) = (z b - 48).toNat := by simp [seg, valN]
      have e2 : (z b - 48).toNat / 10 = 0 := by omega
      have e3 : (48 + (((z b - 48).toNat % 10 : Nat) : Int)) = z b := by omega
      rw [e]
      simp only [decA, e2, if_true, e3]
      rfl
  | succ n ih =>
    intro f acc hf h h0
    have h1 := h (n + 1) (by omega)
    unfold dig at h1
    have hp := valN_pos z b n (fun i hi => h i (by omega)) (by omega)
    cases f with
    | zero => omega
    | succ f =>
      rw [seg_succ z b (n + 1), valN_snoc]
      have e2 : (valN (seg z b (n + 1)) * 10 + (z (b + (n + 1)) - 48).toNat) / 10 = valN (seg z b (n + 1)) := by omega
      have e3 : (48 + (((valN (seg z b (n + 1)) * 10 + (z (b + (n + 1)) - 48).toNat) % 10 : Nat) : Int)) = z (b + (n + 1)) := by omega
      rw [decA, e2, e3, if_neg (by omega), ih f _ (by omega) (fun i hi => h i (by omega)) (by omega)]
      simp

theorem decA_len : ∀ (f u k : Nat) (acc : List Int), u < 10 ^ k → 1 ≤ k → (decA f u acc).length ≤ k + acc.length := by
  intro f
  induction f with
  | zero => intro u k acc _ _; simp [decA]
  | succ f ih =>
    intro u k acc hu hk
    rw [decA]
    by_cases h : u / 10 = 0
    · rw [if_pos h]; simp; omega
    · rw [if_neg h]
      match k, hk with
      | 1, _ => simp at hu; omega
      | k + 2, _ =>
        have h3 : u / 10 < 10 ^ (k + 1) := by
          rw [Nat.div_lt_iff_lt_mul (by omega), ← Nat.pow_succ]; exact hu
        have := ih (u / 10) (k + 1) ((48 + ((u % 10 : Nat) : Int)) :: acc) h3 (by omega)
        simp at this ⊢
        omega

/-- the digits from b on, n of them, are canonical -/
theorem dec_iff (z : Nat → Int) (b n : Nat) (hn : n < 8) (h : ∀ i, i < n + 1 → dig (z (b + i))) : decA 8 (valN (seg z b (n + 1))) [] = seg z b (n + 1) ↔ (n = 0 ∨ z b ≠ 48) := by
  constructor
  · intro he
    by_cases h0 : n = 0
    · exact .inl h0
    · refine .inr fun h48 => ?_
      rw [valN_zero_head z b n h48] at he
      have hl := valN_lt z (b + 1) n (fun i hi => by have := h (i + 1) (by omega); rwa [Nat.add_assoc, Nat.add_comm 1 i])
      have := decA_len 8 _ n [] hl (by omega)
      rw [he, seg_length] at this
      simp at this
      omega
  · intro h0
    have := decA_valN z b n 8 [] hn h h0
    simpa using this

/-- the text from b up to e is canonical decimal, of one to eight digits -/
def Can (z : Nat → Int) (b e : Nat) : Prop :=
  (z b ≠ 45 ∧ b + 1 ≤ e ∧ e ≤ b + 8 ∧ (∀ j, b ≤ j → j < e → dig (z j)) ∧ ¬ (z b = 48 ∧ b + 1 < e)) ∨
  (z b = 45 ∧ b + 2 ≤ e ∧ e ≤ b + 9 ∧ (∀ j, b + 1 ≤ j → j < e → dig (z j)) ∧ z (b + 1) ≠ 48)

theorem can_pos {z : Nat → Int} {b n : Nat} (h45 : z b ≠ 45) (hn : n < 8) (h : ∀ i, i < n + 1 → dig (z (b + i))) : (itoaL (valN (seg z b (n + 1)) : Int) = seg z b (n + 1)) ↔ Can z b (b + (n + 1)) := by
  unfold itoaL
  rw [if_neg (by omega), Int.toNat_natCast, dec_iff z b n hn h]
  unfold Can
  constructor
  · intro h0
    refine .inl ⟨h45, by omega, by omega, fun j h1 h2 => ?_, by omega⟩
    have := h (j - b) (by omega)
    rwa [show b + (j - b) = j by omega] at this
  · intro h0
    rcases h0 with h0 | h0 <;> omega

theorem can_neg {z : Nat → Int} {b n : Nat} (h45 : z b = 45) (hn : n < 8) (h : ∀ i, i < n + 1 → dig (z (b + 1 + i))) : (itoaL (-(valN (seg z (b + 1) (n + 1)) : Int)) = seg z b (n + 2)) ↔ Can z b (b + (n + 2)) := by
  have hd := dec_iff z (b + 1) n hn h
  have h1 := h 0 (by omega)
  simp only [Nat.add_zero] at h1
  unfold itoaL
  rw [seg_cons z b (n + 1), h45]
  unfold Can
  by_cases hz : z (b + 1) = 48 ∧ n = 0
  · obtain ⟨hz, rfl⟩ := hz
    have e : valN (seg z (b + 1) (0 + 1)) = 0 := by simp [seg, valN, hz]
    rw [e]
    constructor
    · intro he
      simp [decA] at he
    · intro he
      rcases he with he | he <;> omega
  · by_cases hz2 : z (b + 1) = 48
    · constructor
      · intro he
        exfalso
        by_cases hv : valN (seg z (b + 1) (n + 1)) = 0
        · rw [hv] at he
          simp [decA] at he
        · rw [if_pos (by omega)] at he
          have he := (List.cons.inj he).2
          rw [show (-(-(valN (seg z (b + 1) (n + 1)) : Int))).toNat = valN (seg z (b + 1) (n + 1)) by omega] at he
          have := hd.1 he
          omega
      · intro he
        rcases he with he | he <;> omega
    · have hp := valN_pos z (b + 1) n h hz2
      rw [if_pos (by omega), show (-(-(valN (seg z (b + 1) (n + 1)) : Int))).toNat = valN (seg z (b + 1) (n + 1)) by omega, hd.2 (.inr hz2)]
      constructor
      · intro _
        refine .inr ⟨h45, by omega, by omega, fun j h1 h2 => ?_, hz2⟩
        have := h (j - (b + 1)) (by omega)
        rwa [show b + 1 + (j - (b + 1)) = j by omega] at this
      · intro _; rfl

/-- what the model answers -/
def ME (z : Nat → Int) (a : Nat) (cont : Bool) (m : Int) : Prop :=
  (dig (z a) ∧ z (a + 1) = 58 ∧ m = (a : Int) + 2 + (z a - 48)) ∨
  (dig (z a) ∧ z (a + 1) ≠ 58 ∧ m = 0) ∨
  (z a = 105 ∧ ∃ e, a + 1 ≤ e ∧ e ≤ 30 ∧ (∀ j, a + 1 ≤ j → j < e → z j ≠ 101) ∧
    ((e = 30 ∧ m = 0) ∨ (e < 30 ∧ z e = 101 ∧ ((Can z (a + 1) e ∧ m = (e : Int) + 1) ∨ (¬ Can z (a + 1) e ∧ m = 0))))) ∨
  ((z a = 108 ∨ z a = 100) ∧ cont = true ∧ z (a + 1) = 101 ∧ m = (a : Int) + 2) ∨
  (¬ dig (z a) ∧ z a ≠ 105 ∧ ¬ ((z a = 108 ∨ z a = 100) ∧ cont = true ∧ z (a + 1) = 101) ∧ m = 0)

theorem run_eq {z : Nat → Int} {fi en e : Nat} (h : RunEnd z fi en) (h1 : fi ≤ e) (h2 : e ≤ fi + 8) (hd : ∀ j, fi ≤ j → j < e → dig (z j)) (he : ¬ dig (z e)) : en = e := by
  obtain ⟨r1, r2, r3, r4⟩ := h
  by_cases hl : en < e
  · exact absurd (hd en r1 hl) (r4 (by omega))
  · by_cases hg : e < en
    · exact absurd (r3 e h1 hg) he
    · omega

theorem int_agree {z : Nat → Int} {a fi en e : Nat} (hf : (fi = a + 1 ∧ z (a + 1) ≠ 45) ∨ (fi = a + 2 ∧ z (a + 1) = 45)) (hr : RunEnd z fi en) (he1 : a + 1 ≤ e) (hz : ∀ j, a + 1 ≤ j → j < e → z j ≠ 101) (he : z e = 101) :
    (¬ Bad z a fi en ↔ Can z (a + 1) e) ∧ (¬ Bad z a fi en → en = e) := by
  have hed : ¬ dig (z e) := by unfold dig; omega
  have hee : ¬ Bad z a fi en → en = e := by
    intro hb
    unfold Bad at hb
    obtain ⟨r1, r2, r3, r4⟩ := hr
    have hen : z en = 101 := by omega
    by_cases hl : en < e
    · exact absurd hen (hz en (by omega) hl)
    · by_cases hg : e < en
      · by_cases hfe : fi ≤ e
        · exact absurd (r3 e hfe hg) hed
        · have : e = a + 1 := by omega
          subst this
          omega
      · omega
  refine ⟨⟨fun hb => ?_, fun hc hb => ?_⟩, hee⟩
  · have e1 := hee hb
    subst e1
    unfold Bad at hb
    obtain ⟨r1, r2, r3, r4⟩ := hr
    rcases hf with ⟨rfl, hf⟩ | ⟨rfl, hf⟩
    · exact .inl ⟨hf, by omega, by omega, r3, by omega⟩
    · exact .inr ⟨hf, by omega, by omega, r3, fun h48 => hb (.inr (.inr ⟨h48, by omega⟩))⟩
  · unfold Bad at hb
    rcases hc with ⟨c1, c2, c3, c4, c5⟩ | ⟨c1, c2, c3, c4, c5⟩
    · have hfi : fi = a + 1 := by omega
      subst hfi
      have e1 := run_eq hr (by omega) (by omega) c4 hed
      subst e1
      omega
    · have hfi : fi = a + 2 := by omega
      subst hfi
      have e1 := run_eq hr (by omega) (by omega) c4 hed
      subst e1
      have : z (a + 2) ≠ 48 := c5
      omega

theorem agree {z : Nat → Int} {a : Nat} {cont : Bool} {r m : Int} (ha : a < 20) (h : VE z a cont r) (h' : ME z a cont m) : r = m := by
  rcases h with ⟨h1, h2, h3⟩ | ⟨h1, h2, h3⟩ | ⟨h1, fi, en, hf, hr, hb⟩ | ⟨h1, h2, h3, h4⟩ | ⟨h1, h2, h3, h4⟩
  · rcases h' with ⟨k1, k2, k3⟩ | ⟨k1, k2, k3⟩ | ⟨k1, _⟩ | ⟨k1, k2, k3, k4⟩ | ⟨k1, k2, k3, k4⟩ <;> first | exact absurd h1 k1 | (unfold dig at *; omega)
  · rcases h' with ⟨k1, k2, k3⟩ | ⟨k1, k2, k3⟩ | ⟨k1, _⟩ | ⟨k1, k2, k3, k4⟩ | ⟨k1, k2, k3, k4⟩ <;> first | exact absurd h1 k1 | (unfold dig at *; omega)
  · rcases h' with ⟨k1, k2, k3⟩ | ⟨k1, k2, k3⟩ | ⟨k1, e, e1, e2, e3, e4⟩ | ⟨k1, k2, k3, k4⟩ | ⟨k1, k2, k3, k4⟩
    · unfold dig at k1; omega
    · unfold dig at k1; omega
    · rcases e4 with ⟨e4, rfl⟩ | ⟨e4, e5, e6⟩
      · rcases hb with ⟨_, hb⟩ | ⟨hb, _⟩
        · exact hb
        · exfalso
          unfold Bad at hb
          obtain ⟨r1, r2, r3, r4⟩ := hr
          have : z en = 101 := by omega
          exact e3 en (by omega) (by omega) this
      · obtain ⟨hi, he⟩ := int_agree hf hr e1 e3 e5
        rcases hb with ⟨hb, h5⟩ | ⟨hb, h5⟩
        · rcases e6 with ⟨e6, _⟩ | ⟨_, e7⟩
          · exact absurd hb (hi.2 e6)
          · omega
        · rcases e6 with ⟨_, e7⟩ | ⟨e6, _⟩
          · have := he hb; omega
          · exact absurd (hi.1 hb) e6
    · omega
    · exact absurd h1 k2
  · rcases h' with ⟨k1, k2, k3⟩ | ⟨k1, k2, k3⟩ | ⟨k1, _⟩ | ⟨k1, k2, k3, k4⟩ | ⟨k1, k2, k3, k4⟩
    · unfold dig at k1; omega
    · unfold dig at k1; omega
    · omega
    · omega
    · exact absurd ⟨h1, h2, h3⟩ k3
  · rcases h' with ⟨k1, k2, k3⟩ | ⟨k1, k2, k3⟩ | ⟨k1, _⟩ | ⟨k1, k2, k3, k4⟩ | ⟨k1, k2, k3, k4⟩
    · exact absurd k1 h1
    · exact absurd k1 h1
    · exact absurd k1 h2
    · exact absurd ⟨k1, k2, k3⟩ h3
    · omega

end Go.Proofs.Qxb6003438a.Plain
