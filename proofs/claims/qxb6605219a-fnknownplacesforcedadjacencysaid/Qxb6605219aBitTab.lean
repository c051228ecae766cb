import Derived.Test.Qxb6605219aGraph
namespace Go.Proofs.Qxb6605219a
set_option linter.unusedVariables false

/-- Row v's bit z in a table of rows of wd words. -/
def has (X : Nat → Nat) (wd v z : Nat) : Bool := (X (v * wd + z / 64)).testBit (z % 64)

/-- Row v with the first k words of row p laid over it. -/
def orRow (X : Nat → Nat) (wd v p k : Nat) : Nat → Nat := fun i => if v * wd ≤ i ∧ i < v * wd + k then X i ||| X (p * wd + (i - v * wd)) else X i

/-- One bit more. -/
def setB (X : Nat → Nat) (i b : Nat) : Nat → Nat := fun j => if j = i then X j ||| 2 ^ b else X j

theorem idx_lt {v n wd q : Nat} (hv : v < n) (hq : q < wd) : v * wd + q < n * wd := by
  have h : (v + 1) * wd ≤ n * wd := Nat.mul_le_mul_right _ hv
  rw [Nat.succ_mul] at h
  omega

theorem idx_ne {u v wd q : Nat} (h : u ≠ v) (i : Nat) (hi : i < wd) : ¬ (v * wd ≤ u * wd + i ∧ u * wd + i < v * wd + wd) := by
  rcases Nat.lt_or_gt_of_ne h with h | h
  · have h2 : (u + 1) * wd ≤ v * wd := Nat.mul_le_mul_right _ h
    rw [Nat.succ_mul] at h2
    omega
  · have h2 : (v + 1) * wd ≤ u * wd := Nat.mul_le_mul_right _ h
    rw [Nat.succ_mul] at h2
    omega

theorem orRow_zero (X : Nat → Nat) (wd v p : Nat) : orRow X wd v p 0 = X := by
  funext i
  unfold orRow
  rw [if_neg (by omega)]

theorem orRow_step (X : Nat → Nat) (wd v p k i : Nat) : orRow X wd v p (k + 1) i = if i = v * wd + k then X (v * wd + k) ||| X (p * wd + k) else orRow X wd v p k i := by
  unfold orRow
  by_cases e : i = v * wd + k
  · subst e
    rw [if_pos rfl, if_pos (by omega), Nat.add_sub_cancel_left]
  · rw [if_neg e]
    by_cases h : v * wd ≤ i ∧ i < v * wd + k
    · rw [if_pos h, if_pos (by omega)]
    · rw [if_neg h, if_neg (by omega)]

theorem orRow_here (X : Nat → Nat) (wd v p k : Nat) : orRow X wd v p k (v * wd + k) = X (v * wd + k) := by
  unfold orRow; rw [if_neg (by omega)]

theorem orRow_there (X : Nat → Nat) {wd v p k i : Nat} (h : p ≠ v) (hk : k ≤ wd) (hi : i < wd) : orRow X wd v p k (p * wd + i) = X (p * wd + i) := by
  unfold orRow
  rw [if_neg (fun h2 => idx_ne (q := 0) h i hi ⟨h2.1, by omega⟩)]

theorem has_orRow {X : Nat → Nat} {wd v p u z : Nat} (hz : z < 64 * wd) : has (orRow X wd v p wd) wd u z = true ↔ has X wd u z = true ∨ (u = v ∧ has X wd p z = true) := by
  unfold has
  have hq : z / 64 < wd := by omega
  by_cases e : u = v
  · subst e
    unfold orRow
    rw [if_pos (by omega), Nat.add_sub_cancel_left, Nat.testBit_or, Bool.or_eq_true]
    simp
  · unfold orRow
    rw [if_neg (idx_ne (q := 0) e _ hq)]
    simp [e]

theorem has_setB {X : Nat → Nat} {wd v p u z : Nat} (hz : z < 64 * wd) (hp : p < 64 * wd) : has (setB X (v * wd + p / 64) (p % 64)) wd u z = true ↔ has X wd u z = true ∨ (u = v ∧ z = p) := by
  unfold has setB
  have hq : z / 64 < wd := by omega
  have hq2 : p / 64 < wd := by omega
  by_cases e : u * wd + z / 64 = v * wd + p / 64
  · have euv : u = v := by
      by_cases h : u = v
      · exact h
      · exact absurd ⟨by omega, by omega⟩ (idx_ne (q := 0) h (z / 64) hq)
    subst euv
    rw [if_pos e, Nat.testBit_or, Bool.or_eq_true, Nat.testBit_two_pow]
    simp only [decide_eq_true_eq, true_and]
    constructor
    · rintro (h | h)
      · exact .inl h
      · exact .inr (by omega)
    · rintro (h | h)
      · exact .inl h
      · exact .inr (by omega)
  · rw [if_neg e]
    constructor
    · exact .inl
    · rintro (h | ⟨rfl, rfl⟩)
      · exact h
      · exact absurd rfl e

theorem has_zero (wd v z : Nat) : has (fun _ => 0) wd v z = false := by
  unfold has; simp

theorem or_lt64 {a b : Nat} (ha : a < 18446744073709551616) (hb : b < 18446744073709551616) : a ||| b < 18446744073709551616 := by
  have := @Nat.or_lt_two_pow a b 64 (by omega) (by omega)
  omega

theorem pow_lt64 {b : Nat} (hb : b < 64) : 2 ^ b < 18446744073709551616 := by
  have := Nat.pow_lt_pow_right (a := 2) (by omega) hb
  omega

theorem orRow_lt {X : Nat → Nat} (h : ∀ i, X i < 18446744073709551616) (wd v p k i : Nat) : orRow X wd v p k i < 18446744073709551616 := by
  unfold orRow
  split
  · exact or_lt64 (h _) (h _)
  · exact h _

theorem setB_lt {X : Nat → Nat} (h : ∀ i, X i < 18446744073709551616) {b : Nat} (hb : b < 64) (i j : Nat) : setB X i b j < 18446744073709551616 := by
  unfold setB
  split
  · exact or_lt64 (h _) (pow_lt64 hb)
  · exact h _

section
variable {n np : Nat} {o L pos : Nat → Nat} {q : Nat → Nat → Nat} {wd : Nat}

/-! ### The ancestors, row after row in the order -/

def AncT (n np : Nat) (L : Nat → Nat) (q : Nat → Nat → Nat) (pos : Nat → Nat) (wd k : Nat) (X : Nat → Nat) : Prop :=
  ∀ v z, v < n → z < n → (has X wd v z = true ↔ pos v ≤ k ∧ Anc n np L q z v)

def AncR (n np : Nat) (L : Nat → Nat) (q : Nat → Nat → Nat) (pos : Nat → Nat) (wd k v j : Nat) (X : Nat → Nat) : Prop :=
  ∀ u z, u < n → z < n → (has X wd u z = true ↔ (u ≠ v ∧ pos u ≤ k ∧ Anc n np L q z u) ∨ (u = v ∧ ∃ i, i < j ∧ (z = q v i ∨ Anc n np L q z (q v i))))

theorem ancT_start (g : Gr n np o L q pos) : AncT n np L q pos wd 0 (fun _ => 0) := by
  intro v z hv hz
  rw [has_zero]
  have := g.pos_lo v hv
  constructor
  · intro h; cases h
  · rintro ⟨h, _⟩; omega

theorem ancR_start (g : Gr n np o L q pos) {k : Nat} (hk : k < n) {X : Nat → Nat} (h : AncT n np L q pos wd k X) : AncR n np L q pos wd k (o k) 0 X := by
  intro u z hu hz
  rw [h u z hu hz]
  have hp := g.pos_o k hk
  constructor
  · rintro ⟨h1, h2⟩
    refine .inl ⟨fun e => ?_, h1, h2⟩
    rw [e, hp] at h1; omega
  · rintro (⟨_, h1, h2⟩ | ⟨_, i, hi, _⟩)
    · exact ⟨h1, h2⟩
    · omega

theorem ancR_step (g : Gr n np o L q pos) (hw : n ≤ 64 * wd) {k j : Nat} (hk : k < n) (hv : o k < np) (hj : j < L (o k)) {X : Nat → Nat} (h : AncR n np L q pos wd k (o k) j X) :
    AncR n np L q pos wd k (o k) (j + 1) (setB (orRow X wd (o k) (q (o k) j) wd) (o k * wd + q (o k) j / 64) (q (o k) j % 64)) := by
  have hvn := g.o_lt k hk
  have hp := g.q_lt (o k) j hv hvn hj
  have hpp := g.q_pos (o k) j hv hvn hj
  have hpo := g.pos_o k hk
  have hne : q (o k) j ≠ o k := fun e => by rw [e] at hpp; omega
  intro u z hu hz
  rw [has_setB (by omega) (by omega), has_orRow (by omega), h u z hu hz, h _ z hp hz]
  have ex : (∃ i, i < j + 1 ∧ (z = q (o k) i ∨ Anc n np L q z (q (o k) i))) ↔ (∃ i, i < j ∧ (z = q (o k) i ∨ Anc n np L q z (q (o k) i))) ∨ z = q (o k) j ∨ Anc n np L q z (q (o k) j) := by
    constructor
    · rintro ⟨i, hi, h2⟩
      by_cases e : i = j
      · subst e; exact .inr h2
      · exact .inl ⟨i, by omega, h2⟩
    · rintro (⟨i, hi, h2⟩ | h2)
      · exact ⟨i, by omega, h2⟩
      · exact ⟨j, by omega, h2⟩
  rw [ex]
  constructor
  · rintro ((h1 | ⟨e, h1⟩) | ⟨e, h1⟩)
    · rcases h1 with h1 | ⟨e, h1⟩
      · exact .inl h1
      · exact .inr ⟨e, .inl h1⟩
    · rcases h1 with ⟨_, _, h1⟩ | ⟨e2, _⟩
      · exact .inr ⟨e, .inr (.inr h1)⟩
      · exact absurd e2 hne
    · exact .inr ⟨e, .inr (.inl h1)⟩
  · rintro (h1 | ⟨e, h1 | h1 | h1⟩)
    · exact .inl (.inl (.inl h1))
    · exact .inl (.inl (.inr ⟨e, h1⟩))
    · exact .inr ⟨e, h1⟩
    · exact .inl (.inr ⟨e, .inl ⟨hne, by omega, h1⟩⟩)

theorem ancR_done (g : Gr n np o L q pos) {k : Nat} (hk : k < n) (hv : o k < np) {X : Nat → Nat} (h : AncR n np L q pos wd k (o k) (L (o k)) X) : AncT n np L q pos wd (k + 1) X := by
  have hvn := g.o_lt k hk
  have hpo := g.pos_o k hk
  intro u z hu hz
  rw [h u z hu hz]
  constructor
  · rintro (⟨h1, h2, h3⟩ | ⟨rfl, i, hi, h1⟩)
    · exact ⟨by omega, h3⟩
    · exact ⟨by omega, anc_last.2 ⟨_, ⟨hv, hvn, i, hi, rfl⟩, h1⟩⟩
  · rintro ⟨h1, h2⟩
    by_cases e : u = o k
    · obtain ⟨p, hE, hp⟩ := anc_last.1 h2
      rw [e] at hE
      obtain ⟨_, _, i, hi, rfl⟩ := hE
      exact .inr ⟨e, i, hi, hp⟩
    · have hne : pos u ≠ k + 1 := fun e2 => e (g.eq_of_pos hu hvn (by rw [e2, hpo]))
      exact .inl ⟨e, by omega, h2⟩

theorem ancT_skip (g : Gr n np o L q pos) {k : Nat} (hk : k < n) (hv : ¬ o k < np) {X : Nat → Nat} (h : AncT n np L q pos wd k X) : AncT n np L q pos wd (k + 1) X := by
  have hvn := g.o_lt k hk
  have hpo := g.pos_o k hk
  intro u z hu hz
  rw [h u z hu hz]
  constructor
  · rintro ⟨h1, h2⟩; exact ⟨by omega, h2⟩
  · rintro ⟨h1, h2⟩
    refine ⟨?_, h2⟩
    by_cases e : pos u = k + 1
    · have eu : u = o k := g.eq_of_pos hu hvn (by rw [e, hpo])
      obtain ⟨p, hE, _⟩ := anc_last.1 h2
      rw [eu] at hE
      exact absurd hE.1 hv
    · omega

/-! ### The descendants, row after row against the order -/

def DescT (n np : Nat) (L : Nat → Nat) (q : Nat → Nat → Nat) (pos : Nat → Nat) (wd k : Nat) (X : Nat → Nat) : Prop :=
  ∀ p z, p < n → z < n → (has X wd p z = true ↔ ∃ c, E n np L q p c ∧ k < pos c ∧ (z = c ∨ Anc n np L q c z))

def DescR (n np : Nat) (L : Nat → Nat) (q : Nat → Nat → Nat) (pos : Nat → Nat) (wd k v j : Nat) (X : Nat → Nat) : Prop :=
  ∀ p z, p < n → z < n → (has X wd p z = true ↔ (∃ c, E n np L q p c ∧ k + 1 < pos c ∧ (z = c ∨ Anc n np L q c z)) ∨ ((∃ i, i < j ∧ q v i = p) ∧ (z = v ∨ Anc n np L q v z)))

theorem descT_start (g : Gr n np o L q pos) : DescT n np L q pos wd n (fun _ => 0) := by
  intro p z hp hz
  rw [has_zero]
  constructor
  · intro h; cases h
  · rintro ⟨c, hE, hc, _⟩
    have := g.pos_hi c (g.e_pos hE).2.1
    omega

theorem descR_start {k v : Nat} {X : Nat → Nat} (h : DescT n np L q pos wd (k + 1) X) : DescR n np L q pos wd k v 0 X := by
  intro p z hp hz
  rw [h p z hp hz]
  constructor
  · exact .inl
  · rintro (h | ⟨⟨i, hi, _⟩, _⟩)
    · exact h
    · omega

theorem descR_step (g : Gr n np o L q pos) (hw : n ≤ 64 * wd) {k j : Nat} (hk : k < n) (hv : o k < np) (hj : j < L (o k)) {X : Nat → Nat} (h : DescR n np L q pos wd k (o k) j X) :
    DescR n np L q pos wd k (o k) (j + 1) (setB (orRow X wd (q (o k) j) (o k) wd) (q (o k) j * wd + o k / 64) (o k % 64)) := by
  have hvn := g.o_lt k hk
  have hp := g.q_lt (o k) j hv hvn hj
  have hpp := g.q_pos (o k) j hv hvn hj
  have hpo := g.pos_o k hk
  have hself : ∀ z, z < n → (has X wd (o k) z = true ↔ Anc n np L q (o k) z) := by
    intro z hz
    rw [h _ z hvn hz]
    constructor
    · rintro (⟨c, hE, _, h1⟩ | ⟨⟨i, hi, e⟩, _⟩)
      · exact anc_first.2 ⟨c, hE, h1.elim (fun e => .inl e.symm) .inr⟩
      · have := g.q_pos (o k) i hv hvn (by omega)
        rw [e] at this; omega
    · intro h1
      obtain ⟨c, hE, h2⟩ := anc_first.1 h1
      have := (g.e_pos hE).2.2
      exact .inl ⟨c, hE, by omega, h2.elim (fun e => .inl e.symm) .inr⟩
  intro p z hpn hz
  rw [has_setB (by omega) (by omega), has_orRow (by omega), h p z hpn hz, hself z hz]
  have ex : (∃ i, i < j + 1 ∧ q (o k) i = p) ↔ (∃ i, i < j ∧ q (o k) i = p) ∨ p = q (o k) j := by
    constructor
    · rintro ⟨i, hi, h2⟩
      by_cases e : i = j
      · subst e; exact .inr h2.symm
      · exact .inl ⟨i, by omega, h2⟩
    · rintro (⟨i, hi, h2⟩ | h2)
      · exact ⟨i, by omega, h2⟩
      · exact ⟨j, by omega, h2.symm⟩
  rw [ex]
  constructor
  · rintro ((h1 | ⟨e, h1⟩) | ⟨e, h1⟩)
    · rcases h1 with h1 | ⟨h1, h2⟩
      · exact .inl h1
      · exact .inr ⟨.inl h1, h2⟩
    · exact .inr ⟨.inr e, .inr h1⟩
    · exact .inr ⟨.inr e, .inl h1⟩
  · rintro (h1 | ⟨h1 | h1, h2⟩)
    · exact .inl (.inl (.inl h1))
    · exact .inl (.inl (.inr ⟨h1, h2⟩))
    · rcases h2 with h2 | h2
      · exact .inr ⟨h1, h2⟩
      · exact .inl (.inr ⟨h1, h2⟩)

theorem descR_done (g : Gr n np o L q pos) {k : Nat} (hk : k < n) (hv : o k < np) {X : Nat → Nat} (h : DescR n np L q pos wd k (o k) (L (o k)) X) : DescT n np L q pos wd k X := by
  have hvn := g.o_lt k hk
  have hpo := g.pos_o k hk
  intro p z hp hz
  rw [h p z hp hz]
  constructor
  · rintro (⟨c, hE, hc, h1⟩ | ⟨⟨i, hi, rfl⟩, h1⟩)
    · exact ⟨c, hE, by omega, h1⟩
    · exact ⟨o k, ⟨hv, hvn, i, hi, rfl⟩, by omega, h1⟩
  · rintro ⟨c, hE, hc, h1⟩
    by_cases e : pos c = k + 1
    · have ec : c = o k := g.eq_of_pos (g.e_pos hE).2.1 hvn (by rw [e, hpo])
      subst ec
      obtain ⟨_, _, i, hi, e2⟩ := hE
      exact .inr ⟨⟨i, hi, e2⟩, h1⟩
    · exact .inl ⟨c, hE, by omega, h1⟩

theorem descT_skip (g : Gr n np o L q pos) {k : Nat} (hk : k < n) (hv : ¬ o k < np) {X : Nat → Nat} (h : DescT n np L q pos wd (k + 1) X) : DescT n np L q pos wd k X := by
  have hvn := g.o_lt k hk
  have hpo := g.pos_o k hk
  intro p z hp hz
  rw [h p z hp hz]
  constructor
  · rintro ⟨c, hE, hc, h1⟩; exact ⟨c, hE, by omega, h1⟩
  · rintro ⟨c, hE, hc, h1⟩
    refine ⟨c, hE, ?_, h1⟩
    by_cases e : pos c = k + 1
    · have ec : c = o k := g.eq_of_pos (g.e_pos hE).2.1 hvn (by rw [e, hpo])
      rw [ec] at hE
      exact absurd hE.1 hv
    · omega

theorem ancT_all (g : Gr n np o L q pos) {X : Nat → Nat} (h : AncT n np L q pos wd n X) {v z : Nat} (hv : v < n) (hz : z < n) : has X wd v z = true ↔ Anc n np L q z v := by
  rw [h v z hv hz]
  exact ⟨fun h => h.2, fun h => ⟨g.pos_hi v hv, h⟩⟩

theorem descT_all (g : Gr n np o L q pos) {X : Nat → Nat} (h : DescT n np L q pos wd 0 X) {p z : Nat} (hp : p < n) (hz : z < n) : has X wd p z = true ↔ Anc n np L q p z := by
  rw [h p z hp hz, anc_first]
  constructor
  · rintro ⟨c, hE, _, h1⟩; exact ⟨c, hE, h1.elim (fun e => .inl e.symm) .inr⟩
  · rintro ⟨c, hE, h1⟩; exact ⟨c, hE, g.pos_lo c (g.e_pos hE).2.1, h1.elim (fun e => .inl e.symm) .inr⟩
end
end Go.Proofs.Qxb6605219a
