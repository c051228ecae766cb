import Derived.Test.Qxb6605219aRows
namespace Go.Proofs.Qxb6605219a
set_option linter.unusedVariables false

/-- An injective map of the numbers below n into themselves meets each of them. -/
theorem inj_surj : ∀ (n : Nat) (f : Nat → Nat), (∀ k, k < n → f k < n) → (∀ j k, j < n → k < n → f j = f k → j = k) → ∀ z, z < n → ∃ k, k < n ∧ f k = z
  | 0, _, _, _, z, hz => absurd hz (Nat.not_lt_zero _)
  | n + 1, f, hf, hi, z, hz => by
    have hc := hf n (by omega)
    have g1 : ∀ k, k < n → (if f k = n then f n else f k) < n := by
      intro k hk
      have h1 := hf k (by omega)
      by_cases e : f k = n
      · rw [if_pos e]
        have : f n ≠ n := fun e2 => by
          have := hi k n (by omega) (by omega) (by rw [e, e2])
          omega
        omega
      · rw [if_neg e]; omega
    have g2 : ∀ j k, j < n → k < n → (if f j = n then f n else f j) = (if f k = n then f n else f k) → j = k := by
      intro j k hj hk e
      by_cases e1 : f j = n
      · by_cases e2 : f k = n
        · exact hi j k (by omega) (by omega) (by rw [e1, e2])
        · rw [if_pos e1, if_neg e2] at e
          have := hi n k (by omega) (by omega) e
          omega
      · by_cases e2 : f k = n
        · rw [if_neg e1, if_pos e2] at e
          have := hi j n (by omega) (by omega) e
          omega
        · rw [if_neg e1, if_neg e2] at e
          exact hi j k (by omega) (by omega) e
    have ih := inj_surj n (fun k => if f k = n then f n else f k) g1 g2
    by_cases e0 : z = f n
    · exact ⟨n, by omega, e0.symm⟩
    · by_cases e1 : z = n
      · obtain ⟨k, hk, e⟩ := ih (f n) (by omega)
        by_cases e2 : f k = n
        · exact ⟨k, by omega, by rw [e2, e1]⟩
        · have e' : f k = f n := by simpa [e2] using e
          have := hi k n (by omega) (by omega) e'
          omega
      · obtain ⟨k, hk, e⟩ := ih z (by omega)
        by_cases e2 : f k = n
        · have e' : f n = z := by simpa [e2] using e
          exact absurd e'.symm e0
        · exact ⟨k, by omega, by simpa [e2] using e⟩

/-- A valid input: an order of the versions below n, and parents that stand before. -/
structure Gr (n np : Nat) (o L : Nat → Nat) (q : Nat → Nat → Nat) (pos : Nat → Nat) : Prop where
  o_lt : ∀ k, k < n → o k < n
  pos_o : ∀ k, k < n → pos (o k) = k + 1
  pos_lo : ∀ v, v < n → 1 ≤ pos v
  pos_hi : ∀ v, v < n → pos v ≤ n
  o_pos : ∀ v, v < n → o (pos v - 1) = v
  q_lt : ∀ i j, i < np → i < n → j < L i → q i j < n
  q_pos : ∀ i j, i < np → i < n → j < L i → pos (q i j) < pos i
  empty : ∀ i, i < np → n ≤ i → L i = 0

/-- p is a parent of v. -/
def E (n np : Nat) (L : Nat → Nat) (q : Nat → Nat → Nat) (p v : Nat) : Prop := v < np ∧ v < n ∧ ∃ j, j < L v ∧ q v j = p
/-- p is an ancestor of v. -/
def Anc (n np : Nat) (L : Nat → Nat) (q : Nat → Nat → Nat) (p v : Nat) : Prop := Relation.TransGen (E n np L q) p v

section
variable {n np : Nat} {o L pos : Nat → Nat} {q : Nat → Nat → Nat}

theorem Gr.e_pos (g : Gr n np o L q pos) {p v : Nat} (h : E n np L q p v) : p < n ∧ v < n ∧ pos p < pos v := by
  obtain ⟨h1, h2, j, hj, rfl⟩ := h
  exact ⟨g.q_lt v j h1 h2 hj, h2, g.q_pos v j h1 h2 hj⟩

theorem Gr.anc_pos (g : Gr n np o L q pos) {p v : Nat} (h : Anc n np L q p v) : p < n ∧ v < n ∧ pos p < pos v := by
  induction h with
  | single h => exact g.e_pos h
  | tail _ h ih =>
    have := g.e_pos h
    exact ⟨ih.1, this.2.1, by omega⟩

theorem anc_last {z v : Nat} : Anc n np L q z v ↔ ∃ p, E n np L q p v ∧ (z = p ∨ Anc n np L q z p) := by
  constructor
  · intro h
    cases h with
    | single h => exact ⟨z, h, .inl rfl⟩
    | tail h1 h2 => exact ⟨_, h2, .inr h1⟩
  · rintro ⟨p, h, rfl | h2⟩
    · exact .single h
    · exact .tail h2 h

theorem anc_cons {z c v : Nat} (h1 : E n np L q z c) (h2 : Anc n np L q c v) : Anc n np L q z v := by
  induction h2 with
  | single h => exact .tail (.single h1) h
  | tail _ h ih => exact .tail ih h

theorem anc_first {z v : Nat} : Anc n np L q z v ↔ ∃ c, E n np L q z c ∧ (c = v ∨ Anc n np L q c v) := by
  constructor
  · intro h
    induction h with
    | single h => exact ⟨_, h, .inl rfl⟩
    | tail h1 h2 ih =>
      obtain ⟨c, hc, rfl | hv⟩ := ih
      · exact ⟨c, hc, .inr (.single h2)⟩
      · exact ⟨c, hc, .inr (.tail hv h2)⟩
  · rintro ⟨c, h, rfl | h2⟩
    · exact .single h
    · exact anc_cons h h2

/-- What knownPlaces says of the place k. -/
def KN (n np : Nat) (o L : Nat → Nat) (q : Nat → Nat → Nat) (pos : Nat → Nat) (k : Nat) : Prop :=
  (∀ a, 1 ≤ a → a + 2 ≤ k → ∃ v, E n np L q (o (a - 1)) v ∧ pos v ≤ k - 1) ∧ (k = 1 ∨ E n np L q (o (k - 2)) (o (k - 1))) ∧
  ∀ b, k < b → b ≤ n → ∃ p, E n np L q p (o (b - 1)) ∧ k ≤ pos p

theorem Gr.pos_o' (g : Gr n np o L q pos) {b : Nat} (h1 : 1 ≤ b) (h2 : b ≤ n) : pos (o (b - 1)) = b := by
  have := g.pos_o (b - 1) (by omega); omega

theorem Gr.eq_of_pos (g : Gr n np o L q pos) {u v : Nat} (hu : u < n) (hv : v < n) (h : pos u = pos v) : u = v := by
  rw [← g.o_pos u hu, ← g.o_pos v hv, h]

/-- From y on: whoever stands behind y has a parent at y or behind it, so it descends from y. -/
theorem Gr.down (g : Gr n np o L q pos) {k : Nat} (h1 : 1 ≤ k) (hk : k ≤ n) (h : ∀ b, k < b → b ≤ n → ∃ p, E n np L q p (o (b - 1)) ∧ k ≤ pos p) :
    ∀ (d z : Nat), z < n → pos z = k + d → z = o (k - 1) ∨ Anc n np L q (o (k - 1)) z := by
  intro d
  induction d using Nat.strongRecOn with
  | ind d ih =>
    intro z hz hp
    by_cases hd : d = 0
    · left
      refine g.eq_of_pos hz (g.o_lt _ (by omega)) ?_
      rw [g.pos_o' h1 hk]; omega
    · right
      obtain ⟨p, hE, hkp⟩ := h (pos z) (by omega) (g.pos_hi z hz)
      rw [g.o_pos z hz] at hE
      obtain ⟨hpn, _, hlt⟩ := g.e_pos hE
      refine anc_last.2 ⟨p, hE, ?_⟩
      rcases ih (pos p - k) (by omega) p hpn (by omega) with e | e
      · exact .inl e.symm
      · exact .inr e

/-- Up to x: whoever stands ahead of x has a child at x at the latest, so it is an ancestor of x. -/
theorem Gr.up (g : Gr n np o L q pos) {k : Nat} (h1 : 2 ≤ k) (hk : k ≤ n) (h : ∀ a, 1 ≤ a → a + 2 ≤ k → ∃ v, E n np L q (o (a - 1)) v ∧ pos v ≤ k - 1) :
    ∀ (d z : Nat), z < n → pos z + d = k - 1 → z = o (k - 2) ∨ Anc n np L q z (o (k - 2)) := by
  intro d
  induction d using Nat.strongRecOn with
  | ind d ih =>
    intro z hz hp
    by_cases hd : d = 0
    · left
      refine g.eq_of_pos hz (g.o_lt _ (by omega)) ?_
      have := g.pos_o' (b := k - 1) (by omega) (by omega)
      rw [show k - 1 - 1 = k - 2 by omega] at this
      omega
    · right
      obtain ⟨v, hE, hv⟩ := h (pos z) (g.pos_lo z hz) (by omega)
      rw [g.o_pos z hz] at hE
      obtain ⟨_, hvn, hlt⟩ := g.e_pos hE
      refine anc_first.2 ⟨v, hE, ?_⟩
      exact ih (k - 1 - pos v) (by omega) v hvn (by omega)

theorem Gr.want_one (g : Gr n np o L q pos) (hn : 1 ≤ n) : KN n np o L q pos 1 ↔ ∀ z, z < n → z = o 0 ∨ Anc n np L q (o 0) z := by
  constructor
  · rintro ⟨_, _, h3⟩ z hz
    exact g.down (Nat.le_refl _) hn h3 (pos z - 1) z hz (by have := g.pos_lo z hz; omega)
  · intro h
    refine ⟨fun a h1 h2 => by omega, .inl rfl, fun b h1 h2 => ?_⟩
    have hp := g.pos_o' (b := b) (by omega) h2
    have hp0 := g.pos_o 0 (by omega)
    rcases h (o (b - 1)) (g.o_lt _ (by omega)) with e | e
    · rw [e] at hp; omega
    · obtain ⟨p, hE, _⟩ := anc_last.1 e
      exact ⟨p, hE, g.pos_lo p (g.e_pos hE).1⟩

theorem Gr.want_more (g : Gr n np o L q pos) {k : Nat} (h1 : 2 ≤ k) (hk : k ≤ n) :
    KN n np o L q pos k ↔ Anc n np L q (o (k - 2)) (o (k - 1)) ∧ ∀ z, z < n → z = o (k - 2) ∨ z = o (k - 1) ∨ Anc n np L q z (o (k - 2)) ∨ Anc n np L q (o (k - 1)) z := by
  have px : pos (o (k - 2)) = k - 1 := by
    have := g.pos_o' (b := k - 1) (by omega) (by omega)
    rwa [show k - 1 - 1 = k - 2 by omega] at this
  have py : pos (o (k - 1)) = k := g.pos_o' (by omega) hk
  constructor
  · rintro ⟨h3, h4, h5⟩
    refine ⟨.single (h4.resolve_left (by omega)), fun z hz => ?_⟩
    by_cases hp : pos z ≤ k - 1
    · rcases g.up h1 hk h3 (k - 1 - pos z) z hz (by omega) with e | e
      · exact .inl e
      · exact .inr (.inr (.inl e))
    · rcases g.down (by omega) hk h5 (pos z - k) z hz (by omega) with e | e
      · exact .inr (.inl e)
      · exact .inr (.inr (.inr e))
  · rintro ⟨h3, h4⟩
    refine ⟨fun a ha1 ha2 => ?_, .inr ?_, fun b hb1 hb2 => ?_⟩
    · have hp := g.pos_o' (b := a) (by omega) (by omega)
      have hz := g.o_lt (a - 1) (by omega)
      rcases h4 _ hz with e | e | e | e
      · rw [e] at hp; omega
      · rw [e] at hp; omega
      · obtain ⟨c, hE, e | e⟩ := anc_first.1 e
        · exact ⟨c, hE, by rw [e]; omega⟩
        · exact ⟨c, hE, by have := (g.anc_pos e).2.2; omega⟩
      · have := (g.anc_pos e).2.2; omega
    · obtain ⟨p, hE, e | e⟩ := anc_last.1 h3
      · rw [e]; exact hE
      · have := (g.anc_pos e).2.2
        have := (g.e_pos hE).2.2
        omega
    · have hp := g.pos_o' (b := b) (by omega) hb2
      have hz := g.o_lt (b - 1) (by omega)
      rcases h4 _ hz with e | e | e | e
      · rw [e] at hp; omega
      · rw [e] at hp; omega
      · have := (g.anc_pos e).2.2; omega
      · obtain ⟨p, hE, e | e⟩ := anc_last.1 e
        · exact ⟨p, hE, by rw [← e]; omega⟩
        · exact ⟨p, hE, by have := (g.anc_pos e).2.2; omega⟩

/-! ### The latest parent and the earliest child, as far as the edges of 'T' -/

/-- The edge (v, j) has been looked at when row i has been read as far as j. -/
def Done (n np : Nat) (L : Nat → Nat) (i j v k : Nat) : Prop := v < np ∧ v < n ∧ k < L v ∧ (v < i ∨ (v = i ∧ k < j))

structure LPs (n np : Nat) (L : Nat → Nat) (q : Nat → Nat → Nat) (pos : Nat → Nat) (i j : Nat) (lP : Nat → Nat) : Prop where
  all : ∀ v k, Done n np L i j v k → pos (q v k) ≤ lP (pos v)
  some : ∀ v, v < n → lP (pos v) = 0 ∨ ∃ k, Done n np L i j v k ∧ pos (q v k) = lP (pos v)
  bound : ∀ x, lP x ≤ n

structure ECs (n np : Nat) (L : Nat → Nat) (q : Nat → Nat → Nat) (pos : Nat → Nat) (i j : Nat) (eC : Nat → Nat) : Prop where
  zero : eC 0 ≤ 1
  all : ∀ v k, Done n np L i j v k → eC (pos (q v k)) ≤ pos v
  some : ∀ p, p < n → eC (pos p) = n + 1 ∨ ∃ v k, Done n np L i j v k ∧ q v k = p ∧ pos v = eC (pos p)
  bound : ∀ x, eC x ≤ n + 1

theorem Done.next {i j v k : Nat} : Done n np L i (j + 1) v k ↔ Done n np L i j v k ∨ (v = i ∧ k = j ∧ i < np ∧ i < n ∧ j < L i) := by
  unfold Done
  constructor
  · rintro ⟨h1, h2, h3, h4⟩
    by_cases e : v = i ∧ k = j
    · right; obtain ⟨rfl, rfl⟩ := e; exact ⟨rfl, rfl, h1, h2, h3⟩
    · left; exact ⟨h1, h2, h3, by omega⟩
  · rintro (⟨h1, h2, h3, h4⟩ | ⟨rfl, rfl, h1, h2, h3⟩)
    · exact ⟨h1, h2, h3, by omega⟩
    · exact ⟨h1, h2, h3, by omega⟩

theorem Done.row {i v k : Nat} : Done n np L i (L i) v k ↔ Done n np L (i + 1) 0 v k := by
  unfold Done
  constructor
  · rintro ⟨h1, h2, h3, h4⟩; exact ⟨h1, h2, h3, by omega⟩
  · rintro ⟨h1, h2, h3, h4⟩
    refine ⟨h1, h2, h3, ?_⟩
    by_cases e : v = i
    · right; exact ⟨e, by rw [← e]; exact h3⟩
    · left; omega

theorem lps_row {i : Nat} {lP : Nat → Nat} (h : LPs n np L q pos i (L i) lP) : LPs n np L q pos (i + 1) 0 lP :=
  ⟨fun v k hd => h.all v k (Done.row.2 hd), fun v hv => by rcases h.some v hv with e | ⟨k, h1, h2⟩; exact .inl e; exact .inr ⟨k, Done.row.1 h1, h2⟩, h.bound⟩

theorem ecs_row {i : Nat} {eC : Nat → Nat} (h : ECs n np L q pos i (L i) eC) : ECs n np L q pos (i + 1) 0 eC :=
  ⟨h.zero, fun v k hd => h.all v k (Done.row.2 hd), fun p hp => by rcases h.some p hp with e | ⟨v, k, h1, h2⟩; exact .inl e; exact .inr ⟨v, k, Done.row.1 h1, h2⟩, h.bound⟩

theorem lps_start : LPs n np L q pos 0 0 (fun _ => 0) :=
  ⟨fun v k hd => by obtain ⟨_, _, _, h⟩ := hd; omega, fun _ _ => .inl rfl, fun _ => Nat.zero_le _⟩

theorem ecs_start (g : Gr n np o L q pos) {eC : Nat → Nat} (h0 : eC 0 ≤ 1) (h : ∀ x, 1 ≤ x → eC x = n + 1) : ECs n np L q pos 0 0 eC :=
  ⟨h0, fun v k hd => by obtain ⟨_, _, _, h⟩ := hd; omega, fun p hp => .inl (h _ (g.pos_lo p hp)), fun x => by
    by_cases e : x = 0
    · rw [e]; omega
    · rw [h x (by omega)]; omega⟩

theorem lps_step (g : Gr n np o L q pos) {i j : Nat} {lP : Nat → Nat} (h : LPs n np L q pos i j lP) (hi : i < np) (hn : i < n) (hj : j < L i) :
    LPs n np L q pos i (j + 1) (fun x => if x = pos i then max (lP (pos i)) (pos (q i j)) else lP x) := by
  have hpi := g.pos_lo i hn
  have hqn := g.q_lt i j hi hn hj
  refine ⟨fun v k hd => ?_, fun v hv => ?_, fun x => ?_⟩
  · rcases Done.next.1 hd with hd | ⟨rfl, rfl, _⟩
    · have := h.all v k hd
      show _ ≤ (if pos v = pos i then _ else _)
      by_cases e : pos v = pos i
      · rw [if_pos e]; rw [e] at this; omega
      · rw [if_neg e]; exact this
    · show _ ≤ (if pos v = pos v then _ else _)
      rw [if_pos rfl]; omega
  · show (if pos v = pos i then _ else _) = 0 ∨ _
    by_cases e : pos v = pos i
    · have ev : v = i := g.eq_of_pos hv hn e
      subst ev
      rw [if_pos rfl]
      rcases Nat.le_total (lP (pos v)) (pos (q v j)) with hle | hle
      · right; exact ⟨j, Done.next.2 (.inr ⟨rfl, rfl, hi, hn, hj⟩), by omega⟩
      · rcases h.some v hv with e0 | ⟨k, hd, ek⟩
        · left; omega
        · right; exact ⟨k, Done.next.2 (.inl hd), by omega⟩
    · rw [if_neg e]
      rcases h.some v hv with e0 | ⟨k, hd, ek⟩
      · exact .inl e0
      · right; exact ⟨k, Done.next.2 (.inl hd), ek⟩
  · show (if x = pos i then _ else _) ≤ n
    have := h.bound (pos i)
    have := g.pos_hi (q i j) hqn
    split
    · omega
    · exact h.bound x

theorem ecs_step (g : Gr n np o L q pos) {i j : Nat} {eC : Nat → Nat} (h : ECs n np L q pos i j eC) (hi : i < np) (hn : i < n) (hj : j < L i) :
    ECs n np L q pos i (j + 1) (fun x => if x = pos (q i j) then min (eC (pos (q i j))) (pos i) else eC x) := by
  have hqn := g.q_lt i j hi hn hj
  have hpq := g.pos_lo (q i j) hqn
  have hpi := g.pos_hi i hn
  refine ⟨?_, fun v k hd => ?_, fun p hp => ?_, fun x => ?_⟩
  · show (if 0 = pos (q i j) then _ else _) ≤ 1
    rw [if_neg (by omega)]; exact h.zero
  · show (if pos (q v k) = pos (q i j) then _ else _) ≤ pos v
    rcases Done.next.1 hd with hd | ⟨rfl, rfl, _⟩
    · have := h.all v k hd
      by_cases e : pos (q v k) = pos (q i j)
      · rw [if_pos e]; rw [e] at this; omega
      · rw [if_neg e]; exact this
    · rw [if_pos rfl]; omega
  · show (if pos p = pos (q i j) then _ else _) = n + 1 ∨ _
    by_cases e : pos p = pos (q i j)
    · have ev : p = q i j := g.eq_of_pos hp hqn e
      rw [if_pos e]
      rcases Nat.le_total (pos i) (eC (pos (q i j))) with hle | hle
      · right
        refine ⟨i, j, Done.next.2 (.inr ⟨rfl, rfl, hi, hn, hj⟩), ev.symm, ?_⟩
        omega
      · rcases h.some p hp with e0 | ⟨v, k, hd, eq, ek⟩
        · left; rw [e] at e0; omega
        · right
          refine ⟨v, k, Done.next.2 (.inl hd), eq, ?_⟩
          rw [e] at ek; omega
    · rw [if_neg e]
      rcases h.some p hp with e0 | ⟨v, k, hd, eq, ek⟩
      · exact .inl e0
      · right
        refine ⟨v, k, Done.next.2 (.inl hd), eq, ?_⟩
        exact ek
  · show (if x = pos (q i j) then _ else _) ≤ n + 1
    split
    · omega
    · exact h.bound x

/-- What the three tests of knownPlaces say. -/
theorem Gr.known_iff (g : Gr n np o L q pos) {lP eC : Nat → Nat} (hl : LPs n np L q pos np 0 lP) (he : ECs n np L q pos np 0 eC) {k : Nat} (h1 : 1 ≤ k) (hk : k ≤ n) :
    ((∀ a, a + 2 ≤ k → eC a ≤ k - 1) ∧ lP k = k - 1 ∧ ∀ b, k < b → b ≤ n → k ≤ lP b) ↔ KN n np o L q pos k := by
  have full : ∀ p v, E n np L q p v ↔ ∃ j, Done n np L np 0 v j ∧ q v j = p := by
    intro p v
    constructor
    · rintro ⟨a, b, j, hj, e⟩; exact ⟨j, ⟨a, b, hj, .inl a⟩, e⟩
    · rintro ⟨j, ⟨a, b, hj, _⟩, e⟩; exact ⟨a, b, j, hj, e⟩
  have hpar : ∀ v m, v < n → 1 ≤ m → (m ≤ lP (pos v) ↔ ∃ p, E n np L q p v ∧ m ≤ pos p) := by
    intro v m hv hm
    constructor
    · intro h
      rcases hl.some v hv with e | ⟨j, hd, e⟩
      · omega
      · exact ⟨q v j, (full _ _).2 ⟨j, hd, rfl⟩, by omega⟩
    · rintro ⟨p, hE, hm⟩
      obtain ⟨j, hd, rfl⟩ := (full _ _).1 hE
      have := hl.all v j hd
      omega
  constructor
  · rintro ⟨h3, h4, h5⟩
    refine ⟨fun a ha1 ha2 => ?_, ?_, fun b hb1 hb2 => ?_⟩
    · have := h3 a ha2
      have hp := g.pos_o' (b := a) (by omega) (by omega)
      rcases he.some (o (a - 1)) (g.o_lt _ (by omega)) with e | ⟨v, j, hd, eq, e⟩
      · rw [hp] at e; omega
      · exact ⟨v, (full _ _).2 ⟨j, hd, eq⟩, by rw [hp] at e; omega⟩
    · by_cases e1 : k = 1
      · exact .inl e1
      · right
        have hp := g.pos_o' (b := k) h1 hk
        rcases hl.some (o (k - 1)) (g.o_lt _ (by omega)) with e | ⟨j, hd, e⟩
        · rw [hp] at e; omega
        · rw [hp, h4] at e
          have hE : E n np L q (q (o (k - 1)) j) (o (k - 1)) := (full _ _).2 ⟨j, hd, rfl⟩
          have px : pos (o (k - 2)) = k - 1 := by
            have := g.pos_o' (b := k - 1) (by omega) (by omega)
            rwa [show k - 1 - 1 = k - 2 by omega] at this
          rw [g.eq_of_pos (g.o_lt (k - 2) (by omega)) (g.e_pos hE).1 (by rw [px, e])]
          exact hE
    · have := h5 b hb1 hb2
      have hp := g.pos_o' (b := b) (by omega) hb2
      exact (hpar (o (b - 1)) k (g.o_lt _ (by omega)) h1).1 (by rw [hp]; exact this)
  · rintro ⟨h3, h4, h5⟩
    have hp := g.pos_o' (b := k) h1 hk
    refine ⟨fun a ha2 => ?_, ?_, fun b hb1 hb2 => ?_⟩
    · by_cases ha : a = 0
      · rw [ha]; have := he.zero; omega
      · obtain ⟨v, hE, hv⟩ := h3 a (by omega) ha2
        obtain ⟨j, hd, e⟩ := (full _ _).1 hE
        have := he.all v j hd
        rw [e, g.pos_o' (by omega) (by omega)] at this
        omega
    · have hle : lP k ≤ k - 1 := by
        rcases hl.some (o (k - 1)) (g.o_lt _ (by omega)) with e | ⟨j, hd, e⟩
        · rw [hp] at e; omega
        · have hE : E n np L q (q (o (k - 1)) j) (o (k - 1)) := (full _ _).2 ⟨j, hd, rfl⟩
          have := (g.e_pos hE).2.2
          rw [hp] at e this
          omega
      rcases h4 with e | hE
      · omega
      · by_cases e1 : k = 1
        · omega
        · have px : pos (o (k - 2)) = k - 1 := by
            have := g.pos_o' (b := k - 1) (by omega) (by omega)
            rwa [show k - 1 - 1 = k - 2 by omega] at this
          have := (hpar (o (k - 1)) (k - 1) (g.o_lt _ (by omega)) (by omega)).2 ⟨_, hE, by omega⟩
          rw [hp] at this
          omega
    · have hp := g.pos_o' (b := b) (by omega) hb2
      have := (hpar (o (b - 1)) k (g.o_lt _ (by omega)) h1).2 (h5 b hb1 hb2)
      rwa [hp] at this
end
end Go.Proofs.Qxb6605219a
