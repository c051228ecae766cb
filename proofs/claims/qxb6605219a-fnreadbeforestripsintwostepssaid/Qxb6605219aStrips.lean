import Derived.Test.Qxb6605219aSplit
namespace Go.Proofs.Qxb6605219a
open Go.RowKit
set_option linter.unusedVariables false

theorem endB_iff {zs ys : List Int} : endB zs ys = true ↔ ys <:+ zs := by
  constructor
  · intro h
    exact ⟨_, (split_law h).1⟩
  · rintro ⟨p, rfl⟩
    unfold endB
    rw [if_neg (by simp)]
    have e : (p ++ ys).length - ys.length = p.length := by simp
    rw [e, List.drop_left]
    simp [eqB]

/-- Cutting 'A ++ B' off in one step answers as cutting B off, then A. -/
theorem two_steps (Z A B : List Int) : endB Z (A ++ B) = (endB Z B && endB (Z.take (Z.length - B.length)) A) := by
  rw [Bool.eq_iff_iff, Bool.and_eq_true, endB_iff, endB_iff, endB_iff]
  constructor
  · rintro ⟨p, rfl⟩
    refine ⟨⟨p ++ A, by simp⟩, p, ?_⟩
    have e : (p ++ (A ++ B)).length - B.length = (p ++ A).length := by simp; omega
    rw [e, ← List.append_assoc, List.take_left]
  · rintro ⟨⟨q, rfl⟩, p, hp⟩
    have e : (q ++ B).length - B.length = q.length := by simp
    rw [e, List.take_left] at hp
    exact ⟨p, by rw [← hp]; simp⟩

theorem zz12_any (a : Option Addr) (n c : Nat) (b : Option Addr) (m d : Nat) (g : Option Addr) (l f : Nat) (w : World) (hn : n ≤ 9223372036854775807) (hm : m ≤ 9223372036854775807) (hl : l ≤ 9223372036854775807) :
    Calls Try.prog 12 #[.slice a n c, .slice b m d, .slice g l f] w fun e w' => (∃ r, e = .returned (.bool r)) ∧ w = w' := by
  go_enter Try.func12, Try.ntmps12
  go_wp2
  all_goals (go_ret; exact ⟨⟨_, rfl⟩, rfl⟩)

set_option maxHeartbeats 400000 in
theorem strips_big (a : Option Addr) (n c : Nat) (b : Option Addr) (m d : Nat) (g : Option Addr) (l f : Nat) (w : World) (hn : n ≤ 9223372036854775807) (hm : m ≤ 9223372036854775807) (hl : l ≤ 9223372036854775807)
    (hbig : ¬ (n ≤ 65536 ∧ m ≤ 32768 ∧ l ≤ 32768)) :
    Calls Try.prog 4 #[.slice a n c, .slice b m d, .slice g l f] w fun e w' => e = .returned (.bool true) ∧ Below w.heap.size w w' := by
  by_cases h1 : n ≤ 65536
  · by_cases h2 : m ≤ 32768
    · have h3 : 32768 < l := by omega
      clear hbig
      go_enter Try.func4, Try.ntmps4
      go_wp2_with fail
      refine (zz12_any _ _ _ _ _ _ _ _ _ _ hn hm hl).mono ?_
      rintro e w' ⟨⟨r, rfl⟩, rfl⟩
      cases r <;> (go_wp2; go_ret; exact ⟨rfl, Below.refl _ _⟩)
    · have h3 : 32768 < m := by omega
      clear hbig h2
      go_enter Try.func4, Try.ntmps4
      go_wp2_with fail
      refine (zz12_any _ _ _ _ _ _ _ _ _ _ hn hm hl).mono ?_
      rintro e w' ⟨⟨r, rfl⟩, rfl⟩
      cases r <;> (go_wp2; go_ret; exact ⟨rfl, Below.refl _ _⟩)
  · have h3 : 65536 < n := by omega
    clear hbig h1
    go_enter Try.func4, Try.ntmps4
    go_wp2_with fail
    refine (zz12_any _ _ _ _ _ _ _ _ _ _ hn hm hl).mono ?_
    rintro e w' ⟨⟨r, rfl⟩, rfl⟩
    cases r <;> (go_wp2; go_ret; exact ⟨rfl, Below.refl _ _⟩)

theorem Sl.box {w w' : World} {a : Option Addr} {n c : Nat} {zs : List Int} {o : Obj} (h : Sl w a n c zs) (hb : Below (w.alloc o).heap.size (w.alloc o) w') : Sl w' a n c zs :=
  (h.later ((Below.refl _ _).alloc (Nat.le_refl _) _)).later hb

theorem below_box {B : Nat} {w w1 w2 : World} {o : Obj} (h : Below B w w1) (hB : B ≤ w1.heap.size) (h2 : Below (w1.alloc o).heap.size (w1.alloc o) w2) : Below B w w2 :=
  (h.alloc hB o).trans (h2.mono (by simp; omega))

set_option maxHeartbeats 1600000 in
theorem strips_walk (a : Option Addr) (n c : Nat) (zs : List Int) (b : Option Addr) (m d : Nat) (ys : List Int) (g : Option Addr) (l f : Nat) (xs : List Int) (w : World) (h1 : Sl w a n c zs) (h2 : Sl w b m d ys) (h3 : Sl w g l f xs)
    (hn : n ≤ 65536) (hm : m ≤ 32768) (hl : l ≤ 32768) :
    Calls Try.prog 4 #[.slice a n c, .slice b m d, .slice g l f] w fun e w' => e = .returned (.bool true) ∧ Below w.heap.size w w' := by
  have HL : Hid (zs.length = n ∧ ys.length = m ∧ xs.length = l) := ⟨h1.len, h2.len, h3.len⟩
  have HT : Hid (endB zs (ys ++ xs) = (endB zs xs && endB (zs.take (n - l)) ys)) := by
    have := two_steps zs ys xs
    rw [h1.len, h3.len] at this
    exact this
  go_enter Try.func4, Try.ntmps4
  go_wp2_with fail
  refine (zz12_any _ _ _ _ _ _ _ _ _ _ (by omega) (by omega) (by omega)).mono ?_
  rintro e w' ⟨⟨r, rfl⟩, rfl⟩
  cases r
  · go_wp2
    go_ret
    exact ⟨rfl, Below.refl _ _⟩
  · go_wp2_with fail
    refine (clone_any _ _ _ _ _ h1 (by omega)).mono ?_
    rintro e w1 ⟨a1, c1, rfl, hZ1, hb1⟩
    go_wp2_with fail
    refine (clone_any _ _ _ _ _ (h2.later hb1) (by omega)).mono ?_
    rintro e w2 ⟨a2, c2, rfl, hY2, hb2⟩
    have hB2 : Below w.heap.size w w2 := hb1.trans (hb2.mono hb1.size)
    go_wp2_with fail
    refine (clone_any _ _ _ _ _ (h3.later hB2) (by omega)).mono ?_
    rintro e w3 ⟨a3, c3, rfl, hX3, hb3⟩
    have hB3 : Below w.heap.size w w3 := hB2.trans (hb3.mono hB2.size)
    have hZ3 := (hZ1.later hb2).later hb3
    have hY3 := hY2.later hb3
    clear h1 h2 h3 hZ1 hY2 hb1 hb2 hb3 hB2
    go_wp2_with fail
    refine (concat_any _ _ _ _ _ _ _ _ _ hY3 hX3 (by omega) (by omega)).mono ?_
    rintro e w4 ⟨a4, rfl, hW4, hb4⟩
    have hB4 : Below w.heap.size w w4 := hB3.trans (hb4.mono hB3.size)
    have hZ4 := hZ3.later hb4
    have hY4 := hY3.later hb4
    have hX4 := hX3.later hb4
    clear hZ3 hY3 hX3 hB3 hb4
    go_wp2_with fail
    refine (before_any _ _ _ _ _ _ _ _ _ _ _ (by exact hZ4.later ((Below.refl _ _).alloc (Nat.le_refl _) _)) (by exact hW4.later ((Below.refl _ _).alloc (Nat.le_refl _) _)) (by omega)).mono ?_
    rintro e w5 ⟨hb5, hcase⟩
    have hB5 : Below w.heap.size w w5 := below_box hB4 hB4.size hb5
    have hZ5 := hZ4.box hb5
    have hY5 := hY4.box hb5
    have hX5 := hX4.box hb5
    have hW5 := hW4.box hb5
    clear hZ4 hY4 hX4 hW4 hB4 hb5
    rcases hcase with ⟨hE, rfl⟩ | ⟨hE, a5, rfl, hS5⟩
    · -- the one step fails
      go_wp2_with fail
      refine (ends_any _ _ _ _ _ _ _ _ _ hZ5 hW5 (by omega)).mono ?_
      rintro e w6 ⟨rfl, hb6⟩
      rw [hE]
      have hB6 : Below w.heap.size w w6 := hB5.trans (hb6.mono hB5.size)
      have hZ6 := hZ5.later hb6
      have hY6 := hY5.later hb6
      have hX6 := hX5.later hb6
      have HE : Hid (endB zs (ys ++ xs) = false) := hE
      clear hZ5 hY5 hX5 hW5 hB5 hb6 hE
      go_wp2_with fail
      refine (before_any _ _ _ _ _ _ _ _ _ _ _ (by exact hZ6.later ((Below.refl _ _).alloc (Nat.le_refl _) _)) (by exact hX6.later ((Below.refl _ _).alloc (Nat.le_refl _) _)) (by omega)).mono ?_
      rintro e w7 ⟨hb7, hcase⟩
      have hB7 : Below w.heap.size w w7 := below_box hB6 hB6.size hb7
      have hZ7 := hZ6.box hb7
      have hY7 := hY6.box hb7
      have hX7 := hX6.box hb7
      clear hZ6 hY6 hX6 hB6 hb7
      rcases hcase with ⟨hM, rfl⟩ | ⟨hM, a7, rfl, hS7⟩
      · go_wp2_with fail
        refine (ends_any _ _ _ _ _ _ _ _ _ hZ7 hX7 (by omega)).mono ?_
        rintro e w8 ⟨rfl, hb8⟩
        rw [hM]
        have hB8 : Below w.heap.size w w8 := hB7.trans (hb8.mono hB7.size)
        clear hZ7 hY7 hX7 hB7 hb8 hM
        go_wp2
        go_ret
        exact ⟨rfl, hB8⟩
      · go_wp2_with fail
        refine (ends_any _ _ _ _ _ _ _ _ _ hZ7 hX7 (by omega)).mono ?_
        rintro e w8 ⟨rfl, hb8⟩
        rw [hM]
        have hB8 : Below w.heap.size w w8 := hB7.trans (hb8.mono hB7.size)
        have hY8 := hY7.later hb8
        have hS8 := hS7.later hb8
        have HM : Hid (endB zs xs = true) := hM
        clear hZ7 hY7 hX7 hB7 hb8 hM hS7
        go_wp2_with fail
        refine (before_any _ _ _ _ _ _ _ _ _ _ _ (by exact hS8.later ((Below.refl _ _).alloc (Nat.le_refl _) _)) (by exact hY8.later ((Below.refl _ _).alloc (Nat.le_refl _) _)) (by omega)).mono ?_
        rintro e w9 ⟨hb9, hcase⟩
        have hB9 : Below w.heap.size w w9 := below_box hB8 hB8.size hb9
        clear hS8 hY8 hB8 hb9
        rcases hcase with ⟨hT, rfl⟩ | ⟨hT, a9, rfl, hS9⟩
        · clear hT
          go_wp2
          go_ret
          exact ⟨rfl, hB9⟩
        · exfalso
          have := HT.out
          rw [HE.out, HM.out, hT] at this
          cases this
    · -- the one step cuts
      go_wp2_with fail
      refine (ends_any _ _ _ _ _ _ _ _ _ hZ5 hW5 (by omega)).mono ?_
      rintro e w6 ⟨rfl, hb6⟩
      rw [hE]
      have hB6 : Below w.heap.size w w6 := hB5.trans (hb6.mono hB5.size)
      have hZ6 := hZ5.later hb6
      have hY6 := hY5.later hb6
      have hX6 := hX5.later hb6
      have hW6 := hW5.later hb6
      have hS6 := hS5.later hb6
      have hle : m + l ≤ n := by
        have := (split_law hE).2
        rw [List.length_append, HL.out.1, HL.out.2.1, HL.out.2.2] at this
        exact this
      have hT := HT.out
      rw [hE] at hT
      have hM : endB zs xs = true := by
        cases h : endB zs xs
        · rw [h] at hT; simp at hT
        · rfl
      have hT2 : endB (zs.take (n - l)) ys = true := by
        rw [hM] at hT; simpa using hT.symm
      have HE : Hid (zs.take (n - (m + l)) ++ (ys ++ xs) = zs) := by
        have := (split_law hE).1
        rw [List.length_append, HL.out.1, HL.out.2.1, HL.out.2.2] at this
        exact this
      have HM : Hid (endB zs xs = true ∧ endB (zs.take (n - l)) ys = true) := ⟨hM, hT2⟩
      clear hZ5 hY5 hX5 hW5 hS5 hB5 hb6 hE hT hM hT2 HT
      go_wp2_with fail
      refine (concat_any _ _ _ _ _ _ _ _ _ hS6 hW6 (by omega) (by omega)).mono ?_
      rintro e w7 ⟨a7, he7, hS7, hb7⟩
      rw [Nat.sub_add_cancel hle] at he7 hS7
      subst he7
      rw [HE.out] at hS7
      have hB7 : Below w.heap.size w w7 := hB6.trans (hb7.mono hB6.size)
      have hZ7 := hZ6.later hb7
      have hY7 := hY6.later hb7
      have hX7 := hX6.later hb7
      have hR7 := hS6.later hb7
      clear hZ6 hY6 hX6 hW6 hS6 hB6 hb7
      go_wp2_with fail
      refine (same_any _ _ _ _ _ _ _ _ _ hS7 hZ7 (by omega)).mono ?_
      rintro e w8 ⟨rfl, hb8⟩
      have e2 : eqB zs zs = true := by simp [eqB]
      rw [e2]
      have hB8 : Below w.heap.size w w8 := hB7.trans (hb8.mono hB7.size)
      have hZ8 := hZ7.later hb8
      have hY8 := hY7.later hb8
      have hX8 := hX7.later hb8
      have hR8 := hR7.later hb8
      clear hZ7 hY7 hX7 hR7 hS7 hB7 hb8 e2
      go_wp2_with fail
      refine (before_any _ _ _ _ _ _ _ _ _ _ _ (by exact hZ8.later ((Below.refl _ _).alloc (Nat.le_refl _) _)) (by exact hX8.later ((Below.refl _ _).alloc (Nat.le_refl _) _)) (by omega)).mono ?_
      rintro e w9 ⟨hb9, hcase⟩
      have hB9 : Below w.heap.size w w9 := below_box hB8 hB8.size hb9
      have hZ9 := hZ8.box hb9
      have hY9 := hY8.box hb9
      have hX9 := hX8.box hb9
      have hR9 := hR8.box hb9
      clear hZ8 hY8 hX8 hR8 hB8 hb9
      rcases hcase with ⟨hM, rfl⟩ | ⟨hM, a9, rfl, hS9⟩
      · exfalso; rw [HM.out.1] at hM; cases hM
      · go_wp2_with fail
        refine (ends_any _ _ _ _ _ _ _ _ _ hZ9 hX9 (by omega)).mono ?_
        rintro e w10 ⟨rfl, hb10⟩
        rw [hM]
        have hB10 : Below w.heap.size w w10 := hB9.trans (hb10.mono hB9.size)
        have hY10 := hY9.later hb10
        have hS10 := hS9.later hb10
        have hR10 := hR9.later hb10
        clear hZ9 hY9 hX9 hR9 hS9 hB9 hb10 hM
        go_wp2_with fail
        refine (before_any _ _ _ _ _ _ _ _ _ _ _ (by exact hS10.later ((Below.refl _ _).alloc (Nat.le_refl _) _)) (by exact hY10.later ((Below.refl _ _).alloc (Nat.le_refl _) _)) (by omega)).mono ?_
        rintro e w11 ⟨hb11, hcase⟩
        have hB11 : Below w.heap.size w w11 := below_box hB10 hB10.size hb11
        have hR11 := hR10.box hb11
        clear hS10 hY10 hR10 hB10 hb11
        rcases hcase with ⟨hT, rfl⟩ | ⟨hT, a11, rfl, hS11⟩
        · exfalso; rw [HM.out.2] at hT; cases hT
        · clear hT
          go_wp2_with fail
          refine (same_any _ _ _ _ _ _ _ _ _ hR11 hS11 (by omega)).mono ?_
          rintro e w12 ⟨rfl, hb12⟩
          have e3 : eqB (zs.take (n - (m + l))) ((zs.take (n - l)).take (n - l - m)) = true := by
            rw [List.take_take, show min (n - l - m) (n - l) = n - (m + l) by omega]
            simp [eqB]
          rw [e3]
          have hB12 : Below w.heap.size w w12 := hB11.trans (hb12.mono hB11.size)
          clear hR11 hS11 hB11 hb12 e3
          go_wp2
          go_ret
          exact ⟨rfl, hB12⟩
end Go.Proofs.Qxb6605219a
