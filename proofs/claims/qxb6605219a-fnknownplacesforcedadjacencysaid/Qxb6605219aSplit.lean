import Derived.Test.Qxb6605219aBefore
namespace Go.Proofs.Qxb6605219a
open Go.RowKit
set_option linter.unusedVariables false

theorem zz6_any (key seen : Int) (a : Option Addr) (n c : Nat) (b : Option Addr) (m d : Nat) (w : World) (hn : n ≤ 9223372036854775807) (hm : m ≤ 9223372036854775807) :
    Calls Try.prog 6 #[.int .i64 key, .slice a n c, .int .i64 seen, .slice b m d] w fun e w' => (∃ r, e = .returned (.bool r)) ∧ w = w' := by
  go_enter Try.func6, Try.ntmps6
  go_wp2
  all_goals (go_ret; exact ⟨⟨_, rfl⟩, rfl⟩)

theorem split_law {zs ys : List Int} (h : endB zs ys = true) : zs.take (zs.length - ys.length) ++ ys = zs ∧ ys.length ≤ zs.length := by
  unfold endB at h
  by_cases hl : zs.length < ys.length
  · rw [if_pos hl] at h; cases h
  · rw [if_neg hl] at h
    have e : zs.drop (zs.length - ys.length) = ys := by simpa [eqB] using h
    refine ⟨?_, by omega⟩
    have t := List.take_append_drop (zs.length - ys.length) zs
    rw [e] at t
    exact t

set_option maxHeartbeats 800000 in
theorem splits_walk (key seen : Int) (a : Option Addr) (n c : Nat) (zs : List Int) (b : Option Addr) (m d : Nat) (ys : List Int) (w : World) (h1 : Sl w a n c zs) (h2 : Sl w b m d ys) (hn : n ≤ 9223372036854775807) (hm : m ≤ 9223372036854775807) :
    Calls Try.prog 3 #[.int .i64 key, .slice a n c, .int .i64 seen, .slice b m d] w fun e w' => e = .returned (.bool true) ∧ Below w.heap.size w w' := by
  have q22 : ∀ (w : World) (a : Option Addr) (n c n' c' : Nat), (binOp .eql 22 (.slice a n c) (.slice none n' c')).run Try.prog w = .ok (.bool a.isNone) w := fun w a n c n' c' => Lib.run_eql_slice_nil w _ _ a n c n' c' Try.underlying22
  by_cases hs : n ≤ 65536 ∧ m ≤ 65536
  · obtain ⟨hs1, hs2⟩ := hs
    have HL : Hid (zs.length = n ∧ ys.length = m) := ⟨h1.len, h2.len⟩
    go_enter Try.func3, Try.ntmps3
    go_wp2_with fail
    refine (zz6_any _ _ _ _ _ _ _ _ _ hn hm).mono ?_
    rintro e w' ⟨⟨r, rfl⟩, rfl⟩
    cases r
    · go_wp2
      go_ret
      exact ⟨rfl, Below.refl _ _⟩
    · go_wp2_with fail
      refine (clone_any _ _ _ _ _ h1 (by omega)).mono ?_
      rintro e w1 ⟨a1, c1, rfl, hS1, hb1⟩
      go_wp2_with fail
      refine (clone_any _ _ _ _ _ (h2.later hb1) (by omega)).mono ?_
      rintro e w2 ⟨a2, c2, rfl, hS2, hb2⟩
      have hS1' := hS1.later hb2
      have hb12 : Below w.heap.size w w2 := hb1.trans (hb2.mono hb1.size)
      clear h1 h2 hS1 hb1 hb2
      go_wp2_with fail
      refine (before_any _ _ _ _ _ _ _ _ _ _ _ (by exact hS1'.later ((Below.refl _ _).alloc (Nat.le_refl _) _)) (by exact hS2.later ((Below.refl _ _).alloc (Nat.le_refl _) _)) (by omega)).mono ?_
      rintro e w3 ⟨hb3, hcase⟩
      have hb13 : Below w.heap.size w w3 := (hb12.alloc hb12.size _).trans (hb3.mono (by simp; have := hb12.size; omega))
      have hS1'' := (hS1'.later ((Below.refl _ _).alloc (Nat.le_refl _) _)).later hb3
      have hS2'' := (hS2.later ((Below.refl _ _).alloc (Nat.le_refl _) _)).later hb3
      clear hS1' hS2 hb12 hb3
      rcases hcase with ⟨hE, rfl⟩ | ⟨hE, a4, rfl, hS4⟩
      · go_wp2_with fail
        refine (ends_any _ _ _ _ _ _ _ _ _ hS1'' hS2'' (by omega)).mono ?_
        rintro e w4 ⟨rfl, hb4⟩
        rw [hE]
        have hb14 : Below w.heap.size w w4 := hb13.trans (hb4.mono hb13.size)
        clear hS1'' hS2'' hb13 hb4 hE
        go_wp2
        go_ret
        exact ⟨rfl, hb14⟩
      · go_wp2_with fail
        refine (ends_any _ _ _ _ _ _ _ _ _ hS1'' hS2'' (by omega)).mono ?_
        rintro e w4 ⟨rfl, hb4⟩
        rw [hE]
        have hb14 : Below w.heap.size w w4 := hb13.trans (hb4.mono hb13.size)
        have hS1a := hS1''.later hb4
        have hS2a := hS2''.later hb4
        have hS4a := hS4.later hb4
        have HE : Hid (zs.take (n - m) ++ ys = zs ∧ m ≤ n) := by
          have := split_law hE
          rw [HL.out.1, HL.out.2] at this
          exact this
        have hmn : m ≤ n := HE.out.2
        have e1 : ((n - m : Nat) : Int) = (n : Int) - (m : Int) := by omega
        clear hS1'' hS2'' hS4 hb13 hb4 hE
        go_wp2_with fail
        refine (concat_any _ _ _ _ _ _ _ _ _ hS4a hS2a (by omega) (by omega)).mono ?_
        rintro e w5 ⟨a5, he5, hS5, hb5⟩
        rw [Nat.sub_add_cancel hmn] at he5 hS5
        subst he5
        have hb15 : Below w.heap.size w w5 := hb14.trans (hb5.mono hb14.size)
        have hS1b := hS1a.later hb5
        rw [HE.out.1] at hS5
        clear hS1a hS2a hS4a hb14 hb5 e1
        go_wp2_with fail
        refine (same_any _ _ _ _ _ _ _ _ _ hS5 hS1b (by omega)).mono ?_
        rintro e w6 ⟨rfl, hb6⟩
        have hb16 : Below w.heap.size w w6 := hb15.trans (hb6.mono hb15.size)
        have e2 : eqB zs zs = true := by simp [eqB]
        rw [e2]
        clear hS5 hS1b hb15 hb6
        go_wp2
        go_ret
        exact ⟨rfl, hb16⟩
  · by_cases hs1 : n ≤ 65536
    · have hs2 : 65536 < m := by omega
      clear h1 h2 hs
      go_enter Try.func3, Try.ntmps3
      go_wp2_with fail
      refine (zz6_any _ _ _ _ _ _ _ _ _ hn hm).mono ?_
      rintro e w' ⟨⟨r, rfl⟩, rfl⟩
      cases r <;> (go_wp2; go_ret; exact ⟨rfl, Below.refl _ _⟩)
    · have hs2 : 65536 < n := by omega
      clear h1 h2 hs hs1
      go_enter Try.func3, Try.ntmps3
      go_wp2_with fail
      refine (zz6_any _ _ _ _ _ _ _ _ _ hn hm).mono ?_
      rintro e w' ⟨⟨r, rfl⟩, rfl⟩
      cases r <;> (go_wp2; go_ret; exact ⟨rfl, Below.refl _ _⟩)
end Go.Proofs.Qxb6605219a
