import Derived.Test.Qxb6605219aConcat
namespace Go.Proofs.Qxb6605219a
open Go.RowKit
set_option linter.unusedVariables false

theorem drop_at {zs : List Int} {q k : Nat} : (zs.drop q)[k]?.getD 0 = zs[q + k]?.getD 0 := by
  rw [List.getElem?_drop]

set_option maxHeartbeats 800000 in
theorem before_any (key seen : Int) (a : Option Addr) (n c : Nat) (zs : List Int) (b : Option Addr) (m d : Nat) (ys : List Int) (w : World) (h1 : Sl w a n c zs) (h2 : Sl w b m d ys) (hn : n ≤ 1048576) :
    Calls Try.prog 8 #[.agg #[.int .i64 key, .slice a n c, .int .i64 seen, .slice b m d]] w fun e w' => Below w.heap.size w w' ∧
      ((endB zs ys = false ∧ e = .returned (.tuple #[.slice none 0 0, .bool false])) ∨
       (endB zs ys = true ∧ ∃ a', e = .returned (.tuple #[.slice a' (n - m) (n - m), .bool true]) ∧ Sl w' a' (n - m) (n - m) (zs.take (n - m)))) := by
  by_cases hlt : n < m
  · have e0 : endB zs ys = false := by unfold endB; rw [if_pos (by rw [h1.len, h2.len]; exact hlt)]
    have E0 : Hid (endB zs ys = false) := e0
    clear h1 h2 e0
    go_enter Try.func8, Try.ntmps8
    go_wp2
    go_ret2
    exact ⟨(Below.refl _ _).alloc (Nat.le_refl _) _, .inl ⟨E0.out, rfl⟩⟩
  · have E0 : Hid (endB zs ys = eqB (zs.drop (n - m)) ys) := by show endB zs ys = _; unfold endB; rw [if_neg (by rw [h1.len, h2.len]; exact hlt), h1.len, h2.len]
    obtain ⟨a', hrun, hS⟩ := slice_hm h1 (n - m) (by omega)
    have e1 : ((n - m : Nat) : Int) = (n : Int) - (m : Int) := by omega
    rw [e1] at hrun
    have HL : Hid (zs.length = n ∧ ys.length = m) := ⟨h1.len, h2.len⟩
    have HS : Hid (Sl w a' (n - m) (n - m) (zs.take (n - m))) := hS
    obtain ⟨ba, oa, ha, hca⟩ := h1.open
    obtain ⟨bb, ob, hb, hcb⟩ := h2.open
    clear h1 h2 e1 hS
    go_enter Try.func8, Try.ntmps8
    go_wp2
    go_loop [24] (fun i => ∃ k : Nat, k ≤ m ∧ i = .int .i64 k ∧ UpTo (zs.drop (n - m)) ys k) (fun i => m - (intOf i).toNat)
    case atStart => exact ⟨0, Nat.zero_le _, rfl, fun j hj => absurd hj (Nat.not_lt_zero _)⟩
    case round =>
      obtain ⟨k, hk, rfl, hU⟩ := hrel
      have HU : Hid (UpTo (zs.drop (n - m)) ys k) := hU
      clear hU
      by_cases hkm : k < m
      · obtain rfl := ha (by omega)
        obtain rfl := hb (by omega)
        have g0 : ∀ o, (w.alloc o).cell? ⟨ba, oa + (n - m + k), none⟩ = some (.int .i64 (zs.getD (n - m + k) 0)) := fun o => cell_later ((Below.refl _ _).alloc (Nat.le_refl _) _) (hca _ (by omega))
        have g1 : ∀ o, (w.alloc o).cell? ⟨bb, ob + k, none⟩ = some (.int .i64 (ys.getD k 0)) := fun o => cell_later ((Below.refl _ _).alloc (Nat.le_refl _) _) (hcb _ (by omega))
        clear hca hcb ha hb
        by_cases he : zs[n - m + k]?.getD 0 = ys[k]?.getD 0
        · have HE : Hid (zs[n - m + k]?.getD 0 = ys[k]?.getD 0) := he
          have he' : (zs[n - m + k]?.getD 0 != ys[k]?.getD 0) = false := by simp [he]
          clear he
          go_wp2
          go_round
          case rel => exact ⟨k + 1, by omega, by go_num, upTo_succ HU.out (drop_at.trans HE.out)⟩
          case measure => simp [intOf]; omega
        · have HE : Hid (zs[n - m + k]?.getD 0 ≠ ys[k]?.getD 0) := he
          have he' : (zs[n - m + k]?.getD 0 != ys[k]?.getD 0) = true := by simp [he]
          clear he
          go_wp2
          go_ret2
          exact ⟨(Below.refl _ _).alloc (Nat.le_refl _) _, .inl ⟨by rw [E0.out]; exact eqB_not (k := k) (fun e => HE.out (drop_at.symm.trans e)), rfl⟩⟩
      · have e : k = m := by omega
        subst e
        go_wp2
        go_ret2
        refine ⟨(Below.refl _ _).alloc (Nat.le_refl _) _, .inr ⟨?_, a', rfl, HS.out.later ((Below.refl _ _).alloc (Nat.le_refl _) _)⟩⟩
        rw [E0.out]
        exact eqB_all (by rw [List.length_drop, HL.out.1]; omega) HL.out.2 HU.out
end Go.Proofs.Qxb6605219a
