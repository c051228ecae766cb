import Derived.Test.Qxb6605219aRows
import Derived.WalkKit
import Derived.WalkSpells
import Derived.Below
import Derived.Deep.LoopGhost
import Derived.Deep.OwnRows
import Derived.Deep.Light
import Derived.Deep.QuietTactic
import Derived.BigQuiet
namespace Go.Proofs.Qxb6605219a
open Go.RowKit
set_option linter.unusedVariables false

theorem Try.info2 : (Try.prog.info? 2).map (fun i => (i.zero, i.size, i.bytes)) = some (some (.int .i64 0), 1, 8) := by kernel_rfl

/-- A slice of int64 (or int) that can be read: its elements 'zs'. -/
structure Sl (w : World) (a : Option Addr) (n c : Nat) (zs : List Int) : Prop where
  len : zs.length = n
  le : n ≤ c
  nil : a = none → n = 0 ∧ c = 0
  cells : n = 0 ∨ ∃ b off, a = some ⟨b, off, none⟩ ∧ ∀ i, i < n → w.cell? ⟨b, off + i, none⟩ = some (.int .i64 (zs.getD i 0))

theorem Sl.later {w w' : World} {a : Option Addr} {n c : Nat} {zs : List Int} (h : Sl w a n c zs) (hb : Below w.heap.size w w') : Sl w' a n c zs := by
  refine ⟨h.len, h.le, h.nil, ?_⟩
  rcases h.cells with h0 | ⟨b, off, ha, hc⟩
  · exact .inl h0
  · exact .inr ⟨b, off, ha, fun i hi => cell_later hb (hc i hi)⟩

/-- A row that the call made, read as a slice. -/
theorem Sl.ofRow {w : World} {b : Nat} {t : TypeId} {n : Nat} {zs : List Int} (hl : zs.length = n) (h : w.rowIs b t n (fun i => .int .i64 (zs.getD i 0))) : Sl w (some ⟨b, 0, none⟩) n n zs :=
  ⟨hl, Nat.le_refl _, (fun h => by cases h), .inr ⟨b, 0, rfl, fun i hi => by rw [Nat.zero_add]; exact h.cell hi⟩⟩

/-- What lies in the row of a copy when k elements are copied. -/
def part (zs : List Int) (k : Nat) : Nat → Value := fun j => if j < k then .int .i64 (zs.getD j 0) else .int .i64 0

structure Copying (w wr : World) (n : Nat) (zs : List Int) (k : Nat) : Prop where
  below : Below w.heap.size w wr
  row : wr.rowIs w.heap.size 2 n (part zs k)

theorem copying_start (w : World) (n : Nat) (zs : List Int) : Copying w (w.alloc (.cells (madeCells #[.int .i64 0] n) 2)) n zs 0 :=
  ⟨(Below.refl _ _).alloc (Nat.le_refl _) _, (World.rowIs_made w _ n 2).congr (fun j _ => by simp [part])⟩

theorem copying_step {w wr : World} {n : Nat} {zs : List Int} {k : Nat} (h : Copying w wr n zs k) : Copying w (wr.setCell ⟨w.heap.size, k, none⟩ (.int .i64 (zs[k]?.getD 0))) n zs (k + 1) := by
  refine ⟨h.below.setCell (Nat.le_refl _) _, (h.row.set k _).congr (fun j _ => ?_)⟩
  simp only [part]
  by_cases e : j = k
  · subst e; simp
  · rw [if_neg e]
    by_cases hlt : j < k
    · rw [if_pos hlt, if_pos (by omega)]
    · rw [if_neg hlt, if_neg (by omega)]

theorem copying_done {w wr : World} {n : Nat} {zs : List Int} (hl : zs.length = n) (h : Copying w wr n zs n) : Sl wr (some ⟨w.heap.size, 0, none⟩) n n zs :=
  Sl.ofRow hl (h.row.congr fun i hi => by simp [part, hi])

set_option maxHeartbeats 400000 in
theorem clone_any (a : Option Addr) (n c : Nat) (zs : List Int) (w : World) (h : Sl w a n c zs) (hn : n ≤ 1048576) :
    Calls Try.prog 7 #[.slice a n c] w fun e w' => ∃ a' c', e = .returned (.slice a' n c') ∧ Sl w' a' n c' zs ∧ Below w.heap.size w w' := by
  have q22 : ∀ (w : World) (a : Option Addr) (n c n' c' : Nat), (binOp .eql 22 (.slice a n c) (.slice none n' c')).run Try.prog w = .ok (.bool a.isNone) w := fun w a n c n' c' => Lib.run_eql_slice_nil w _ _ a n c n' c' Try.underlying22
  cases a with
  | none =>
    obtain ⟨rfl, rfl⟩ := h.nil rfl
    go_enter Try.func7, Try.ntmps7
    go_wp2
    go_ret
    exact ⟨none, 0, rfl, h, Below.refl _ _⟩
  | some x =>
    have hmk := run_make_row' (P := Try.prog) 22 2 (.int .i64 0) 8 Try.underlying22 Try.info2 rfl .i64 .i64 n (by omega) (by omega)
    have hx : 0 < n → x = ⟨x.block, x.off, none⟩ ∧ ∀ i, i < n → w.cell? ⟨x.block, x.off + i, none⟩ = some (.int .i64 (zs.getD i 0)) := by
      intro h0
      rcases h.cells with h1 | ⟨b, off, ha, hc⟩
      · omega
      · cases ha; exact ⟨rfl, hc⟩
    have HL : Hid (zs.length = n) := h.len
    obtain ⟨b, off, spot⟩ := x
    clear h
    go_enter Try.func7, Try.ntmps7
    go_wp2
    clear hmk
    go_loopg [4] n (fun g i wr => ∃ k : Nat, k ≤ n ∧ g = n - k ∧ i = .int .i64 k ∧ Copying w wr n zs k)
    case atStart => exact ⟨0, Nat.zero_le _, rfl, rfl, copying_start w n zs⟩
    case round =>
      obtain ⟨k, hk, rfl, rfl, hC⟩ := hrel
      by_cases hlt : k < n
      · obtain ⟨hs, hc⟩ := hx (by omega)
        simp only [Addr.mk.injEq, true_and] at hs
        subst hs
        have g0 : wr.cell? ⟨b, off + k, none⟩ = some (.int .i64 (zs.getD k 0)) := cell_later hC.below (hc k hlt)
        have g1 : wr.cell? ⟨w.heap.size, k, none⟩ = some (part zs k k) := hC.row.cell hlt
        have g2 : wr.frozen? ⟨w.heap.size, k, none⟩ = false := hC.row.frozen k
        clear hx hc
        go_wp2
        go_roundg (n - (k + 1))
        case measure => go_light; omega
        case rel => go_light; exact ⟨k + 1, by omega, rfl, by go_num, copying_step hC⟩
      · go_wp2
        go_ret
        have e : k = n := by omega
        subst e
        exact ⟨_, _, rfl, copying_done HL.out hC, hC.below⟩
end Go.Proofs.Qxb6605219a
