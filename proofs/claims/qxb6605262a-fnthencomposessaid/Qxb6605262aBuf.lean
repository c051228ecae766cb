import Derived.Test.Qxb6605262aApp
namespace Go.Proofs.Qxb6605262a
open Go.RowKit
set_option linter.unusedVariables false

theorem Try.info2 : (Try.prog.info? 2).map (fun i => (i.zero, i.size, i.bytes)) = some (some (.int .i64 0), 1, 8) := by kernel_rfl
theorem Try.size5 (w : World) : (sizeOf 5).run Try.prog w = .ok 1 w := by kernel_rfl
theorem Try.elem22 : Try.prog.elem 22 = 5 := by kernel_rfl
theorem Try.slice22 : Try.prog.underlying 22 = some (.slice (Try.prog.elem 22)) := by rw [Try.elem22]; exact Try.underlying22

/-- An owned row of bytes, read as a slice. -/
theorem slb_of {w : World} {base : Nat} {v : Value} {bs : List Nat} (h : w.ownsRow base 5 1 v bs.length (bvals bs)) : ∃ a c, v = .slice a bs.length c ∧ SlB w a bs.length c bs := by
  rcases h.2 with ⟨hv, h0⟩ | ⟨g, cap, cur, hv, hbg, hcur, hcap, hmax, hsz, htake⟩
  · exact ⟨none, 0, by rw [hv, h0], ⟨rfl, by omega, fun _ => ⟨h0, rfl⟩, .inl h0⟩⟩
  · refine ⟨some ⟨g, 0, none⟩, cap, hv, ⟨rfl, hcap, (fun hh => by cases hh), .inr ⟨g, 0, rfl, fun i hi => ?_⟩⟩⟩
    have := h.cells (g := g) (by rw [hv]; rfl) i (.int .u8 ((bs.getD i 0 : Nat) : Int)) (by simp [bvals, hi])
    rw [Addr.add_lit] at this
    exact this

/-- 's[lo:]' of a slice of bytes that can be read. -/
theorem slice_lo {w : World} {a : Option Addr} {n c : Nat} {p : List Nat} (h : SlB w a n c p) (lo : Nat) (hlo : lo ≤ n) :
    ∃ a', (∀ w, (Instr.slice 22 (.slice a n c) (some (.int .i64 (lo : Int))) none none).run Try.prog w = .ok (.slice a' (n - lo) (c - lo)) w) ∧ SlB w a' (n - lo) (c - lo) (p.drop lo) := by
  refine ⟨if c = lo then a else a.map (·.add (lo * 1)), fun w => ?_, ?_, ?_, ?_, ?_⟩
  · rw [run_slice_l w 22 a n c Try.slice22 .i64 lo (by omega) (by omega), Try.elem22, Try.size5]
    simp [Result.andThen, sliced]
  · rw [List.length_drop, h.len]
  · have := h.le; omega
  · intro e
    have hn : a = none := by
      split at e
      · exact e
      · simpa using e
    obtain ⟨h1, h2⟩ := h.nil hn
    omega
  · rcases h.cells with h0 | ⟨b, off, rfl, hc⟩
    · exact .inl (by omega)
    · by_cases e : n = lo
      · exact .inl (by omega)
      · refine .inr ⟨b, off + lo, ?_, fun i hi => ?_⟩
        · rw [if_neg (by have := h.le; omega)]; simp [Addr.add]
        · rw [Nat.add_assoc, hc (lo + i) (by omega)]; simp

/-- What was there below 'base' is as it was. -/
theorem Grow.below {w w' : World} {v0 v : Value} {base n : Nat} {e : TypeId} {size : Nat} {xs : List Value} (h : Grow w w' v0 v) (ho : w.ownsRow base e size v0 n xs) (hb : base ≤ w.heap.size) : Below base w w' :=
  ⟨h.grown.os, h.grown.tape, h.grown.output, h.grown.size, fun k hk => h.grown.block k (by omega) (fun e => by have := (ho.lt k e.symm).1; omega)⟩

/-! ### A slice of int64 -/

structure Sl (w : World) (a : Option Addr) (n c : Nat) (zs : List Int) : Prop where
  len : zs.length = n
  le : n ≤ c
  nil : a = none → n = 0 ∧ c = 0
  cells : n = 0 ∨ ∃ b off, a = some ⟨b, off, none⟩ ∧ ∀ i, i < n → w.cell? ⟨b, off + i, none⟩ = some (.int .i64 (zs.getD i 0))

theorem Sl.open {w : World} {a : Option Addr} {n c : Nat} {zs : List Int} (h : Sl w a n c zs) :
    ∃ b off, (0 < n → a = some ⟨b, off, none⟩) ∧ ∀ i, i < n → w.cell? ⟨b, off + i, none⟩ = some (.int .i64 (zs.getD i 0)) := by
  rcases h.cells with h0 | ⟨b, off, ha, hc⟩
  · exact ⟨0, 0, fun h => by omega, fun i hi => by omega⟩
  · exact ⟨b, off, fun _ => ha, hc⟩

theorem Sl.ofRow {w : World} {b : Nat} {t : TypeId} {n : Nat} {zs : List Int} (hl : zs.length = n) (h : w.rowIs b t n (fun i => .int .i64 (zs.getD i 0))) : Sl w (some ⟨b, 0, none⟩) n n zs :=
  ⟨hl, Nat.le_refl _, (fun h => by cases h), .inr ⟨b, 0, rfl, fun i hi => by rw [Nat.zero_add]; exact h.cell hi⟩⟩

def part (zs : List Int) (k : Nat) : Nat → Value := fun j => if j < k then .int .i64 (zs.getD j 0) else .int .i64 0

structure Copying (w wr : World) (n : Nat) (zs : List Int) (k : Nat) : Prop where
  below : Below w.heap.size w wr
  row : wr.rowIs w.heap.size 2 n (part zs k)

theorem copying_start (w : World) (n : Nat) (zs : List Int) : Copying w (w.alloc (.cells (madeCells #[.int .i64 0] n) 2)) n zs 0 :=
  ⟨(Below.refl _ _).alloc (Nat.le_refl _) _, (World.rowIs_made w _ n 2).congr (fun j _ => by simp [part])⟩

theorem copying_step {w wr : World} {n : Nat} {zs : List Int} {k : Nat} (h : Copying w wr n zs k) : Copying w (wr.setCell ⟨w.heap.size, k, none⟩ (.int .i64 (zs[k]?.getD 0))) n zs (k + 1) := by
  refine ⟨h.below.setCell (Nat.le_refl _) _, (h.row.set k _).congr (fun j _ => ?_)⟩
  simp only [part]
  by_cases e : j = k
  · subst e; simp
  · rw [if_neg e]
    by_cases hlt : j < k
    · rw [if_pos hlt, if_pos (by omega)]
    · rw [if_neg hlt, if_neg (by omega)]

theorem copying_done {w wr : World} {n : Nat} {zs : List Int} (hl : zs.length = n) (h : Copying w wr n zs n) : Sl wr (some ⟨w.heap.size, 0, none⟩) n n zs :=
  Sl.ofRow hl (h.row.congr fun i hi => by simp [part, hi])

set_option maxHeartbeats 400000 in
theorem clone_any (a : Option Addr) (n c : Nat) (zs : List Int) (w : World) (h : Sl w a n c zs) (hn : n ≤ 1048576) :
    Calls Try.prog 14 #[.slice a n c] w fun e w' => ∃ a' c', e = .returned (.slice a' n c') ∧ Sl w' a' n c' zs ∧ Below w.heap.size w w' := by
  have q31 : ∀ (w : World) (a : Option Addr) (n c n' c' : Nat), (binOp .eql 31 (.slice a n c) (.slice none n' c')).run Try.prog w = .ok (.bool a.isNone) w := fun w a n c n' c' => Lib.run_eql_slice_nil w _ _ a n c n' c' Try.underlying31
  cases a with
  | none =>
    obtain ⟨rfl, rfl⟩ := h.nil rfl
    go_enter Try.func14, Try.ntmps14
    go_wp2
    go_ret
    exact ⟨none, 0, rfl, h, Below.refl _ _⟩
  | some x =>
    have hmk := run_make_row' (P := Try.prog) 31 2 (.int .i64 0) 8 Try.underlying31 Try.info2 rfl .i64 .i64 n (by omega) (by omega)
    obtain ⟨b, off, ha, hc⟩ := h.open
    have HL : Hid (zs.length = n) := h.len
    clear h
    go_enter Try.func14, Try.ntmps14
    go_wp2
    clear hmk
    go_loopg [4] n (fun g i wr => ∃ k : Nat, k ≤ n ∧ g = n - k ∧ i = .int .i64 k ∧ Copying w wr n zs k)
    case atStart => exact ⟨0, Nat.zero_le _, rfl, rfl, copying_start w n zs⟩
    case round =>
      obtain ⟨k, hk, rfl, rfl, hC⟩ := hrel
      by_cases hlt : k < n
      · have hx := Option.some.inj (ha (by omega))
        subst hx
        have g0 : wr.cell? ⟨b, off + k, none⟩ = some (.int .i64 (zs.getD k 0)) := cell_later hC.below (hc k hlt)
        have g1 : wr.cell? ⟨w.heap.size, k, none⟩ = some (part zs k k) := hC.row.cell hlt
        have g2 : wr.frozen? ⟨w.heap.size, k, none⟩ = false := hC.row.frozen k
        clear ha hc
        go_wp2
        go_roundg (n - (k + 1))
        case measure => go_light; omega
        case rel => go_light; exact ⟨k + 1, by omega, rfl, by go_num, copying_step hC⟩
      · go_wp2
        go_ret
        have e : k = n := by omega
        subst e
        exact ⟨_, _, rfl, copying_done HL.out hC, hC.below⟩

theorem zz13_any (a : Option Addr) (n c : Nat) (w : World) (hn : n ≤ 9223372036854775807) :
    Calls Try.prog 13 #[.slice a n c] w fun e w' => (∃ r, e = .returned (.bool r)) ∧ w = w' := by
  go_enter Try.func13, Try.ntmps13
  go_wp2
  all_goals (go_ret; exact ⟨⟨_, rfl⟩, rfl⟩)

theorem zz7_any (a : Option Addr) (n c : Nat) (x : Int) (w : World) (hn : n ≤ 9223372036854775807) :
    Calls Try.prog 7 #[.slice a n c, .int .i64 x] w fun e w' => (∃ r, e = .returned (.bool r)) ∧ w = w' := by
  go_enter Try.func7, Try.ntmps7
  go_wp2
  all_goals (go_ret; exact ⟨⟨_, rfl⟩, rfl⟩)

/-! ### The stream -/

def encAll (zs : List Int) : List Nat := zs.flatMap fun x => enc 8 (zig x)

theorem encAll_take {zs : List Int} {k : Nat} (h : k < zs.length) : encAll (zs.take (k + 1)) = encAll (zs.take k) ++ enc 8 (zig (zs[k]?.getD 0)) := by
  unfold encAll
  rw [List.take_succ_eq_append_getElem h, List.flatMap_append]
  simp [h]

theorem encAll_len : ∀ zs : List Int, (encAll zs).length ≤ 9 * zs.length
  | [] => by simp [encAll]
  | x :: zs => by
    have h1 := encAll_len zs
    have h2 := (enc_len 8 (zig x)).2.1
    unfold encAll at *
    rw [List.flatMap_cons, List.length_append, List.length_cons]
    omega

theorem encAll_drop {zs : List Int} {k : Nat} (h : k < zs.length) : (encAll zs).drop (encAll (zs.take k)).length = enc 8 (zig (zs[k]?.getD 0)) ++ encAll (zs.drop (k + 1)) := by
  have e : encAll zs = encAll (zs.take k) ++ (enc 8 (zig (zs[k]?.getD 0)) ++ encAll (zs.drop (k + 1))) := by
    have h1 : zs = zs.take k ++ zs.drop k := (List.take_append_drop k zs).symm
    have h2 : zs.drop k = zs[k]?.getD 0 :: zs.drop (k + 1) := by rw [List.drop_eq_getElem_cons h]; simp [h]
    unfold encAll
    conv => lhs; rw [h1, List.flatMap_append, h2, List.flatMap_cons]
  rw [e, List.drop_left]

theorem encAll_take_le (zs : List Int) (k : Nat) : (encAll (zs.take k)).length ≤ (encAll zs).length := by
  have e : encAll zs = encAll (zs.take k) ++ encAll (zs.drop k) := by
    unfold encAll
    rw [← List.flatMap_append, List.take_append_drop]
  rw [e, List.length_append]; omega
end Go.Proofs.Qxb6605262a
