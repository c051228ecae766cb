import Derived.Test.Qxb6605262aFrame
namespace Go.Proofs.Qxb6605262a
open Go.RowKit
set_option linter.unusedVariables false

theorem Try.info58 : (Try.prog.info? 58).map (fun i => (i.zero, i.size, i.bytes)) = some (some (.agg #[.int .u8 0, .int .u64 0, .string ByteArray.empty]), 3, 32) := by kernel_rfl

/-- A slice of cells that can be read. -/
structure SlC (w : World) (a : Option Addr) (n c : Nat) (A : Nat → Val) : Prop where
  le : n ≤ c
  nil : a = none → n = 0 ∧ c = 0
  cells : n = 0 ∨ ∃ b off, a = some ⟨b, off, none⟩ ∧ ∀ i, i < n → Three w b (off + i * 3) (A i)

theorem SlC.later {w w' : World} {a : Option Addr} {n c : Nat} {A : Nat → Val} (h : SlC w a n c A) (hb : Below w.heap.size w w') : SlC w' a n c A := by
  refine ⟨h.le, h.nil, ?_⟩
  rcases h.cells with h0 | ⟨b, off, ha, hc⟩
  · exact .inl h0
  · exact .inr ⟨b, off, ha, fun i hi => (hc i hi).later hb⟩

theorem SlC.ofRow {w : World} {b n : Nat} {t : TypeId} {A : Nat → Val} (h : w.rowIs b t (n * 3) (trip A)) : SlC w (some ⟨b, 0, none⟩) n n A :=
  ⟨Nat.le_refl _, (fun h => by cases h), .inr ⟨b, 0, rfl, fun i hi => by rw [Nat.zero_add]; exact three_of_row h hi⟩⟩

theorem SlC.open {w : World} {a : Option Addr} {n c : Nat} {A : Nat → Val} (h : SlC w a n c A) :
    ∃ b off, (0 < n → a = some ⟨b, off, none⟩) ∧ ∀ i, i < n → Three w b (off + i * 3) (A i) := by
  rcases h.cells with h0 | ⟨b, off, ha, hc⟩
  · exact ⟨0, 0, fun h => by omega, fun i hi => by omega⟩
  · exact ⟨b, off, fun _ => ha, hc⟩

theorem trip_upto {A : Nat → Val} {n : Nat} {w : World} {b : Nat} {t : TypeId} (h : w.rowIs b t (n * 3) (trip (upto A nul n))) : w.rowIs b t (n * 3) (trip A) :=
  h.congr fun i hi => by unfold trip upto; rw [if_pos (by omega)]

structure Rows3 (w : World) (b n : Nat) (t : TypeId) (G : Nat → Val) : Prop where
  row : w.rowIs b t (n * 3) (trip G)

set_option maxHeartbeats 400000 in
set_option maxRecDepth 100000 in
theorem cbytes_any (a : Option Addr) (n c : Nat) (A : Nat → Val) (w : World) (h : SlC w a n c A) (hn : n ≤ 9223372036854775807) :
    Calls Try.prog 26 #[.slice a n c] w fun e w' => (∃ r : Nat, e = .returned (.int .i64 (r : Nat)) ∧ r ≤ 50000000 ∧ (r ≤ 1048576 → n * 32 ≤ 1048576)) ∧ w = w' := by
  by_cases hbig : n ≤ 1048576
  · obtain ⟨b, off, ha, hc⟩ := h.open
    clear h
    go_enter Try.func26, Try.ntmps26
    go_wp2
    go_loopg [3, 4] n (fun gh s3 i wr => ∃ k z : Nat, k ≤ n ∧ gh = n - k ∧ s3 = .int .i64 (z : Nat) ∧ i = .int .i64 (k : Nat) ∧ w = wr ∧ n * 32 ≤ z ∧ z ≤ 50000000 ∧ (k = 0 → z = n * 32) ∧ (0 < k → z ≤ 2097152))
    case atStart => exact ⟨0, n * 32, Nat.zero_le _, rfl, by go_num, rfl, rfl, Nat.le_refl _, by omega, fun _ => rfl, fun h => by omega⟩
    case round =>
      obtain ⟨k, z, hk, rfl, rfl, rfl, rfl, hz1, hz2, hz3, hz4⟩ := hrel
      clear hz3 hz4
      by_cases hlt : k < n
      · obtain rfl := ha (by omega)
        obtain ⟨e0, e1, e2⟩ := hc k hlt
        clear hc ha
        by_cases h1 : 1048576 < z
        · have h1' : (1048576 : Int) < (z : Int) := by omega
          go_wp2
          go_ret
          exact ⟨⟨1048577, rfl, by omega, fun h => by omega⟩, rfl⟩
        · have h1' : ¬ (1048576 : Int) < (z : Int) := by omega
          by_cases h2 : 1048576 < (A k).s.size
          · have h2' : (1048576 : Int) < ((A k).s.size : Int) := by omega
            go_wp2
            go_ret
            exact ⟨⟨1048577, rfl, by omega, fun h => by omega⟩, rfl⟩
          · have h2' : ¬ (1048576 : Int) < ((A k).s.size : Int) := by omega
            go_wp2
            go_roundg (n - (k + 1))
            case measure => go_light; omega
            case rel => go_light; exact ⟨k + 1, z + (A k).s.size, by omega, rfl, by go_num, by go_num, rfl, by omega, by omega, fun h => by omega, fun h => by omega⟩
      · go_wp2
        go_ret
        exact ⟨⟨z, rfl, hz2, fun h => by omega⟩, rfl⟩
  · have hb : (1048576 : Int) < (n : Int) := by omega
    clear h
    go_enter Try.func26, Try.ntmps26
    go_wp2
    go_ret
    exact ⟨⟨1048577, rfl, by omega, fun h => by omega⟩, rfl⟩
set_option maxHeartbeats 400000 in
set_option maxRecDepth 100000 in
theorem cloneC_any (a : Option Addr) (n c : Nat) (A : Nat → Val) (w : World) (h : SlC w a n c A) (hn : n ≤ 1048576) :
    Calls Try.prog 27 #[.slice a n c] w fun e w' => ∃ a' c', e = .returned (.slice a' n c') ∧ SlC w' a' n c' A ∧ Below w.heap.size w w' := by
  have q49 : ∀ (w : World) (a : Option Addr) (n c n' c' : Nat), (binOp .eql 49 (.slice a n c) (.slice none n' c')).run Try.prog w = .ok (.bool a.isNone) w := fun w a n c n' c' => Lib.run_eql_slice_nil w _ _ a n c n' c' Try.underlying49
  cases a with
  | none =>
    obtain ⟨rfl, rfl⟩ := h.nil rfl
    go_enter Try.func27, Try.ntmps27
    go_wp2
    go_ret
    exact ⟨none, 0, rfl, h, Below.refl _ _⟩
  | some x =>
    have hmk := run_make_struct (P := Try.prog) 49 58 _ 3 32 Try.underlying49 Try.info58 .i64 .i64 n (by omega) (by omega)
    simp only [Value.cells] at hmk
    obtain ⟨b, off, ha, hc⟩ := h.open
    clear h
    go_enter Try.func27, Try.ntmps27
    go_wp2
    clear hmk
    go_loopg [4] n (fun gh i wr => ∃ k : Nat, k ≤ n ∧ gh = n - k ∧ i = .int .i64 (k : Nat) ∧ Below w.heap.size w wr ∧ Rows3 wr w.heap.size n 58 (upto A nul k))
    case atStart => exact ⟨0, Nat.zero_le _, rfl, rfl, (Below.refl _ _).alloc (Nat.le_refl _) _, ⟨rowT_made w n 58⟩⟩
    case round =>
      obtain ⟨k, hk, rfl, rfl, hb, ⟨hr⟩⟩ := hrel
      by_cases hlt : k < n
      · have hx := Option.some.inj (ha (by omega))
        subst hx
        obtain ⟨e0, e1, e2⟩ := (hc k hlt).later hb
        obtain ⟨d0, d1, d2⟩ := three_of_row hr hlt
        have f0 := hr.frozen (k * 3)
        have f1 := hr.frozen (k * 3 + 1)
        have f2 := hr.frozen (k * 3 + 2)
        clear hc ha
        go_wp2
        go_roundg (n - (k + 1))
        case measure => go_light; omega
        case rel => go_light; exact ⟨k + 1, by omega, rfl, by go_num, below_put3 hb (Nat.le_refl _) (k * 3) (A k), ⟨rowT_put hr k (A k) (fun i _ => upto_step A nul k i)⟩⟩
      · go_wp2
        go_ret
        have e : k = n := by omega
        subst e
        exact ⟨_, _, rfl, SlC.ofRow (trip_upto hr), hb⟩


/-- What a row starts as. -/
def startF (ex : Bool) (R : Nat → Val) (n : Nat) : Nat → Val := fun i => if ex && i < n then R i else nul

theorem start_zero (R : Nat → Val) (n : Nat) : startF false R n = fun _ => nul := by funext i; simp [startF]
theorem start_upto (R : Nat → Val) (n : Nat) : startF true R n = upto R nul n := by funext i; simp [startF, upto]

set_option maxHeartbeats 800000 in
set_option maxRecDepth 100000 in
theorem start_any (ex : Bool) (a : Option Addr) (n c : Nat) (R : Nat → Val) (m : Nat) (w : World) (h : SlC w a n c R) (hn : n ≤ 1048576) (hm : m ≤ 65536) :
    Calls Try.prog 28 #[.bool ex, .slice a n c, .int .i64 (m : Nat)] w fun e w' => e = .returned (.tuple #[.bool ex, .slice (some ⟨w.heap.size, 0, none⟩) m m]) ∧ w'.rowIs w.heap.size 58 (m * 3) (trip (startF ex R n)) ∧ Below w.heap.size w w' := by
  have hmk := run_make_struct (P := Try.prog) 49 58 _ 3 32 Try.underlying49 Try.info58 .i64 .i64 m (by omega) (by omega)
  simp only [Value.cells] at hmk
  obtain ⟨b, off, ha, hc⟩ := h.open
  have hrow := rowT_made w m 58
  have hbe : Below w.heap.size w (w.alloc (.cells (madeCells #[.int .u8 0, .int .u64 0, .string ByteArray.empty] (m * 3)) 58)) := (Below.refl _ _).alloc (Nat.le_refl _) _
  clear h
  cases ex
  · go_enter Try.func28, Try.ntmps28
    go_wp2
    go_ret2
    exact ⟨rfl, by rw [start_zero]; exact hrow, hbe⟩
  · go_enter Try.func28, Try.ntmps28
    go_wp2
    clear hmk
    go_loopg [9] m (fun gh i wr => ∃ k : Nat, k ≤ m ∧ k ≤ n ∧ gh = m - k ∧ i = .int .i64 (k : Nat) ∧ Below w.heap.size w wr ∧ Rows3 wr w.heap.size m 58 (upto R nul k))
    case atStart => exact ⟨0, Nat.zero_le _, Nat.zero_le _, rfl, rfl, hbe, ⟨hrow⟩⟩
    case round =>
      clear hrow hbe
      obtain ⟨k, hk, hkn, rfl, rfl, hb, ⟨hr⟩⟩ := hrel
      by_cases hlt : k < m
      · have hkm : (k : Int) < (m : Int) := by omega
        by_cases hlt2 : k < n
        · have hkz : (k : Int) < (n : Int) := by omega
          obtain rfl := ha (by omega)
          obtain ⟨e0, e1, e2⟩ := (hc k hlt2).later hb
          obtain ⟨d0, d1, d2⟩ := three_of_row hr hlt
          have f0 := hr.frozen (k * 3)
          have f1 := hr.frozen (k * 3 + 1)
          have f2 := hr.frozen (k * 3 + 2)
          clear hc ha
          go_wp2
          go_roundg (m - (k + 1))
          case measure => go_light; omega
          case rel => go_light; exact ⟨k + 1, by omega, by omega, rfl, by go_num, below_put3 hb (Nat.le_refl _) (k * 3) (R k), ⟨rowT_put hr k (R k) (fun i _ => upto_step R nul k i)⟩⟩
        · have hkz : ¬ (k : Int) < (n : Int) := by omega
          have e : k = n := by omega
          have hr2 : wr.rowIs w.heap.size 58 (m * 3) (trip (startF true R n)) := by rw [start_upto, ← e]; exact hr
          clear e
          go_wp2
          go_ret2
          exact ⟨rfl, hr2, hb⟩
      · have hkm : ¬ (k : Int) < (m : Int) := by omega
        have e : k = m := by omega
        have hr2 : wr.rowIs w.heap.size 58 (m * 3) (trip (startF true R n)) := hr.congr fun i hi => by
          rw [start_upto]
          unfold trip upto
          have hi' : i / 3 < m := by omega
          rw [if_pos (by omega)]
          by_cases h2 : i / 3 < n
          · rw [if_pos h2]
          · omega
        clear e
        go_wp2
        go_ret2
        exact ⟨rfl, hr2, hb⟩
end Go.Proofs.Qxb6605262a
