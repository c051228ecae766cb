import Derived.Test.Qxb6605219aPlaces
import Derived.Laws.Bits64b
namespace Go.Proofs.Qxb6605219a
open Go.RowKit
set_option linter.unusedVariables false

theorem Try.info32 : (Try.prog.info? 32).map (fun i => (i.zero, i.size, i.bytes)) = some (some (.slice none 0 0), 1, 24) := by kernel_rfl
theorem Try.info40 : (Try.prog.info? 40).map (fun i => (i.zero, i.size, i.bytes)) = some (some (.int .u64 0), 1, 8) := by kernel_rfl

/-! ### A slice of slices that can be read -/

structure Nest (w : World) (a : Option Addr) (m c b off : Nat) (A : Nat → Option Addr) (C : Nat → Nat) (P : Nat → List Int) : Prop where
  nil : a = none → m = 0 ∧ c = 0
  addr : 0 < m → a = some ⟨b, off, none⟩
  row : ∀ i, i < m → w.cell? ⟨b, off + i, none⟩ = some (.slice (A i) (P i).length (C i))
  sl : ∀ i, i < m → Sl w (A i) (P i).length (C i) (P i)

theorem Nest.later {w w' : World} {a : Option Addr} {m c b off : Nat} {A : Nat → Option Addr} {C : Nat → Nat} {P : Nat → List Int} (h : Nest w a m c b off A C P) (hb : Below w.heap.size w w') : Nest w' a m c b off A C P :=
  ⟨h.nil, h.addr, fun i hi => cell_later hb (h.row i hi), fun i hi => (h.sl i hi).later hb⟩

set_option maxHeartbeats 400000 in
theorem zz13_any (a : Option Addr) (n c : Nat) (pa : Option Addr) (m pc pb po : Nat) (A : Nat → Option Addr) (C : Nat → Nat) (P : Nat → List Int) (cy : Bool) (w : World) (hn : n ≤ 9223372036854775807) (hm : m ≤ 9223372036854775807) (h : Nest w pa m pc pb po A C P) :
    Calls Try.prog 13 #[.slice a n c, .slice pa m pc, .bool cy] w fun e w' => (∃ r, e = .returned (.bool r)) ∧ w = w' := by
  by_cases h1 : n ≤ 1048576
  · by_cases h2 : m ≤ 1048576
    · by_cases h3 : n + m ≤ 1048576
      · go_enter Try.func13, Try.ntmps13
        go_wp2
        go_loopg [7, 8] m (fun gh s7 s8 wr => ∃ k z : Nat, k ≤ m ∧ gh = m - k ∧ s8 = .int .i64 (k : Nat) ∧ s7 = .int .i64 (z : Nat) ∧ z ≤ 1048576 ∧ w = wr)
        case atStart => exact ⟨0, n + m, Nat.zero_le _, rfl, rfl, by go_num, h3, rfl⟩
        case round =>
          obtain ⟨k, z, hk, rfl, rfl, rfl, hz, rfl⟩ := hrel
          by_cases hlt : k < m
          · obtain rfl := h.addr (by omega)
            have c1 := h.row k hlt
            by_cases h4 : (P k).length ≤ 1048576
            · by_cases h5 : z + (P k).length ≤ 1048576
              · go_wp2
                go_roundg (m - (k + 1))
                case measure => go_light; omega
                case rel => go_light; exact ⟨k + 1, z + (P k).length, by omega, rfl, by go_num, by go_num, h5, rfl⟩
              · have h5' : (1048576 : Int) < (z : Int) + ((P k).length : Int) := by omega
                go_wp2
                go_ret
                exact ⟨⟨_, rfl⟩, rfl⟩
            · have h4' : (1048576 : Int) < ((P k).length : Int) := by omega
              go_wp2
              go_ret
              exact ⟨⟨_, rfl⟩, rfl⟩
          · go_wp2
            go_ret
            exact ⟨⟨_, rfl⟩, rfl⟩
      · have h3' : (1048576 : Int) < (n : Int) + (m : Int) := by omega
        clear h
        go_enter Try.func13, Try.ntmps13
        go_wp2
        go_ret
        exact ⟨⟨_, rfl⟩, rfl⟩
    · have h3' : (1048576 : Int) < (m : Int) := by omega
      clear h
      go_enter Try.func13, Try.ntmps13
      go_wp2
      go_ret
      exact ⟨⟨_, rfl⟩, rfl⟩
  · have h3' : (1048576 : Int) < (n : Int) := by omega
    clear h
    go_enter Try.func13, Try.ntmps13
    go_wp2
    go_ret
    exact ⟨⟨_, rfl⟩, rfl⟩

/-! ### The clones -/

structure Copying3 (w wr : World) (n : Nat) (zs : List Int) (k : Nat) : Prop where
  below : Below w.heap.size w wr
  row : wr.rowIs w.heap.size 3 n (part zs k)

theorem copying3_start (w : World) (n : Nat) (zs : List Int) : Copying3 w (w.alloc (.cells (madeCells #[.int .i64 0] n) 3)) n zs 0 :=
  ⟨(Below.refl _ _).alloc (Nat.le_refl _) _, (World.rowIs_made w _ n 3).congr (fun j _ => by simp [part])⟩

theorem copying3_step {w wr : World} {n : Nat} {zs : List Int} {k : Nat} (h : Copying3 w wr n zs k) : Copying3 w (wr.setCell ⟨w.heap.size, k, none⟩ (.int .i64 (zs[k]?.getD 0))) n zs (k + 1) := by
  refine ⟨h.below.setCell (Nat.le_refl _) _, (h.row.set k _).congr (fun j _ => ?_)⟩
  simp only [part]
  by_cases e : j = k
  · subst e; simp
  · rw [if_neg e]
    by_cases hlt : j < k
    · rw [if_pos hlt, if_pos (by omega)]
    · rw [if_neg hlt, if_neg (by omega)]

theorem copying3_done {w wr : World} {n : Nat} {zs : List Int} (hl : zs.length = n) (h : Copying3 w wr n zs n) : Sl wr (some ⟨w.heap.size, 0, none⟩) n n zs :=
  Sl.ofRow hl (h.row.congr fun i hi => by simp [part, hi])

set_option maxHeartbeats 400000 in
theorem words_any (a : Option Addr) (n c : Nat) (zs : List Int) (w : World) (h : Sl w a n c zs) (hn : n ≤ 1048576) :
    Calls Try.prog 14 #[.slice a n c] w fun e w' => ∃ a' c', e = .returned (.slice a' n c') ∧ Sl w' a' n c' zs ∧ Below w.heap.size w w' ∧ (a' = none ∨ a' = some ⟨w.heap.size, 0, none⟩) := by
  have q32 : ∀ (w : World) (a : Option Addr) (n c n' c' : Nat), (binOp .eql 32 (.slice a n c) (.slice none n' c')).run Try.prog w = .ok (.bool a.isNone) w := fun w a n c n' c' => Lib.run_eql_slice_nil w _ _ a n c n' c' Try.underlying32
  cases a with
  | none =>
    obtain ⟨rfl, rfl⟩ := h.nil rfl
    go_enter Try.func14, Try.ntmps14
    go_wp2
    go_ret
    exact ⟨none, 0, rfl, h, Below.refl _ _, .inl rfl⟩
  | some x =>
    have hmk := run_make_row' (P := Try.prog) 32 3 (.int .i64 0) 8 Try.underlying32 Try.info3 rfl .i64 .i64 n (by omega) (by omega)
    obtain ⟨b, off, ha, hc⟩ := h.open
    have HL : Hid (zs.length = n) := h.len
    clear h
    go_enter Try.func14, Try.ntmps14
    go_wp2
    clear hmk
    go_loopg [4] n (fun g i wr => ∃ k : Nat, k ≤ n ∧ g = n - k ∧ i = .int .i64 k ∧ Copying3 w wr n zs k)
    case atStart => exact ⟨0, Nat.zero_le _, rfl, rfl, copying3_start w n zs⟩
    case round =>
      obtain ⟨k, hk, rfl, rfl, hC⟩ := hrel
      by_cases hlt : k < n
      · have hx := Option.some.inj (ha (by omega))
        subst hx
        have g0 : wr.cell? ⟨b, off + k, none⟩ = some (.int .i64 (zs.getD k 0)) := cell_later hC.below (hc k hlt)
        have g1 : wr.cell? ⟨w.heap.size, k, none⟩ = some (part zs k k) := hC.row.cell hlt
        have g2 : wr.frozen? ⟨w.heap.size, k, none⟩ = false := hC.row.frozen k
        clear ha hc
        go_wp2
        go_roundg (n - (k + 1))
        case measure => go_light; omega
        case rel => go_light; exact ⟨k + 1, by omega, rfl, by go_num, copying3_step hC⟩
      · go_wp2
        go_ret
        have e : k = n := by omega
        subst e
        exact ⟨_, _, rfl, copying3_done HL.out hC, hC.below, .inr rfl⟩

/-- The outer row of the copy when k rows are copied. -/
structure NestC (w wr : World) (m : Nat) (P : Nat → List Int) (A : Nat → Option Addr) (C : Nat → Nat) (k : Nat) : Prop where
  below : Below w.heap.size w wr
  size : w.heap.size < wr.heap.size
  row : wr.rowIs w.heap.size 32 m (fun i => if i < k then .slice (A i) (P i).length (C i) else .slice none 0 0)
  sl : ∀ i, i < k → Sl wr (A i) (P i).length (C i) (P i)
  out : ∀ i, i < k → ∀ x, A i = some x → w.heap.size < x.block

theorem Sl.setOther {w : World} {a : Option Addr} {n c : Nat} {zs : List Int} (h : Sl w a n c zs) (y : Addr) (v : Value) (hy : ∀ x, a = some x → x.block ≠ y.block) : Sl (w.setCell y v) a n c zs := by
  refine ⟨h.len, h.le, h.nil, ?_⟩
  rcases h.cells with h0 | ⟨b, off, ha, hc⟩
  · exact .inl h0
  · refine .inr ⟨b, off, ha, fun i hi => ?_⟩
    rw [World.cell?_setCell_other _ _ _ _ (fun e => by have := congrArg Addr.block e; exact hy _ ha (by simpa using this.symm))]
    exact hc i hi

theorem nestC_start (w : World) (m : Nat) (P : Nat → List Int) : NestC w (w.alloc (.cells (madeCells #[.slice none 0 0] m) 32)) m P (fun _ => none) (fun _ => 0) 0 :=
  ⟨(Below.refl _ _).alloc (Nat.le_refl _) _, by simp, (World.rowIs_made w _ m 32).congr (fun j _ => by simp), fun i hi => by omega, fun i hi => by omega⟩

theorem nestC_step {w wr w1 : World} {m : Nat} {P : Nat → List Int} {A : Nat → Option Addr} {C : Nat → Nat} {k : Nat} (h : NestC w wr m P A C k) (hb : Below wr.heap.size wr w1) {a' : Option Addr} {c' : Nat} (hs : Sl w1 a' (P k).length c' (P k)) (ha : a' = none ∨ a' = some ⟨wr.heap.size, 0, none⟩) :
    NestC w (w1.setCell ⟨w.heap.size, k, none⟩ (.slice a' (P k).length c')) m P (fun i => if i = k then a' else A i) (fun i => if i = k then c' else C i) (k + 1) := by
  have h1 := h.size
  have h2 := hb.size
  have ha' : ∀ x, a' = some x → x.block ≠ w.heap.size := by
    intro x hx
    rcases ha with e | e
    · rw [e] at hx; cases hx
    · rw [e] at hx; cases hx; show wr.heap.size ≠ _; omega
  refine ⟨(h.below.trans (hb.mono (by omega))).setCell (Nat.le_refl _) _, by simp; omega, ((h.row.of_block (hb.block _ h1)).set k _).congr fun i hi => ?_, fun i hi => ?_, fun i hi x hx => ?_⟩
  · by_cases e : i = k
    · subst e; simp
    · rw [if_neg e, if_neg e]
      by_cases hlt : i < k
      · rw [if_pos hlt, if_pos (by omega), if_neg e]
      · rw [if_neg hlt, if_neg (by omega)]
  · by_cases e : i = k
    · subst e; simp only [if_true]; exact hs.setOther _ _ ha'
    · simp only [if_neg e]
      exact ((h.sl i (by omega)).later hb).setOther _ _ (fun x hx => by have := h.out i (by omega) x hx; show x.block ≠ w.heap.size; omega)
  · by_cases e : i = k
    · subst e
      simp only [if_true] at hx
      rcases ha with e | e
      · rw [e] at hx; cases hx
      · rw [e] at hx; cases hx; exact h1
    · simp only [if_neg e] at hx
      exact h.out i (by omega) x hx

set_option maxHeartbeats 400000 in
theorem nested_any (a : Option Addr) (m c b off : Nat) (A : Nat → Option Addr) (C : Nat → Nat) (P : Nat → List Int) (w : World) (h : Nest w a m c b off A C P) (hm : m ≤ 1048576) (hP : ∀ i, i < m → (P i).length ≤ 1048576) :
    Calls Try.prog 15 #[.slice a m c] w fun e w' => ∃ a' c' b' off' A' C', e = .returned (.slice a' m c') ∧ Nest w' a' m c' b' off' A' C' P ∧ Below w.heap.size w w' := by
  have q33 : ∀ (w : World) (a : Option Addr) (n c n' c' : Nat), (binOp .eql 33 (.slice a n c) (.slice none n' c')).run Try.prog w = .ok (.bool a.isNone) w := fun w a n c n' c' => Lib.run_eql_slice_nil w _ _ a n c n' c' Try.underlying33
  cases a with
  | none =>
    obtain ⟨rfl, rfl⟩ := h.nil rfl
    go_enter Try.func15, Try.ntmps15
    go_wp2
    go_ret
    exact ⟨none, 0, b, off, A, C, rfl, h, Below.refl _ _⟩
  | some x =>
    have hmk := run_make_row' (P := Try.prog) 33 32 (.slice none 0 0) 24 Try.underlying33 Try.info32 rfl .i64 .i64 m (by omega) (by omega)
    go_enter Try.func15, Try.ntmps15
    go_wp2
    clear hmk
    go_loopg [4] m (fun g i wr => ∃ (k : Nat) (A' : Nat → Option Addr) (C' : Nat → Nat), k ≤ m ∧ g = m - k ∧ i = .int .i64 k ∧ NestC w wr m P A' C' k)
    case atStart => exact ⟨0, _, _, Nat.zero_le _, rfl, rfl, nestC_start w m P⟩
    case round =>
      obtain ⟨k, A', C', hk, rfl, rfl, hC⟩ := hrel
      by_cases hlt : k < m
      · have hx := Option.some.inj (h.addr (by omega))
        subst hx
        have g0 := cell_later hC.below (h.row k hlt)
        have hsl := (h.sl k hlt).later hC.below
        have hPk := hP k hlt
        go_wp2_with fail
        refine (words_any _ _ _ _ _ hsl hPk).mono ?_
        rintro e w1 ⟨a', c', rfl, hS', hb', ha'⟩
        obtain ⟨u0, g1⟩ : ∃ u0, w1.cell? ⟨w.heap.size, k, none⟩ = some u0 := ⟨_, (hC.row.of_block (hb'.block _ hC.size)).cell hlt⟩
        have g2 : w1.frozen? ⟨w.heap.size, k, none⟩ = false := (hC.row.of_block (hb'.block _ hC.size)).frozen k
        have hC' := nestC_step hC hb' hS' ha'
        clear g0 hsl hS' hC
        go_wp2
        go_roundg (m - (k + 1))
        case measure => go_light; omega
        case rel => go_light; exact ⟨k + 1, _, _, by omega, rfl, by go_num, hC'⟩
      · go_wp2
        go_ret
        have e : k = m := by omega
        subst e
        refine ⟨_, _, w.heap.size, 0, A', C', rfl, ⟨(fun h => by cases h), fun _ => rfl, fun i hi => ?_, hC.sl⟩, hC.below⟩
        rw [Nat.zero_add, hC.row.cell hi, if_pos hi]

/-! ### ZZknownPlaces -/

theorem zzplaces_any (a : Option Addr) (n c ob oo : Nat) (o : Nat → Nat) (pa : Option Addr) (np pc pb po : Nat) (A : Nat → Option Addr) (L C RB RO : Nat → Nat) (q : Nat → Nat → Nat) (pos : Nat → Nat) (w : World)
    (hO : InOrd w a n ob oo o) (hP : InPar w pa np pb po A L C RB RO q) (g : Gr n np o L q pos) (hn : n ≤ 4096) (hnp : np ≤ 4096) (hL : ∀ i, i < np → L i ≤ 1048576) :
    Calls Try.prog 16 #[.slice a n c, .slice pa np pc, .bool false] w fun e w' => e = .returned (.slice (some ⟨w.heap.size, 0, none⟩) (n + 1) (n + 1)) ∧ Below w.heap.size w w' ∧ ∃ kn : Nat → Bool,
      w'.rowIs w.heap.size 4 (n + 1) (fun x => .bool (kn x)) ∧ kn 0 = false ∧ ∀ k, 1 ≤ k → k ≤ n → (kn k = true ↔ KN n np o L q pos k) := by
  go_enter Try.func16, Try.ntmps16
  go_wp2_with fail
  refine (places_any a n c ob oo o pa np pc pb po A L C RB RO q pos w hO hP g hn hnp hL).mono ?_
  rintro e w1 ⟨rfl, h⟩
  go_wp2
  go_ret
  exact ⟨rfl, h⟩

set_option maxRecDepth 1000000 in
theorem cyclic_any (a : Option Addr) (n c : Nat) (pa : Option Addr) (np pc : Nat) (w : World) (hn : n ≤ 4096) :
    Calls Try.prog 18 #[.slice a n c, .slice pa np pc, .bool true] w fun e w' => e = .returned (.slice (some ⟨w.heap.size, 0, none⟩) (n + 1) (n + 1)) ∧ Below w.heap.size w w' ∧ w'.rowIs w.heap.size 4 (n + 1) (fun _ => .bool false) := by
  have hmk4 := run_make_row' (P := Try.prog) 37 4 (.bool false) 1 Try.underlying37 Try.info4 rfl .i64 .i64 (n + 1) (by omega) (by omega)
  have e1 : ((n + 1 : Nat) : Int) = (n : Int) + 1 := by omega
  rw [e1] at hmk4
  clear e1
  go_enter Try.func18, Try.ntmps18
  go_wp2
  go_ret
  exact ⟨rfl, (Below.refl _ _).alloc (Nat.le_refl _) _, World.rowIs_made w _ (n + 1) 4⟩

theorem zzcyclic_any (a : Option Addr) (n c : Nat) (pa : Option Addr) (np pc : Nat) (w : World) (hn : n ≤ 4096) :
    Calls Try.prog 16 #[.slice a n c, .slice pa np pc, .bool true] w fun e w' => e = .returned (.slice (some ⟨w.heap.size, 0, none⟩) (n + 1) (n + 1)) ∧ Below w.heap.size w w' ∧ w'.rowIs w.heap.size 4 (n + 1) (fun _ => .bool false) := by
  go_enter Try.func16, Try.ntmps16
  go_wp2_with fail
  refine (cyclic_any a n c pa np pc w hn).mono ?_
  rintro e w1 ⟨rfl, h⟩
  go_wp2
  go_ret
  exact ⟨rfl, h⟩

theorem bit_u64 (x s : Nat) (hx : x < 18446744073709551616) : (bits BinOp.and IntKind.u64 ((x : Int) / 2 ^ s) 1 == 1) = x.testBit s := by
  have e : ((x : Int) / 2 ^ s) = ((x / 2 ^ s : Nat) : Int) := by simp
  have hle : x / 2 ^ s ≤ x := Nat.div_le_self _ _
  have h1 := bits_and_u64_nat (x / 2 ^ s) 1 (by omega) (by omega)
  rw [e]
  rw [show ((1 : Nat) : Int) = 1 from rfl] at h1
  rw [h1, Nat.and_one_is_mod, Nat.testBit_eq_decide_div_mod_eq]
  rcases Nat.mod_two_eq_zero_or_one (x / 2 ^ s) with h | h <;> rw [h] <;> rfl

set_option maxHeartbeats 400000 in
theorem hasBit_any (b N v wd z : Nat) (X : Nat → Nat) (w : World) (hN : N ≤ 1048576) (hr : w.rowIs b 40 N (fun i => .int .u64 ((X i : Nat) : Int))) (hv : v * wd + z / 64 < N) (hX : X (v * wd + z / 64) < 18446744073709551616) (hz : z ≤ 4096) :
    Calls Try.prog 17 #[.slice (some ⟨b, 0, none⟩) N N, .int .i64 (v : Nat), .int .i64 (wd : Nat), .int .i64 (z : Nat)] w fun e w' => e = .returned (.bool ((X (v * wd + z / 64)).testBit (z % 64))) ∧ w = w' := by
  have c1 : w.cell? ⟨b, v * wd + z / 64, none⟩ = some (.int .u64 ((X (v * wd + z / 64) : Nat) : Int)) := hr.cell hv
  have hvw : 0 ≤ (v : Int) * (wd : Int) := by rw [← Int.natCast_mul]; omega
  have hvw2 : (v : Int) * (wd : Int) + (z : Int) / 64 < (N : Int) := by rw [← Int.natCast_mul]; omega
  go_enter Try.func17, Try.ntmps17
  go_wp2
  go_ret
  exact ⟨ret_bool (bit_u64 _ _ hX), rfl⟩
end Go.Proofs.Qxb6605219a
