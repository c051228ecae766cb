import Derived.Test.Qxb6605262aBuf
namespace Go.Proofs.Qxb6605262a
open Go.RowKit
set_option linter.unusedVariables false

/-- A Value by its three fields; an assignment. -/
structure Val where
  t : Int
  m : Int
  s : ByteArray
structure Asg where
  c : Int
  v : Val

def nul : Val := ⟨0, 0, ByteArray.empty⟩
def nulA : Asg := ⟨0, nul⟩

/-- The four cells of an assignment, the three of a Value. -/
def fld (x : Asg) : Nat → Value
  | 0 => .int .i64 x.c
  | 1 => .int .u8 x.v.t
  | 2 => .int .u64 x.v.m
  | _ => .string x.v.s
def fldV (x : Val) : Nat → Value
  | 0 => .int .u8 x.t
  | 1 => .int .u64 x.m
  | _ => .string x.s

def quad (g : Nat → Asg) : Nat → Value := fun i => fld (g (i / 4)) (i % 4)
def trip (g : Nat → Val) : Nat → Value := fun i => fldV (g (i / 3)) (i % 3)

theorem quad_at (g : Nat → Asg) (k j : Nat) (hj : j < 4) : quad g (k * 4 + j) = fld (g k) j := by
  unfold quad
  rw [show (k * 4 + j) / 4 = k by omega, show (k * 4 + j) % 4 = j by omega]
theorem trip_at (g : Nat → Val) (k j : Nat) (hj : j < 3) : trip g (k * 3 + j) = fldV (g k) j := by
  unfold trip
  rw [show (k * 3 + j) / 3 = k by omega, show (k * 3 + j) % 3 = j by omega]

/-- The four cells of element k of a row of assignments. -/
structure Four (w : World) (b off : Nat) (x : Asg) : Prop where
  c0 : w.cell? ⟨b, off, none⟩ = some (.int .i64 x.c)
  c1 : w.cell? ⟨b, off + 1, none⟩ = some (.int .u8 x.v.t)
  c2 : w.cell? ⟨b, off + 2, none⟩ = some (.int .u64 x.v.m)
  c3 : w.cell? ⟨b, off + 3, none⟩ = some (.string x.v.s)
structure Three (w : World) (b off : Nat) (x : Val) : Prop where
  c0 : w.cell? ⟨b, off, none⟩ = some (.int .u8 x.t)
  c1 : w.cell? ⟨b, off + 1, none⟩ = some (.int .u64 x.m)
  c2 : w.cell? ⟨b, off + 2, none⟩ = some (.string x.s)

theorem Four.later {w w' : World} {b off : Nat} {x : Asg} (h : Four w b off x) (hb : Below w.heap.size w w') : Four w' b off x :=
  ⟨cell_later hb h.c0, cell_later hb h.c1, cell_later hb h.c2, cell_later hb h.c3⟩
theorem Three.later {w w' : World} {b off : Nat} {x : Val} (h : Three w b off x) (hb : Below w.heap.size w w') : Three w' b off x :=
  ⟨cell_later hb h.c0, cell_later hb h.c1, cell_later hb h.c2⟩

theorem four_of_row {w : World} {b n : Nat} {t : TypeId} {g : Nat → Asg} (h : w.rowIs b t (n * 4) (quad g)) {k : Nat} (hk : k < n) : Four w b (k * 4) (g k) := by
  have h0 := h.cell (i := k * 4 + 0) (by omega)
  have h1 := h.cell (i := k * 4 + 1) (by omega)
  have h2 := h.cell (i := k * 4 + 2) (by omega)
  have h3 := h.cell (i := k * 4 + 3) (by omega)
  rw [quad_at g k _ (by omega)] at h0 h1 h2 h3
  exact ⟨h0, h1, h2, h3⟩
theorem three_of_row {w : World} {b n : Nat} {t : TypeId} {g : Nat → Val} (h : w.rowIs b t (n * 3) (trip g)) {k : Nat} (hk : k < n) : Three w b (k * 3) (g k) := by
  have h0 := h.cell (i := k * 3 + 0) (by omega)
  have h1 := h.cell (i := k * 3 + 1) (by omega)
  have h2 := h.cell (i := k * 3 + 2) (by omega)
  rw [trip_at g k _ (by omega)] at h0 h1 h2
  exact ⟨h0, h1, h2⟩

/-- 'make' of structs. -/
theorem run_make_struct {P : Program} (t e : TypeId) (z : Value) (size bytes : Nat) (ht : P.underlying t = some (.slice e)) (hinfo : (P.info? e).map (fun i => (i.zero, i.size, i.bytes)) = some (some z, size, bytes))
    (kl kc : IntKind) (n : Nat) (hbytes : bytes * n ≤ 281474976710656) (h63 : n ≤ 9223372036854775807) (w : World) :
    (Instr.makeSlice t (.int kl (n : Int)) (.int kc (n : Int))).run P w = .ok (.slice (some ⟨w.heap.size, 0, none⟩) n n) (w.alloc (.cells (madeCells z.cells (n * size)) e)) := by
  obtain ⟨i, hi, hzz⟩ := Option.map_eq_some_iff.1 hinfo
  simp only [Prod.mk.injEq] at hzz
  obtain ⟨hz, hs, hb⟩ := hzz
  have hb' : (i.bytes : Int) * (n : Int) ≤ 281474976710656 := by
    have h : ((i.bytes * n : Nat) : Int) ≤ 281474976710656 := by rw [hb]; omega
    rwa [Int.natCast_mul] at h
  have hr := run_make (P := P) w t e i z ht hi hz kl kc n n (by omega) (Int.le_refl _) hb' (by omega)
  simp only [Int.toNat_natCast, hs] at hr
  exact hr

theorem rowQ_made (w : World) (n : Nat) (t : TypeId) : (w.alloc (.cells (madeCells #[.int .i64 0, .int .u8 0, .int .u64 0, .string ByteArray.empty] (n * 4)) t)).rowIs w.heap.size t (n * 4) (quad fun _ => nulA) := by
  refine ⟨_, Go.Deep.blk_alloc_new _ _, size_madeCells _ _, fun i hi => ?_⟩
  have : i % 4 < 4 := Nat.mod_lt _ (by omega)
  simp only [madeCells, Array.getElem?_map, Array.getElem?_range, hi, if_true, Option.map_some]
  congr 1
  unfold quad
  rcases (show i % 4 = 0 ∨ i % 4 = 1 ∨ i % 4 = 2 ∨ i % 4 = 3 by omega) with h | h | h | h <;> simp [h, fld, nulA, nul]
theorem rowT_made (w : World) (n : Nat) (t : TypeId) : (w.alloc (.cells (madeCells #[.int .u8 0, .int .u64 0, .string ByteArray.empty] (n * 3)) t)).rowIs w.heap.size t (n * 3) (trip fun _ => nul) := by
  refine ⟨_, Go.Deep.blk_alloc_new _ _, size_madeCells _ _, fun i hi => ?_⟩
  have : i % 3 < 3 := Nat.mod_lt _ (by omega)
  simp only [madeCells, Array.getElem?_map, Array.getElem?_range, hi, if_true, Option.map_some]
  congr 1
  unfold trip
  rcases (show i % 3 = 0 ∨ i % 3 = 1 ∨ i % 3 = 2 by omega) with h | h | h <;> simp [h, fldV, nul]

theorem Try.info61 : (Try.prog.info? 61).map (fun i => (i.zero, i.size, i.bytes)) = some (some (.agg #[.int .i64 0, .int .u8 0, .int .u64 0, .string ByteArray.empty]), 4, 40) := by kernel_rfl

/-- A slice of assignments that can be read. -/
structure SlA (w : World) (a : Option Addr) (n c : Nat) (A : Nat → Asg) : Prop where
  le : n ≤ c
  nil : a = none → n = 0 ∧ c = 0
  cells : n = 0 ∨ ∃ b off, a = some ⟨b, off, none⟩ ∧ ∀ i, i < n → Four w b (off + i * 4) (A i)

theorem SlA.later {w w' : World} {a : Option Addr} {n c : Nat} {A : Nat → Asg} (h : SlA w a n c A) (hb : Below w.heap.size w w') : SlA w' a n c A := by
  refine ⟨h.le, h.nil, ?_⟩
  rcases h.cells with h0 | ⟨b, off, ha, hc⟩
  · exact .inl h0
  · exact .inr ⟨b, off, ha, fun i hi => (hc i hi).later hb⟩

theorem SlA.ofRow {w : World} {b n : Nat} {t : TypeId} {A : Nat → Asg} (h : w.rowIs b t (n * 4) (quad A)) : SlA w (some ⟨b, 0, none⟩) n n A :=
  ⟨Nat.le_refl _, (fun h => by cases h), .inr ⟨b, 0, rfl, fun i hi => by rw [Nat.zero_add]; exact four_of_row h hi⟩⟩

theorem SlA.open {w : World} {a : Option Addr} {n c : Nat} {A : Nat → Asg} (h : SlA w a n c A) :
    ∃ b off, (0 < n → a = some ⟨b, off, none⟩) ∧ ∀ i, i < n → Four w b (off + i * 4) (A i) := by
  rcases h.cells with h0 | ⟨b, off, ha, hc⟩
  · exact ⟨0, 0, fun h => by omega, fun i hi => by omega⟩
  · exact ⟨b, off, fun _ => ha, hc⟩

/-! ### Stores of whole structs -/

def put4 (w : World) (b o : Nat) (x : Asg) : World :=
  (((w.setCell ⟨b, o, none⟩ (.int .i64 x.c)).setCell ⟨b, o + 1, none⟩ (.int .u8 x.v.t)).setCell ⟨b, o + 2, none⟩ (.int .u64 x.v.m)).setCell ⟨b, o + 3, none⟩ (.string x.v.s)
def put3 (w : World) (b o : Nat) (x : Val) : World :=
  ((w.setCell ⟨b, o, none⟩ (.int .u8 x.t)).setCell ⟨b, o + 1, none⟩ (.int .u64 x.m)).setCell ⟨b, o + 2, none⟩ (.string x.s)

theorem below_put4 {B : Nat} {w w1 : World} (h : Below B w w1) {b : Nat} (hb : B ≤ b) (o : Nat) (x : Asg) : Below B w (put4 w1 b o x) :=
  (((h.setCell hb _).setCell hb _).setCell hb _).setCell hb _
theorem below_put3 {B : Nat} {w w1 : World} (h : Below B w w1) {b : Nat} (hb : B ≤ b) (o : Nat) (x : Val) : Below B w (put3 w1 b o x) :=
  ((h.setCell hb _).setCell hb _).setCell hb _

theorem row_put4_other {w : World} {b b' t n : Nat} {f : Nat → Value} (h : w.rowIs b t n f) (hne : b ≠ b') (o : Nat) (x : Asg) : (put4 w b' o x).rowIs b t n f :=
  (((h.setOther hne _).setOther hne _).setOther hne _).setOther hne _
theorem row_put3_other {w : World} {b b' t n : Nat} {f : Nat → Value} (h : w.rowIs b t n f) (hne : b ≠ b') (o : Nat) (x : Val) : (put3 w b' o x).rowIs b t n f :=
  ((h.setOther hne _).setOther hne _).setOther hne _

theorem rowQ_put {w : World} {b n : Nat} {t : TypeId} {g g' : Nat → Asg} (h : w.rowIs b t (n * 4) (quad g)) (k : Nat) (x : Asg) (hg : ∀ i, i < n → g' i = if i = k then x else g i) : (put4 w b (k * 4) x).rowIs b t (n * 4) (quad g') := by
  refine ((((h.set _ _).set _ _).set _ _).set _ _).congr fun i hi => ?_
  have hm : i % 4 < 4 := Nat.mod_lt _ (by omega)
  unfold quad
  rw [hg (i / 4) (by omega)]
  by_cases e : i / 4 = k
  · rw [if_pos e]
    rcases (show i % 4 = 0 ∨ i % 4 = 1 ∨ i % 4 = 2 ∨ i % 4 = 3 by omega) with h | h | h | h
    · rw [h, if_neg (by omega), if_neg (by omega), if_neg (by omega), if_pos (by omega)]; rfl
    · rw [h, if_neg (by omega), if_neg (by omega), if_pos (by omega)]; rfl
    · rw [h, if_neg (by omega), if_pos (by omega)]; rfl
    · rw [h, if_pos (by omega)]; rfl
  · rw [if_neg e, if_neg (by omega), if_neg (by omega), if_neg (by omega), if_neg (by omega)]
theorem rowT_put {w : World} {b n : Nat} {t : TypeId} {g g' : Nat → Val} (h : w.rowIs b t (n * 3) (trip g)) (k : Nat) (x : Val) (hg : ∀ i, i < n → g' i = if i = k then x else g i) : (put3 w b (k * 3) x).rowIs b t (n * 3) (trip g') := by
  refine (((h.set _ _).set _ _).set _ _).congr fun i hi => ?_
  have hm : i % 3 < 3 := Nat.mod_lt _ (by omega)
  unfold trip
  rw [hg (i / 3) (by omega)]
  by_cases e : i / 3 = k
  · rw [if_pos e]
    rcases (show i % 3 = 0 ∨ i % 3 = 1 ∨ i % 3 = 2 by omega) with h | h | h
    · rw [h, if_neg (by omega), if_neg (by omega), if_pos (by omega)]; rfl
    · rw [h, if_neg (by omega), if_pos (by omega)]; rfl
    · rw [h, if_pos (by omega)]; rfl
  · rw [if_neg e, if_neg (by omega), if_neg (by omega), if_neg (by omega)]

/-- The first k of A, then z. -/
def upto {α : Type} (A : Nat → α) (z : α) (k : Nat) : Nat → α := fun i => if i < k then A i else z
theorem upto_step {α : Type} (A : Nat → α) (z : α) (k i : Nat) : upto A z (k + 1) i = if i = k then A k else upto A z k i := by
  unfold upto
  by_cases e : i = k
  · subst e; rw [if_pos rfl, if_pos (by omega)]
  · rw [if_neg e]
    by_cases h : i < k
    · rw [if_pos h, if_pos (by omega)]
    · rw [if_neg h, if_neg (by omega)]
theorem quad_upto {A : Nat → Asg} {n : Nat} {w : World} {b : Nat} {t : TypeId} (h : w.rowIs b t (n * 4) (quad (upto A nulA n))) : w.rowIs b t (n * 4) (quad A) :=
  h.congr fun i hi => by unfold quad upto; rw [if_pos (by omega)]

structure Rows4 (w : World) (b n : Nat) (t : TypeId) (G : Nat → Asg) : Prop where
  row : w.rowIs b t (n * 4) (quad G)

set_option maxHeartbeats 400000 in
set_option maxRecDepth 100000 in
theorem cloneA_any (a : Option Addr) (n c : Nat) (A : Nat → Asg) (w : World) (h : SlA w a n c A) (hn : n ≤ 1048576) :
    Calls Try.prog 19 #[.slice a n c] w fun e w' => ∃ a' c', e = .returned (.slice a' n c') ∧ SlA w' a' n c' A ∧ Below w.heap.size w w' := by
  have q35 : ∀ (w : World) (a : Option Addr) (n c n' c' : Nat), (binOp .eql 35 (.slice a n c) (.slice none n' c')).run Try.prog w = .ok (.bool a.isNone) w := fun w a n c n' c' => Lib.run_eql_slice_nil w _ _ a n c n' c' Try.underlying35
  cases a with
  | none =>
    obtain ⟨rfl, rfl⟩ := h.nil rfl
    go_enter Try.func19, Try.ntmps19
    go_wp2
    go_ret
    exact ⟨none, 0, rfl, h, Below.refl _ _⟩
  | some x =>
    have hmk := run_make_struct (P := Try.prog) 35 61 _ 4 40 Try.underlying35 Try.info61 .i64 .i64 n (by omega) (by omega)
    simp only [Value.cells] at hmk
    obtain ⟨b, off, ha, hc⟩ := h.open
    clear h
    go_enter Try.func19, Try.ntmps19
    go_wp2
    clear hmk
    go_loopg [4] n (fun gh i wr => ∃ k : Nat, k ≤ n ∧ gh = n - k ∧ i = .int .i64 (k : Nat) ∧ Below w.heap.size w wr ∧ Rows4 wr w.heap.size n 61 (upto A nulA k))
    case atStart => exact ⟨0, Nat.zero_le _, rfl, rfl, (Below.refl _ _).alloc (Nat.le_refl _) _, ⟨rowQ_made w n 61⟩⟩
    case round =>
      obtain ⟨k, hk, rfl, rfl, hb, ⟨hr⟩⟩ := hrel
      by_cases hlt : k < n
      · have hx := Option.some.inj (ha (by omega))
        subst hx
        obtain ⟨e0, e1, e2, e3⟩ := (hc k hlt).later hb
        obtain ⟨d0, d1, d2, d3⟩ := four_of_row hr hlt
        have f0 := hr.frozen (k * 4)
        have f1 := hr.frozen (k * 4 + 1)
        have f2 := hr.frozen (k * 4 + 2)
        have f3 := hr.frozen (k * 4 + 3)
        clear hc ha
        go_wp2
        go_roundg (n - (k + 1))
        case measure => go_light; omega
        case rel => go_light; exact ⟨k + 1, by omega, rfl, by go_num, below_put4 hb (Nat.le_refl _) (k * 4) (A k), ⟨rowQ_put hr k (A k) (fun i _ => upto_step A nulA k i)⟩⟩
      · go_wp2
        go_ret
        have e : k = n := by omega
        subst e
        exact ⟨_, _, rfl, SlA.ofRow (quad_upto hr), hb⟩

/-- Do all columns lie below nc? -/
def colsB (A : Nat → Asg) (n : Nat) (nc : Int) : Prop := ∀ i, i < n → 0 ≤ (A i).c ∧ (A i).c < nc

set_option maxHeartbeats 400000 in
set_option maxRecDepth 100000 in
theorem colsIn_any (a : Option Addr) (n c : Nat) (A : Nat → Asg) (nc : Int) (w : World) (h : SlA w a n c A) (hn : n ≤ 1048576) :
    Calls Try.prog 18 #[.slice a n c, .int .i64 nc] w fun e w' => (e = .returned (.bool false) ∨ (e = .returned (.bool true) ∧ colsB A n nc)) ∧ w = w' := by
  obtain ⟨b, off, ha, hc⟩ := h.open
  clear h
  go_enter Try.func18, Try.ntmps18
  go_wp2
  go_loopg [5] n (fun gh i wr => ∃ k : Nat, k ≤ n ∧ gh = n - k ∧ i = .int .i64 (k : Nat) ∧ w = wr ∧ colsB A k nc)
  case atStart => exact ⟨0, Nat.zero_le _, rfl, rfl, rfl, fun i hi => by omega⟩
  case round =>
    obtain ⟨k, hk, rfl, rfl, rfl, hall⟩ := hrel
    have HA : Hid (colsB A k nc) := hall
    clear hall
    by_cases hlt : k < n
    · obtain rfl := ha (by omega)
      obtain ⟨e0, e1, e2, e3⟩ := hc k hlt
      clear hc ha
      by_cases h1 : (A k).c < 0
      · go_wp2
        go_ret
        exact ⟨.inl rfl, rfl⟩
      · by_cases h2 : nc ≤ (A k).c
        · go_wp2
          go_ret
          exact ⟨.inl rfl, rfl⟩
        · go_wp2
          go_roundg (n - (k + 1))
          case measure => go_light; omega
          case rel =>
            go_light
            refine ⟨k + 1, by omega, rfl, by go_num, rfl, fun i hi => ?_⟩
            by_cases e : i = k
            · subst e; exact ⟨by omega, by omega⟩
            · exact HA.out i (by omega)
    · go_wp2
      go_ret
      have e : k = n := by omega
      subst e
      exact ⟨.inr ⟨rfl, HA.out⟩, rfl⟩

set_option maxHeartbeats 400000 in
set_option maxRecDepth 100000 in
theorem bytes_any (a : Option Addr) (n c : Nat) (A : Nat → Asg) (w : World) (h : SlA w a n c A) (hn : n ≤ 9223372036854775807) :
    Calls Try.prog 17 #[.slice a n c] w fun e w' => (∃ r : Nat, e = .returned (.int .i64 (r : Nat)) ∧ r ≤ 50000000 ∧ (r ≤ 1048576 → n * 40 ≤ 1048576)) ∧ w = w' := by
  by_cases hbig : n ≤ 1048576
  · obtain ⟨b, off, ha, hc⟩ := h.open
    clear h
    go_enter Try.func17, Try.ntmps17
    go_wp2
    go_loopg [3, 4] n (fun gh s3 i wr => ∃ k z : Nat, k ≤ n ∧ gh = n - k ∧ s3 = .int .i64 (z : Nat) ∧ i = .int .i64 (k : Nat) ∧ w = wr ∧ n * 40 ≤ z ∧ z ≤ 50000000 ∧ (k = 0 → z = n * 40) ∧ (0 < k → z ≤ 2097152))
    case atStart => exact ⟨0, n * 40, Nat.zero_le _, rfl, by go_num, rfl, rfl, Nat.le_refl _, by omega, fun _ => rfl, fun h => by omega⟩
    case round =>
      obtain ⟨k, z, hk, rfl, rfl, rfl, rfl, hz1, hz2, hz3, hz4⟩ := hrel
      clear hz3 hz4
      by_cases hlt : k < n
      · obtain rfl := ha (by omega)
        obtain ⟨e0, e1, e2, e3⟩ := hc k hlt
        clear hc ha
        by_cases h1 : 1048576 < z
        · have h1' : (1048576 : Int) < (z : Int) := by omega
          go_wp2
          go_ret
          exact ⟨⟨1048577, rfl, by omega, fun h => by omega⟩, rfl⟩
        · have h1' : ¬ (1048576 : Int) < (z : Int) := by omega
          by_cases h2 : 1048576 < (A k).v.s.size
          · have h2' : (1048576 : Int) < ((A k).v.s.size : Int) := by omega
            go_wp2
            go_ret
            exact ⟨⟨1048577, rfl, by omega, fun h => by omega⟩, rfl⟩
          · have h2' : ¬ (1048576 : Int) < ((A k).v.s.size : Int) := by omega
            go_wp2
            go_roundg (n - (k + 1))
            case measure => go_light; omega
            case rel => go_light; exact ⟨k + 1, z + (A k).v.s.size, by omega, rfl, by go_num, by go_num, rfl, by omega, by omega, fun h => by omega, fun h => by omega⟩
      · go_wp2
        go_ret
        exact ⟨⟨z, rfl, hz2, fun h => by omega⟩, rfl⟩
  · have hb : (1048576 : Int) < (n : Int) := by omega
    clear h
    go_enter Try.func17, Try.ntmps17
    go_wp2
    go_ret
    exact ⟨⟨1048577, rfl, by omega, fun h => by omega⟩, rfl⟩
end Go.Proofs.Qxb6605262a
