import Derived.Test.Qxb6605219aSplit
import Derived.Test.Qxb6605219aGraph
import Derived.Deep.Cut
import Derived.Deep.CutRange
import Derived.Deep.DeepCutAuto
import Derived.BigRegion
namespace Go.Proofs.Qxb6605219a
open Go.RowKit
set_option linter.unusedVariables false

theorem Try.info3 : (Try.prog.info? 3).map (fun i => (i.zero, i.size, i.bytes)) = some (some (.int .i64 0), 1, 8) := by kernel_rfl
theorem Try.info4 : (Try.prog.info? 4).map (fun i => (i.zero, i.size, i.bytes)) = some (some (.bool false), 1, 1) := by kernel_rfl

/-- The order as it lies in memory. -/
structure InOrd (w : World) (a : Option Addr) (n b off : Nat) (o : Nat → Nat) : Prop where
  addr : 0 < n → a = some ⟨b, off, none⟩
  cell : ∀ k, k < n → w.cell? ⟨b, off + k, none⟩ = some (.int .i64 ((o k : Nat) : Int))

/-- The parents as they lie in memory. -/
structure InPar (w : World) (a : Option Addr) (np b off : Nat) (A : Nat → Option Addr) (L C RB RO : Nat → Nat) (q : Nat → Nat → Nat) : Prop where
  addr : 0 < np → a = some ⟨b, off, none⟩
  row : ∀ i, i < np → w.cell? ⟨b, off + i, none⟩ = some (.slice (A i) (L i) (C i))
  raddr : ∀ i, i < np → 0 < L i → A i = some ⟨RB i, RO i, none⟩
  cell : ∀ i j, i < np → j < L i → w.cell? ⟨RB i, RO i + j, none⟩ = some (.int .i64 ((q i j : Nat) : Int))

/-- Known places, all false; the positions of the first k of the order. -/
structure St1 (w wr : World) (n : Nat) (pos : Nat → Nat) (k : Nat) : Prop where
  below : Below w.heap.size w wr
  size : wr.heap.size = w.heap.size + 2
  known : wr.rowIs w.heap.size 4 (n + 1) (fun _ => .bool false)
  posn : wr.rowIs (w.heap.size + 1) 3 n (fun v => .int .i64 ((if pos v ≤ k then pos v else 0 : Nat) : Int))

theorem st1_start (w : World) {n np : Nat} {o L : Nat → Nat} {q : Nat → Nat → Nat} {pos : Nat → Nat} (g : Gr n np o L q pos) :
    St1 w ((w.alloc (.cells (madeCells #[.bool false] (n + 1)) 4)).alloc (.cells (madeCells #[.int .i64 0] n) 3)) n pos 0 := by
  have h1 := World.rowIs_made w (.bool false) (n + 1) 4
  have h2 := World.rowIs_made (w.alloc (.cells (madeCells #[.bool false] (n + 1)) 4)) (.int .i64 0) n 3
  rw [World.size_alloc] at h2
  refine ⟨((Below.refl _ _).alloc (Nat.le_refl _) _).alloc (by simp) _, by simp, h1.alloc _, h2.congr fun v hv => ?_⟩
  have := g.pos_lo v hv
  rw [if_neg (by omega)]; rfl

theorem st1_step {w wr : World} {n np : Nat} {o L : Nat → Nat} {q : Nat → Nat → Nat} {pos : Nat → Nat} (g : Gr n np o L q pos) {k : Nat} (hk : k < n) (h : St1 w wr n pos k) :
    St1 w (wr.setCell ⟨w.heap.size + 1, o k, none⟩ (.int .i64 ((k : Int) + 1))) n pos (k + 1) := by
  refine ⟨h.below.setCell (by show w.heap.size ≤ w.heap.size + 1; omega) _, by simp [h.size], h.known.setOther (by show w.heap.size ≠ w.heap.size + 1; omega) _, (h.posn.set (o k) _).congr fun v hv => ?_⟩
  by_cases e : v = o k
  · subst e
    rw [if_pos rfl, g.pos_o k hk, if_pos (Nat.le_refl _)]
    simp
  · rw [if_neg e]
    have hne : pos v ≠ k + 1 := fun e2 => e (g.eq_of_pos hv (g.o_lt k hk) (by rw [e2, g.pos_o k hk]))
    by_cases hp : pos v ≤ k
    · rw [if_pos hp, if_pos (by omega)]
    · rw [if_neg hp, if_neg (by omega)]

/-- .. and the rows of latest parents and earliest children. -/
structure St3 (w wr : World) (n : Nat) (pos : Nat → Nat) (bl be : Nat) (lP eC : Nat → Nat) : Prop where
  below : Below w.heap.size w wr
  size : wr.heap.size = w.heap.size + 4
  known : wr.rowIs w.heap.size 4 (n + 1) (fun _ => .bool false)
  posn : wr.rowIs (w.heap.size + 1) 3 n (fun v => .int .i64 ((pos v : Nat) : Int))
  lat : wr.rowIs bl 3 (n + 1) (fun x => .int .i64 ((lP x : Nat) : Int))
  ear : wr.rowIs be 3 (n + 1) (fun x => .int .i64 ((eC x : Nat) : Int))
  bl1 : w.heap.size + 2 ≤ bl
  bl2 : bl < w.heap.size + 4
  be1 : w.heap.size + 2 ≤ be
  be2 : be < w.heap.size + 4
  ne : bl ≠ be

theorem st3_of {w wr : World} {n np : Nat} {o L : Nat → Nat} {q : Nat → Nat → Nat} {pos : Nat → Nat} (g : Gr n np o L q pos) (h : St1 w wr n pos n) {bl be : Nat} (hb : (bl = wr.heap.size ∧ be = wr.heap.size + 1) ∨ (be = wr.heap.size ∧ bl = wr.heap.size + 1)) :
    St3 w ((wr.alloc (.cells (madeCells #[.int .i64 0] (n + 1)) 3)).alloc (.cells (madeCells #[.int .i64 0] (n + 1)) 3)).drew n pos bl be (fun _ => 0) (fun _ => 0) := by
  have h1 := (World.rowIs_made wr (.int .i64 0) (n + 1) 3).alloc (.cells (madeCells #[.int .i64 0] (n + 1)) 3)
  have h2 := World.rowIs_made (wr.alloc (.cells (madeCells #[.int .i64 0] (n + 1)) 3)) (.int .i64 0) (n + 1) 3
  rw [World.size_alloc] at h2
  have hs := h.size
  have hb1 := h.below.size
  refine ⟨((h.below.alloc (by omega) _).alloc (by simp; omega) _).drew, by simp [hs], ((h.known.alloc _).alloc _).drew, (((h.posn.alloc _).alloc _).congr fun v hv => ?_).drew, ?_, ?_, by omega, by omega, by omega, by omega, by omega⟩
  · rw [if_pos (g.pos_hi v hv)]
  · rcases hb with ⟨rfl, rfl⟩ | ⟨rfl, rfl⟩
    · exact h1
    · exact h2
  · rcases hb with ⟨rfl, rfl⟩ | ⟨rfl, rfl⟩
    · exact h2
    · exact h1

theorem st3_ear {w wr : World} {n : Nat} {pos : Nat → Nat} {bl be : Nat} {lP eC eC' : Nat → Nat} (h : St3 w wr n pos bl be lP eC) (x v : Nat) (he : ∀ y, y < n + 1 → eC' y = if y = x then v else eC y) :
    St3 w (wr.setCell ⟨be, x, none⟩ (.int .i64 (v : Int))) n pos bl be lP eC' := by
  have h1 := h.be1
  refine ⟨h.below.setCell (by show w.heap.size ≤ be; omega) _, by simp [h.size], h.known.setOther (by show w.heap.size ≠ be; omega) _, h.posn.setOther (by show w.heap.size + 1 ≠ be; omega) _, h.lat.setOther h.ne _, (h.ear.set x _).congr fun y hy => ?_, h.bl1, h.bl2, h.be1, h.be2, h.ne⟩
  rw [he y hy]
  by_cases e : y = x
  · rw [if_pos e, if_pos e]
  · rw [if_neg e, if_neg e]

theorem st3_lat {w wr : World} {n : Nat} {pos : Nat → Nat} {bl be : Nat} {lP lP' eC : Nat → Nat} (h : St3 w wr n pos bl be lP eC) (x v : Nat) (he : ∀ y, y < n + 1 → lP' y = if y = x then v else lP y) :
    St3 w (wr.setCell ⟨bl, x, none⟩ (.int .i64 (v : Int))) n pos bl be lP' eC := by
  have h1 := h.bl1
  refine ⟨h.below.setCell (by show w.heap.size ≤ bl; omega) _, by simp [h.size], h.known.setOther (by show w.heap.size ≠ bl; omega) _, h.posn.setOther (by show w.heap.size + 1 ≠ bl; omega) _, (h.lat.set x _).congr fun y hy => ?_, h.ear.setOther (fun e => h.ne e.symm) _, h.bl1, h.bl2, h.be1, h.be2, h.ne⟩
  rw [he y hy]
  by_cases e : y = x
  · rw [if_pos e, if_pos e]
  · rw [if_neg e, if_neg e]

theorem st3_lat' {w wr : World} {n : Nat} {pos : Nat → Nat} {bl be : Nat} {lP lP' eC : Nat → Nat} (h : St3 w wr n pos bl be lP eC) (x v : Nat) {i : Int} (hi : i = (v : Int)) (he : ∀ y, y < n + 1 → lP' y = if y = x then v else lP y) :
    St3 w (wr.setCell ⟨bl, x, none⟩ (.int .i64 i)) n pos bl be lP' eC := by rw [hi]; exact st3_lat h x v he
theorem st3_ear' {w wr : World} {n : Nat} {pos : Nat → Nat} {bl be : Nat} {lP eC eC' : Nat → Nat} (h : St3 w wr n pos bl be lP eC) (x v : Nat) {i : Int} (hi : i = (v : Int)) (he : ∀ y, y < n + 1 → eC' y = if y = x then v else eC y) :
    St3 w (wr.setCell ⟨be, x, none⟩ (.int .i64 i)) n pos bl be lP eC' := by rw [hi]; exact st3_ear h x v he

theorem St3.drew {w wr : World} {n : Nat} {pos : Nat → Nat} {bl be : Nat} {lP eC : Nat → Nat} (h : St3 w wr n pos bl be lP eC) : St3 w wr.drew n pos bl be lP eC :=
  ⟨h.below.drew, h.size, h.known, h.posn, h.lat, h.ear, h.bl1, h.bl2, h.be1, h.be2, h.ne⟩

/-- What earliestChild holds when k cells are filled. -/
def fillE (n k : Nat) : Nat → Nat := fun x => if x < k then n + 1 else 0
theorem fillE_step (n k y : Nat) : fillE n (k + 1) y = if y = k then n + 1 else fillE n k y := by
  unfold fillE
  by_cases e : y = k
  · rw [if_pos e, if_pos (by omega)]
  · rw [if_neg e]
    by_cases h : y < k
    · rw [if_pos h, if_pos (by omega)]
    · rw [if_neg h, if_neg (by omega)]

def startE (n : Nat) : Nat → Nat := fun x => if x = 0 then (if n = 0 then n + 1 else 1) else n + 1

/-- parentAfter, filled from k on. -/
def PAs (n : Nat) (lP : Nat → Nat) (k : Nat) (pA : Nat → Nat) : Prop :=
  ∀ x, k ≤ x → x ≤ n → pA x ≤ n + 1 ∧ ∀ m, m ≤ n + 1 → (m ≤ pA x ↔ ∀ b, x < b → b ≤ n → m ≤ lP b)

theorem pas_start (n : Nat) (lP : Nat → Nat) : PAs n lP n (fun x => if x = n then n + 1 else 0) := by
  intro x h1 h2
  have e : x = n := by omega
  subst e
  simp only [if_true]
  exact ⟨Nat.le_refl _, fun m hm => ⟨fun _ b hb1 hb2 => by omega, fun _ => hm⟩⟩

theorem pas_step {n : Nat} {lP : Nat → Nat} {k : Nat} {pA : Nat → Nat} (hk : k + 1 ≤ n) (h : PAs n lP (k + 1) pA) : PAs n lP k (fun x => if x = k then min (pA (k + 1)) (lP (k + 1)) else pA x) := by
  intro x h1 h2
  obtain ⟨h3, h4⟩ := h (k + 1) (Nat.le_refl _) hk
  by_cases e : x = k
  · subst e
    simp only [if_true]
    refine ⟨by omega, fun m hm => ?_⟩
    rw [Nat.le_min, h4 m hm]
    constructor
    · rintro ⟨h5, h6⟩ b hb1 hb2
      by_cases e : b = x + 1
      · rw [e]; exact h6
      · exact h5 b (by omega) hb2
    · intro h5
      exact ⟨fun b hb1 hb2 => h5 b (by omega) hb2, h5 (x + 1) (by omega) hk⟩
  · simp only [if_neg e]
    exact h x (by omega) h2

/-- childBefore, over the places below k. -/
def CBs (eC : Nat → Nat) (k cB : Nat) : Prop := ∀ m, cB ≤ m ↔ ∀ a, a + 3 ≤ k → eC a ≤ m

theorem cbs_start (eC : Nat → Nat) : CBs eC 1 0 := fun m => ⟨fun _ a h => by omega, fun _ => Nat.zero_le _⟩
theorem cbs_one {eC : Nat → Nat} {cB : Nat} (h : CBs eC 1 cB) : CBs eC 2 cB := fun m => by
  rw [h m]
  exact ⟨fun _ a h => by omega, fun _ a h => by omega⟩
theorem cbs_step {eC : Nat → Nat} {k cB : Nat} (h : CBs eC (k + 2) cB) : CBs eC (k + 3) (max cB (eC k)) := fun m => by
  rw [Nat.max_le, h m]
  constructor
  · rintro ⟨h1, h2⟩ a ha
    by_cases e : a = k
    · rw [e]; exact h2
    · exact h1 a (by omega)
  · intro h1
    exact ⟨fun a ha => h1 a (by omega), h1 k (by omega)⟩

def KNs (n np : Nat) (o L : Nat → Nat) (q : Nat → Nat → Nat) (pos : Nat → Nat) (k : Nat) (kn : Nat → Bool) : Prop :=
  kn 0 = false ∧ ∀ x, 1 ≤ x → x < k → (kn x = true ↔ KN n np o L q pos x)

theorem kns_step {n np : Nat} {o L : Nat → Nat} {q : Nat → Nat → Nat} {pos : Nat → Nat} (g : Gr n np o L q pos) {lP eC pA : Nat → Nat} (hl : LPs n np L q pos np 0 lP) (he : ECs n np L q pos np 0 eC) (hpa : PAs n lP 0 pA) {k cB : Nat} (hcb : CBs eC (k + 1) cB) (h1 : 1 ≤ k) (hk : k ≤ n)
    {kn : Nat → Bool} (hkn : KNs n np o L q pos k kn) {v : Bool} (hv : v = true ↔ (cB ≤ k - 1 ∧ lP k = k - 1 ∧ k ≤ pA k)) : KNs n np o L q pos (k + 1) (fun x => if x = k then v else kn x) := by
  refine ⟨?_, fun x hx1 hx2 => ?_⟩
  · simp only [if_neg (show ¬ 0 = k by omega)]; exact hkn.1
  · by_cases e : x = k
    · subst e
      simp only [if_true]
      rw [hv, hcb (x - 1), (hpa x (Nat.zero_le _) hk).2 x (by omega), ← g.known_iff hl he h1 hk]
      refine and_congr ?_ Iff.rfl
      exact ⟨fun h a ha => h a (by omega), fun h a ha => h a (by omega)⟩
    · simp only [if_neg e]
      exact hkn.2 x hx1 (by omega)

/-- .. and parentAfter, and what is known so far. -/
structure St5 (w wr : World) (n : Nat) (bl be : Nat) (lP eC pA : Nat → Nat) (kn : Nat → Bool) : Prop where
  below : Below w.heap.size w wr
  known : wr.rowIs w.heap.size 4 (n + 1) (fun x => .bool (kn x))
  lat : wr.rowIs bl 3 (n + 1) (fun x => .int .i64 ((lP x : Nat) : Int))
  ear : wr.rowIs be 3 (n + 1) (fun x => .int .i64 ((eC x : Nat) : Int))
  par : wr.rowIs (w.heap.size + 4) 3 (n + 1) (fun x => .int .i64 ((pA x : Nat) : Int))
  bl1 : w.heap.size + 2 ≤ bl
  bl2 : bl < w.heap.size + 4
  be1 : w.heap.size + 2 ≤ be
  be2 : be < w.heap.size + 4

theorem st5_par {w wr : World} {n bl be : Nat} {lP eC pA pA' : Nat → Nat} {kn : Nat → Bool} (h : St5 w wr n bl be lP eC pA kn) (x v : Nat) {i : Int} (hi : i = (v : Int)) (he : ∀ y, y < n + 1 → pA' y = if y = x then v else pA y) :
    St5 w (wr.setCell ⟨w.heap.size + 4, x, none⟩ (.int .i64 i)) n bl be lP eC pA' kn := by
  have h1 := h.bl1
  have h2 := h.bl2
  have h3 := h.be1
  have h4 := h.be2
  refine ⟨h.below.setCell (by show w.heap.size ≤ w.heap.size + 4; omega) _, h.known.setOther (by show w.heap.size ≠ w.heap.size + 4; omega) _, h.lat.setOther (by show bl ≠ w.heap.size + 4; omega) _, h.ear.setOther (by show be ≠ w.heap.size + 4; omega) _, (h.par.set x _).congr fun y hy => ?_, h1, h2, h3, h4⟩
  rw [he y hy, hi]
  by_cases e : y = x
  · rw [if_pos e, if_pos e]
  · rw [if_neg e, if_neg e]

theorem st5_known {w wr : World} {n bl be : Nat} {lP eC pA : Nat → Nat} {kn : Nat → Bool} (h : St5 w wr n bl be lP eC pA kn) (x : Nat) (v : Bool) :
    St5 w (wr.setCell ⟨w.heap.size, x, none⟩ (.bool v)) n bl be lP eC pA (fun y => if y = x then v else kn y) := by
  have h1 := h.bl1
  have h3 := h.be1
  refine ⟨h.below.setCell (Nat.le_refl _) _, (h.known.set x _).congr fun y hy => ?_, h.lat.setOther (by show bl ≠ w.heap.size; omega) _, h.ear.setOther (by show be ≠ w.heap.size; omega) _, h.par.setOther (by show w.heap.size + 4 ≠ w.heap.size; omega) _, h1, h.bl2, h3, h.be2⟩
  by_cases e : y = x
  · rw [if_pos e, if_pos e]
  · rw [if_neg e, if_neg e]

theorem St5.drew {w wr : World} {n bl be : Nat} {lP eC pA : Nat → Nat} {kn : Nat → Bool} (h : St5 w wr n bl be lP eC pA kn) : St5 w wr.drew n bl be lP eC pA kn :=
  ⟨h.below.drew, h.known, h.lat, h.ear, h.par, h.bl1, h.bl2, h.be1, h.be2⟩

theorem st5_start {w wr : World} {n : Nat} {pos : Nat → Nat} {bl be : Nat} {lP eC : Nat → Nat} (h : St3 w wr n pos bl be lP eC) :
    St5 w (wr.alloc (.cells ((madeCells #[.int .i64 0] (n + 1)).setIfInBounds n (.int .i64 ((n : Int) + 1))) 3)) n bl be lP eC (fun x => if x = n then n + 1 else 0) (fun _ => false) := by
  have h1 := (World.rowIs_made wr (.int .i64 0) (n + 1) 3).set n (.int .i64 ((n : Int) + 1))
  rw [World.setCell_alloc_at _ _ _ _ _ rfl] at h1
  have hs := h.size
  have hb := h.below.size
  rw [hs] at h1
  refine ⟨h.below.alloc hb _, h.known.alloc _, h.lat.alloc _, h.ear.alloc _, h1.congr fun y hy => ?_, h.bl1, h.bl2, h.be1, h.be2⟩
  by_cases e : y = n
  · rw [if_pos e, if_pos e]; rfl
  · rw [if_neg e, if_neg e]; rfl

set_option maxHeartbeats 4000000 in
set_option maxRecDepth 1000000 in
theorem places_any (a : Option Addr) (n c ob oo : Nat) (o : Nat → Nat) (pa : Option Addr) (np pc pb po : Nat) (A : Nat → Option Addr) (L C RB RO : Nat → Nat) (q : Nat → Nat → Nat) (pos : Nat → Nat) (w : World)
    (hO : InOrd w a n ob oo o) (hP : InPar w pa np pb po A L C RB RO q) (g : Gr n np o L q pos) (hn : n ≤ 4096) (hnp : np ≤ 4096) (hL : ∀ i, i < np → L i ≤ 1048576) :
    Calls Try.prog 18 #[.slice a n c, .slice pa np pc, .bool false] w fun e w' => e = .returned (.slice (some ⟨w.heap.size, 0, none⟩) (n + 1) (n + 1)) ∧ Below w.heap.size w w' ∧ ∃ kn : Nat → Bool,
      w'.rowIs w.heap.size 4 (n + 1) (fun x => .bool (kn x)) ∧ kn 0 = false ∧ ∀ k, 1 ≤ k → k ≤ n → (kn k = true ↔ KN n np o L q pos k) := by
  have hmk4 := run_make_row' (P := Try.prog) 37 4 (.bool false) 1 Try.underlying37 Try.info4 rfl .i64 .i64 (n + 1) (by omega) (by omega)
  have hmk3 := run_make_row' (P := Try.prog) 32 3 (.int .i64 0) 8 Try.underlying32 Try.info3 rfl .i64 .i64 n (by omega) (by omega)
  have hmk3' := run_make_row' (P := Try.prog) 32 3 (.int .i64 0) 8 Try.underlying32 Try.info3 rfl .i64 .i64 (n + 1) (by omega) (by omega)
  have e1 : ((n + 1 : Nat) : Int) = (n : Int) + 1 := by omega
  rw [e1] at hmk4 hmk3'
  clear e1
  go_enter Try.func18, Try.ntmps18
  go_wp2
  clear hmk4 hmk3
  go_loopg [34] n (fun gh i wr => ∃ k : Nat, k ≤ n ∧ gh = n - k ∧ i = .int .i64 k ∧ St1 w wr n pos k)
  case atStart => exact ⟨0, Nat.zero_le _, rfl, rfl, st1_start w g⟩
  case round =>
    obtain ⟨k, hk, rfl, rfl, hS⟩ := hrel
    by_cases hlt : k < n
    · obtain rfl := hO.addr (by omega)
      have g0 : wr.cell? ⟨ob, oo + k, none⟩ = some (.int .i64 ((o k : Nat) : Int)) := cell_later hS.below (hO.cell k hlt)
      have hok := g.o_lt k hlt
      obtain ⟨u0, g1⟩ : ∃ u0, wr.cell? ⟨w.heap.size + 1, o k, none⟩ = some u0 := ⟨_, hS.posn.cell hok⟩
      have g2 : wr.frozen? ⟨w.heap.size + 1, o k, none⟩ = false := hS.posn.frozen _
      clear hmk3'
      go_wp2
      go_roundg (n - (k + 1))
      case measure => go_light; omega
      case rel => go_light; exact ⟨k + 1, by omega, rfl, by go_num, st1_step g hlt hS⟩
    · have e : n = k := by omega
      subst e
      go_upto_region 11 with fail
      go_cut [12, 13] from 45 to 50 (fun s12 s13 wx => ∃ bl be : Nat, s12 = .slice (some ⟨bl, 0, none⟩) (n + 1) (n + 1) ∧ s13 = .slice (some ⟨be, 0, none⟩) (n + 1) (n + 1) ∧ St3 w wx n pos bl be (fun _ => 0) (fun _ => 0))
      case first =>
        go_region
        all_goals (go_wp2_with fail; go_meet; go_light; first | exact ⟨_, _, rfl, rfl, st3_of g hS (.inl ⟨rfl, rfl⟩)⟩ | exact ⟨_, _, rfl, rfl, st3_of g hS (.inr ⟨rfl, rfl⟩)⟩)
      case rest =>
        obtain ⟨bl, be, rfl, rfl, hS3⟩ := hcut
        clear hS
        go_wp2
        go_loopg [53] (n + 1) (fun gh i wr => ∃ k : Nat, k ≤ n + 1 ∧ gh = n + 1 - k ∧ i = .int .i64 k ∧ St3 w wr n pos bl be (fun _ => 0) (fillE n k))
        case atStart => exact ⟨0, Nat.zero_le _, rfl, rfl, hS3⟩
        case round =>
          obtain ⟨k, hk, rfl, rfl, hS⟩ := hrel
          clear hS3
          by_cases hlt : k < n + 1
          · have g1 : wr.cell? ⟨be, k, none⟩ = some (.int .i64 ((fillE n k k : Nat) : Int)) := hS.ear.cell hlt
            have g2 : wr.frozen? ⟨be, k, none⟩ = false := hS.ear.frozen _
            clear hmk3'
            go_wp2
            go_roundg (n + 1 - (k + 1))
            case measure => go_light; omega
            case rel => go_light; exact ⟨k + 1, by omega, rfl, by go_num, st3_ear hS k (n + 1) (fun y _ => fillE_step n k y)⟩
          · have e : k = n + 1 := by omega
            subst e
            have hcell0 : wr.cell? ⟨be, 0, none⟩ = some (.int .i64 ((fillE n (n + 1) 0 : Nat) : Int)) := hS.ear.cell (by omega)
            have hfr0 : wr.frozen? ⟨be, 0, none⟩ = false := hS.ear.frozen _
            have hE : ECs n np L q pos 0 0 (startE n) := ecs_start g (by unfold startE; by_cases e : n = 0 <;> simp [e]) (fun x hx => by unfold startE; rw [if_neg (by omega)])
            go_upto_if 63 with fail
            go_cut [7] from 62 to 65 (fun s7 wx => s7 = .int .i64 n ∧ St3 w wx n pos bl be (fun _ => 0) (startE n))
            case first =>
              by_cases hn0 : n = 0
              · have hz : ¬ (0 : Int) < (n : Int) := by omega
                have HN : Hid (n = 0) := hn0
                clear hn0
                go_wp2_with fail
                go_meet
                go_light
                have hn0 := HN.out
                refine ⟨rfl, ⟨hS.below, hS.size, hS.known, hS.posn, hS.lat, hS.ear.congr (fun y hy => ?_), hS.bl1, hS.bl2, hS.be1, hS.be2, hS.ne⟩⟩
                have : y = 0 := by omega
                subst this
                simp [fillE, startE, hn0]
              · have hz : (0 : Int) < (n : Int) := by omega
                go_wp2_with fail
                go_meet
                go_light
                refine ⟨rfl, st3_ear hS 0 1 (fun y hy => ?_)⟩
                unfold startE fillE
                by_cases e : y = 0
                · rw [if_pos e, if_pos e, if_neg hn0]
                · rw [if_neg e, if_neg e, if_pos hy]
            case rest =>
              obtain ⟨rfl, hS3⟩ := hcut
              clear hS hcell0 hfr0
              go_wp2
              go_loopg [68] np (fun gh i wr => ∃ (k : Nat) (lP eC : Nat → Nat), k ≤ np ∧ gh = np - k ∧ i = .int .i64 k ∧ St3 w wr n pos bl be lP eC ∧ LPs n np L q pos k 0 lP ∧ ECs n np L q pos k 0 eC)
              case atStart => exact ⟨0, _, _, Nat.zero_le _, rfl, rfl, hS3, lps_start, hE⟩
              case round =>
                obtain ⟨k, lP, eC, hk, rfl, rfl, hS, hl, he⟩ := hrel
                clear hS3 hE
                by_cases hlt : k < np
                · obtain rfl := hP.addr (by omega)
                  have hLk := hL k hlt
                  by_cases hL0 : L k = 0
                  · have t1 : wr.cell? ⟨pb, po + k, none⟩ = some (.slice (A k) (L k) (C k)) := cell_later hS.below (hP.row k hlt)
                    have HL0 : Hid (L k = 0) := hL0
                    have hL1 : ¬ (0 : Int) < (L k : Int) := by omega
                    clear hL0 hmk3'
                    go_wp2
                    refine wp_loop_rounds 1 ?_
                    rw [rounds_succ]
                    go_wp2
                    go_roundg (np - (k + 1))
                    case measure => go_light; omega
                    case rel =>
                      go_light
                      have h0 := HL0.out
                      refine ⟨k + 1, lP, eC, by omega, rfl, by go_num, hS, lps_row ?_, ecs_row ?_⟩
                      · rw [h0]; exact hl
                      · rw [h0]; exact he
                  · have hL1 : 0 < L k := by omega
                    have hkn : k < n := by
                      by_cases h : k < n
                      · exact h
                      · have := g.empty k hlt (by omega); omega
                    have t1 : wr.cell? ⟨pb, po + k, none⟩ = some (.slice (some ⟨RB k, RO k, none⟩) (L k) (C k)) := by
                      rw [← hP.raddr k hlt hL1]; exact cell_later hS.below (hP.row k hlt)
                    clear hL0
                    go_wp2_with fail
                    clear t1
                    go_loopg [75] (L k) (fun gh i wr => ∃ (j : Nat) (lP eC : Nat → Nat), j ≤ L k ∧ gh = L k - j ∧ i = .int .i64 j ∧ St3 w wr n pos bl be lP eC ∧ LPs n np L q pos k j lP ∧ ECs n np L q pos k j eC)
                    case atStart => exact ⟨0, _, _, Nat.zero_le _, rfl, rfl, hS, hl, he⟩
                    case round =>
                      clear hS hl he
                      obtain ⟨j, lP', eC', hj, rfl, rfl, hS, hl, he⟩ := hrel
                      by_cases hjl : j < L k
                      · have c1 : wr.cell? ⟨RB k, RO k + j, none⟩ = some (.int .i64 ((q k j : Nat) : Int)) := cell_later hS.below (hP.cell k j hlt hjl)
                        have hq := g.q_lt k j hlt hkn hjl
                        have c2 : wr.cell? ⟨w.heap.size + 1, k, none⟩ = some (.int .i64 ((pos k : Nat) : Int)) := hS.posn.cell hkn
                        have c3 : wr.cell? ⟨w.heap.size + 1, q k j, none⟩ = some (.int .i64 ((pos (q k j) : Nat) : Int)) := hS.posn.cell hq
                        have hp1 := g.pos_hi k hkn
                        have hp2 := g.pos_hi (q k j) hq
                        have c4 : wr.cell? ⟨bl, pos k, none⟩ = some (.int .i64 ((lP' (pos k) : Nat) : Int)) := hS.lat.cell (by omega)
                        have c5 : wr.frozen? ⟨bl, pos k, none⟩ = false := hS.lat.frozen _
                        go_upto_region 25 with fail
                        go_cut [18, 75] from 75 to 115 (fun s18 s75 wx => s18 = .int .i64 ((q k j : Nat) : Int) ∧ s75 = .int .i64 (j : Nat) ∧ St3 w wx n pos bl be (fun x => if x = pos k then max (lP' (pos k)) (pos (q k j)) else lP' x) eC')
                        case first =>
                          go_region
                          all_goals go_wp2_with fail
                          all_goals (go_meet; go_light; exact ⟨rfl, rfl, (st3_lat' hS (pos k) (max (lP' (pos k)) (pos (q k j))) (by first | omega | (split <;> omega)) (fun y _ => rfl)).drew⟩)
                        case rest =>
                          obtain ⟨rfl, rfl, hS2⟩ := hcut
                          have hl2 := lps_step g hl hlt hkn hjl
                          have he2 := ecs_step g he hlt hkn hjl
                          have d2 : wc.cell? ⟨w.heap.size + 1, k, none⟩ = some (.int .i64 ((pos k : Nat) : Int)) := hS2.posn.cell hkn
                          have d3 : wc.cell? ⟨w.heap.size + 1, q k j, none⟩ = some (.int .i64 ((pos (q k j) : Nat) : Int)) := hS2.posn.cell hq
                          have d4 : wc.cell? ⟨be, pos (q k j), none⟩ = some (.int .i64 ((eC' (pos (q k j)) : Nat) : Int)) := hS2.ear.cell (by omega)
                          have d5 : wc.frozen? ⟨be, pos (q k j), none⟩ = false := hS2.ear.frozen _
                          clear hS c1 c2 c3 c4 c5 hl he
                          go_wp2_with fail
                          go_region
                          all_goals go_wp2_with fail
                          all_goals
                            go_roundg (L k - (j + 1))
                            case measure => go_light; omega
                            case rel => go_light; exact ⟨j + 1, _, _, by omega, rfl, by go_num, (st3_ear' hS2 (pos (q k j)) (min (eC' (pos (q k j))) (pos k)) (by first | omega | (split <;> omega)) (fun y _ => rfl)).drew, hl2, he2⟩
                      · have e : L k = j := by omega
                        have HE : Hid (L k = j) := e
                        clear e
                        go_wp2
                        go_roundg (np - (k + 1))
                        case measure => go_light; omega
                        case rel =>
                          go_light
                          have e := HE.out
                          subst e
                          exact ⟨k + 1, _, _, by omega, rfl, by go_num, hS, lps_row hl, ecs_row he⟩
                · have e : np = k := by omega
                  subst e
                  have hsz := hS.size
                  have hrow := World.rowIs_made wr (.int .i64 0) (n + 1) 3
                  rw [hsz] at hrow
                  have f1 : (wr.alloc (.cells (madeCells #[.int .i64 0] (n + 1)) 3)).cell? ⟨w.heap.size + 4, n, none⟩ = some (.int .i64 0) := hrow.cell (by omega)
                  have f2 : (wr.alloc (.cells (madeCells #[.int .i64 0] (n + 1)) 3)).frozen? ⟨w.heap.size + 4, n, none⟩ = false := hrow.frozen _
                  clear hrow
                  have hS5 := st5_start hS
                  go_wp2
                  clear f1 f2 hsz hS hmk3'
                  go_loopg [20] n (fun gh i wr => ∃ (k : Nat) (v : Int) (pA : Nat → Nat), k ≤ n ∧ k = gh ∧ i = .int .i64 v ∧ v = (k : Int) - 1 ∧ St5 w wr n bl be lP eC pA (fun _ => false) ∧ PAs n lP k pA)
                  case atStart => exact ⟨n, _, _, Nat.le_refl _, rfl, rfl, rfl, hS5, pas_start n lP⟩
                  case round =>
                    clear hS5
                    obtain ⟨k, v, pA, hk, rfl, rfl, hv, hS, hpa⟩ := hrel
                    by_cases hk0 : k = 0
                    · subst hk0
                      have hv' : v = -1 := by omega
                      subst hv'
                      clear hv
                      go_wp2
                      go_loopg [21, 22] n (fun gh s21 s22 wr => ∃ (k cB : Nat) (kn : Nat → Bool), 1 ≤ k ∧ k ≤ n + 1 ∧ gh = n + 1 - k ∧ s21 = .int .i64 (cB : Nat) ∧ s22 = .int .i64 (k : Nat) ∧ St5 w wr n bl be lP eC pA kn ∧ CBs eC k cB ∧ KNs n np o L q pos k kn)
                      case atStart => exact ⟨1, 0, _, Nat.le_refl _, by omega, rfl, rfl, rfl, hS, cbs_start eC, rfl, fun x h1 h2 => by omega⟩
                      case round =>
                        clear hS
                        obtain ⟨k, cB, kn, hk1, hk2, rfl, rfl, rfl, hS, hcb, hkn⟩ := hrel
                        by_cases hkn' : k ≤ n
                        · have c4 : wr.cell? ⟨bl, k, none⟩ = some (.int .i64 ((lP k : Nat) : Int)) := hS.lat.cell (by omega)
                          have c5 : wr.cell? ⟨w.heap.size + 4, k, none⟩ = some (.int .i64 ((pA k : Nat) : Int)) := hS.par.cell (by omega)
                          have c6 : wr.cell? ⟨w.heap.size, k, none⟩ = some (.bool (kn k)) := hS.known.cell (by omega)
                          have c7 : wr.frozen? ⟨w.heap.size, k, none⟩ = false := hS.known.frozen _
                          have hlb := hl.bound k
                          obtain ⟨hpb, _⟩ := hpa k (Nat.zero_le _) hkn'
                          have c8 : 2 ≤ k → wr.cell? ⟨be, k - 2, none⟩ = some (.int .i64 ((eC (k - 2) : Nat) : Int)) := fun h => hS.ear.cell (by omega)
                          go_upto_if 151 with fail
                          go_cut [21, 22] from 145 to 182 (fun s21 s22 wx => wr = wx ∧ ∃ cB' : Nat, s21 = .int .i64 (cB' : Nat) ∧ s22 = .int .i64 (k : Nat) ∧ CBs eC (k + 1) cB')
                          case first =>
                            by_cases h2 : 2 ≤ k
                            · obtain ⟨j, rfl⟩ : ∃ j, k = j + 2 := ⟨k - 2, by omega⟩
                              have c9 := c8 h2
                              simp only [Nat.add_sub_cancel] at c9
                              clear c8 c4 c5 c6 c7
                              have hz : (2 : Int) ≤ ((j + 2 : Nat) : Int) := by omega
                              go_wp2_with fail
                              all_goals (go_meet; go_light; exact ⟨rfl, max cB (eC j), congrArg (Value.int .i64) (by first | omega | (split <;> omega)), by go_num, cbs_step hcb⟩)
                            · have hz : ¬ (2 : Int) ≤ (k : Int) := by omega
                              clear c8 c4 c5 c6 c7
                              go_wp2_with fail
                              all_goals (go_meet; go_light; refine ⟨rfl, cB, rfl, rfl, ?_⟩)
                              have e : k = 1 := by omega
                              subst e
                              exact cbs_one hcb
                          case rest =>
                            obtain ⟨rfl, cB', rfl, rfl, hcb'⟩ := hcut
                            clear c8
                            by_cases t1 : cB' ≤ k - 1
                            · have t1' : (cB' : Int) ≤ (k : Int) - 1 := by omega
                              by_cases t2 : lP k = k - 1
                              · have t2' : ((lP k : Int) == (k : Int) - 1) = true := by simp; omega
                                have T2 : Hid (lP k = k - 1) := t2
                                clear t2
                                by_cases t3 : k ≤ pA k
                                · have t3' : (k : Int) ≤ (pA k : Int) := by omega
                                  go_wp2
                                  go_roundg (n + 1 - (k + 1))
                                  case measure => go_light; omega
                                  case rel => go_light; exact ⟨k + 1, cB', _, by omega, by omega, rfl, rfl, by go_num, st5_known hS k true, hcb', kns_step g hl he hpa hcb' hk1 hkn' hkn (by simp [T2.out, t1, t3])⟩
                                · have t3' : ¬ (k : Int) ≤ (pA k : Int) := by omega
                                  go_wp2
                                  go_roundg (n + 1 - (k + 1))
                                  case measure => go_light; omega
                                  case rel => go_light; exact ⟨k + 1, cB', _, by omega, by omega, rfl, rfl, by go_num, st5_known hS k false, hcb', kns_step g hl he hpa hcb' hk1 hkn' hkn (by simp [t3])⟩
                              · have t2' : ((lP k : Int) == (k : Int) - 1) = false := by simp; omega
                                go_wp2
                                go_roundg (n + 1 - (k + 1))
                                case measure => go_light; omega
                                case rel => go_light; exact ⟨k + 1, cB', _, by omega, by omega, rfl, rfl, by go_num, st5_known hS k false, hcb', kns_step g hl he hpa hcb' hk1 hkn' hkn (by simp [t2])⟩
                            · have t1' : ¬ (cB' : Int) ≤ (k : Int) - 1 := by omega
                              go_wp2
                              go_roundg (n + 1 - (k + 1))
                              case measure => go_light; omega
                              case rel => go_light; exact ⟨k + 1, cB', _, by omega, by omega, rfl, rfl, by go_num, st5_known hS k false, hcb', kns_step g hl he hpa hcb' hk1 hkn' hkn (by simp [t1])⟩
                        · have hz : ¬ (k : Int) ≤ (n : Int) := by omega
                          go_wp2
                          go_ret
                          exact ⟨rfl, hS.below, kn, hS.known, hkn.1, fun x h1 h2 => hkn.2 x h1 (by omega)⟩
                    · obtain ⟨j, rfl⟩ : ∃ j, k = j + 1 := ⟨k - 1, by omega⟩
                      have hv' : v = (j : Int) := by omega
                      subst hv'
                      clear hv hk0
                      have c1 : wr.cell? ⟨w.heap.size + 4, j + 1, none⟩ = some (.int .i64 ((pA (j + 1) : Nat) : Int)) := hS.par.cell (by omega)
                      have c2 : wr.cell? ⟨w.heap.size + 4, j, none⟩ = some (.int .i64 ((pA j : Nat) : Int)) := hS.par.cell (by omega)
                      have c3 : wr.frozen? ⟨w.heap.size + 4, j, none⟩ = false := hS.par.frozen _
                      have c4 : wr.cell? ⟨bl, j + 1, none⟩ = some (.int .i64 ((lP (j + 1) : Nat) : Int)) := hS.lat.cell (by omega)
                      go_wp2_with fail
                      go_region
                      all_goals go_wp2_with fail
                      all_goals
                        go_roundg j
                        case measure => go_light; omega
                        case rel => go_light; exact ⟨j, _, _, by omega, rfl, rfl, rfl, (st5_par hS j (min (pA (j + 1)) (lP (j + 1))) (by first | omega | (split <;> omega)) (fun y _ => rfl)).drew, pas_step hk hpa⟩
end Go.Proofs.Qxb6605219a
