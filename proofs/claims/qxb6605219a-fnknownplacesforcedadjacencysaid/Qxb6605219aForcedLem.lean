import Derived.Test.Qxb6605219aNest
import Derived.Test.Qxb6605219aBitTab
namespace Go.Proofs.Qxb6605219a
open Go.RowKit
set_option linter.unusedVariables false

/-! ### The validation -/

/-- pos, filled by the first k of the order. -/
def PosOk (zs : List Int) (n k : Nat) (pf : Nat → Nat) : Prop :=
  (∀ i, i < k → ∃ v : Nat, v < n ∧ zs[i]?.getD 0 = (v : Int) ∧ pf v = i + 1) ∧ ∀ v, v < n → pf v = 0 ∨ ∃ i, i < k ∧ zs[i]?.getD 0 = (v : Int) ∧ pf v = i + 1

theorem posOk_start (zs : List Int) (n : Nat) : PosOk zs n 0 (fun _ => 0) := ⟨fun i hi => by omega, fun _ _ => .inl rfl⟩

theorem posOk_step {zs : List Int} {n k : Nat} {pf : Nat → Nat} (h : PosOk zs n k pf) {v : Nat} (hv : v < n) (e : zs[k]?.getD 0 = (v : Int)) (h0 : pf v = 0) : PosOk zs n (k + 1) (fun x => if x = v then k + 1 else pf x) := by
  refine ⟨fun i hi => ?_, fun u hu => ?_⟩
  · by_cases ei : i = k
    · subst ei; exact ⟨v, hv, e, by simp⟩
    · obtain ⟨u, hu, e1, e2⟩ := h.1 i (by omega)
      refine ⟨u, hu, e1, ?_⟩
      have : u ≠ v := fun eu => by rw [eu] at e2; omega
      simp only [if_neg this]; exact e2
  · by_cases eu : u = v
    · subst eu; right; exact ⟨k, by omega, e, by simp⟩
    · simp only [if_neg eu]
      rcases h.2 u hu with e1 | ⟨i, hi, e1, e2⟩
      · exact .inl e1
      · exact .inr ⟨i, by omega, e1, e2⟩

/-- What the check of the parents has seen of one version's list. -/
def RowOk (P : Nat → List Int) (n : Nat) (pf : Nat → Nat) (i j : Nat) : Prop := ∀ k, k < j → ∃ p : Nat, p < n ∧ (P i)[k]?.getD 0 = (p : Int) ∧ pf p < pf i
/-- .. and of the first i versions. -/
def ValOk (P : Nat → List Int) (n : Nat) (pf : Nat → Nat) (i : Nat) : Prop := ∀ k, k < i → (n ≤ k → (P k).length = 0) ∧ (k < n → RowOk P n pf k (P k).length)

theorem valOk_row {P : Nat → List Int} {n : Nat} {pf : Nat → Nat} {i : Nat} (h : ValOk P n pf i) (hi : i < n) (hr : RowOk P n pf i (P i).length) : ValOk P n pf (i + 1) := by
  intro k hk
  by_cases e : k = i
  · subst e; exact ⟨fun h => by omega, fun _ => hr⟩
  · exact h k (by omega)
theorem valOk_out {P : Nat → List Int} {n : Nat} {pf : Nat → Nat} {i : Nat} (h : ValOk P n pf i) (hi : n ≤ i) (hr : (P i).length = 0) : ValOk P n pf (i + 1) := by
  intro k hk
  by_cases e : k = i
  · subst e; exact ⟨fun _ => hr, fun h => by omega⟩
  · exact h k (by omega)
theorem rowOk_step {P : Nat → List Int} {n : Nat} {pf : Nat → Nat} {i j : Nat} (h : RowOk P n pf i j) {p : Nat} (hp : p < n) (e : (P i)[j]?.getD 0 = (p : Int)) (hlt : pf p < pf i) : RowOk P n pf i (j + 1) := by
  intro k hk
  by_cases ek : k = j
  · subst ek; exact ⟨p, hp, e, hlt⟩
  · exact h k (by omega)

/-- The order and the parents as natural numbers. -/
def ordN (zs : List Int) (k : Nat) : Nat := (zs[k]?.getD 0).toNat
def parN (P : Nat → List Int) (i j : Nat) : Nat := ((P i)[j]?.getD 0).toNat
def lenN (P : Nat → List Int) (i : Nat) : Nat := (P i).length

theorem gr_of {zs : List Int} {n np : Nat} {pf : Nat → Nat} {P : Nat → List Int} (h : PosOk zs n n pf) (hv : ValOk P n pf np) : Gr n np (ordN zs) (lenN P) (parN P) pf := by
  have ho : ∀ k, k < n → ordN zs k < n ∧ pf (ordN zs k) = k + 1 := by
    intro k hk
    obtain ⟨v, hv, e1, e2⟩ := h.1 k hk
    have : ordN zs k = v := by unfold ordN; rw [e1]; simp
    rw [this]; exact ⟨hv, e2⟩
  have hs := inj_surj n (ordN zs) (fun k hk => (ho k hk).1) (fun j k hj hk e => by
    have h1 := (ho j hj).2
    have h2 := (ho k hk).2
    rw [e] at h1; omega)
  have hp : ∀ v, v < n → 1 ≤ pf v ∧ pf v ≤ n ∧ ordN zs (pf v - 1) = v := by
    intro v hv
    obtain ⟨k, hk, e⟩ := hs v hv
    have := (ho k hk).2
    rw [e] at this
    rw [this]
    exact ⟨by omega, by omega, e⟩
  have hq : ∀ i j, i < np → i < n → j < lenN P i → parN P i j < n ∧ pf (parN P i j) < pf i := by
    intro i j hi hn hj
    obtain ⟨p, hp, e, hlt⟩ := (hv i hi).2 hn j hj
    have : parN P i j = p := by unfold parN; rw [e]; simp
    rw [this]; exact ⟨hp, hlt⟩
  exact ⟨fun k hk => (ho k hk).1, fun k hk => (ho k hk).2, fun v hv => (hp v hv).1, fun v hv => (hp v hv).2.1, fun v hv => (hp v hv).2.2, fun i j h1 h2 h3 => (hq i j h1 h2 h3).1, fun i j h1 h2 h3 => (hq i j h1 h2 h3).2, fun i hi hn => (hv i hi).1 hn⟩

theorem ordN_eq {zs : List Int} {n k : Nat} {pf : Nat → Nat} (h : PosOk zs n n pf) (hk : k < n) : zs[k]?.getD 0 = ((ordN zs k : Nat) : Int) := by
  obtain ⟨v, hv, e1, e2⟩ := h.1 k hk
  unfold ordN; rw [e1]; simp

theorem parN_eq {P : Nat → List Int} {n np i j : Nat} {pf : Nat → Nat} (h : ValOk P n pf np) (hi : i < np) (hj : j < lenN P i) : (P i)[j]?.getD 0 = ((parN P i j : Nat) : Int) := by
  by_cases hn : i < n
  · obtain ⟨p, hp, e, hlt⟩ := (h i hi).2 hn j hj
    unfold parN; rw [e]; simp
  · have := (h i hi).1 (by omega)
    unfold lenN at hj; omega

theorem inOrd_of {w : World} {a : Option Addr} {n c b off : Nat} {zs : List Int} {pf : Nat → Nat} (ha : 0 < n → a = some ⟨b, off, none⟩) (hc : ∀ i, i < n → w.cell? ⟨b, off + i, none⟩ = some (.int .i64 (zs.getD i 0))) (hp : PosOk zs n n pf) : InOrd w a n b off (ordN zs) :=
  ⟨ha, fun k hk => by rw [hc k hk, ← ordN_eq hp hk]; rfl⟩

def rbN (A : Nat → Option Addr) (i : Nat) : Nat := ((A i).map (·.block)).getD 0
def roN (A : Nat → Option Addr) (i : Nat) : Nat := ((A i).map (·.off)).getD 0

theorem inPar_of {w : World} {a : Option Addr} {m c b off n : Nat} {A : Nat → Option Addr} {C : Nat → Nat} {P : Nat → List Int} {pf : Nat → Nat} (h : Nest w a m c b off A C P) (hv : ValOk P n pf m) : InPar w a m b off A (lenN P) C (rbN A) (roN A) (parN P) := by
  have hc : ∀ i, i < m → 0 < lenN P i → A i = some ⟨rbN A i, roN A i, none⟩ ∧ ∀ j, j < lenN P i → w.cell? ⟨rbN A i, roN A i + j, none⟩ = some (.int .i64 ((P i).getD j 0)) := by
    intro i hi hl
    unfold lenN at hl
    obtain ⟨b', off', e, hcell⟩ := (h.sl i hi).cells.resolve_left (by omega)
    have e1 : rbN A i = b' := by unfold rbN; rw [e]; rfl
    have e2 : roN A i = off' := by unfold roN; rw [e]; rfl
    rw [e1, e2]
    exact ⟨e, hcell⟩
  exact ⟨h.addr, h.row, fun i hi hl => (hc i hi hl).1, fun i j hi hj => by rw [(hc i hi (by omega)).2 j hj, ← parN_eq hv hi hj]; rfl⟩

theorem InOrd.later {w w' : World} {a : Option Addr} {n b off : Nat} {o : Nat → Nat} (h : InOrd w a n b off o) (hb : Below w.heap.size w w') : InOrd w' a n b off o :=
  ⟨h.addr, fun k hk => cell_later hb (h.cell k hk)⟩
theorem InPar.later {w w' : World} {a : Option Addr} {np b off : Nat} {A : Nat → Option Addr} {L C RB RO : Nat → Nat} {q : Nat → Nat → Nat} (h : InPar w a np b off A L C RB RO q) (hb : Below w.heap.size w w') : InPar w' a np b off A L C RB RO q :=
  ⟨h.addr, fun i hi => cell_later hb (h.row i hi), h.raddr, fun i j hi hj => cell_later hb (h.cell i j hi hj)⟩

/-- The row of positions. -/
structure PosR (W wr : World) (n : Nat) (pf : Nat → Nat) : Prop where
  below : Below W.heap.size W wr
  row : wr.rowIs W.heap.size 3 n (fun v => .int .i64 ((pf v : Nat) : Int))

theorem posR_start (W : World) (n : Nat) : PosR W (W.alloc (.cells (madeCells #[.int .i64 0] n) 3)) n (fun _ => 0) :=
  ⟨(Below.refl _ _).alloc (Nat.le_refl _) _, (World.rowIs_made W _ n 3).congr (fun j _ => rfl)⟩

theorem posR_step {W wr : World} {n : Nat} {pf : Nat → Nat} (h : PosR W wr n pf) (v k : Nat) : PosR W (wr.setCell ⟨W.heap.size, v, none⟩ (.int .i64 ((k : Int) + 1))) n (fun x => if x = v then k + 1 else pf x) := by
  refine ⟨h.below.setCell (Nat.le_refl _) _, (h.row.set v _).congr fun j _ => ?_⟩
  by_cases e : j = v
  · rw [if_pos e, if_pos e]; rfl
  · rw [if_neg e, if_neg e]

/-! ### The two tables -/

theorem or_pow {Y s : Nat} (hs : s < 64) (hY : Y < 18446744073709551616) : bits BinOp.or IntKind.u64 (Y : Int) (IntKind.u64.wrap (2 ^ s)) = ((Y ||| 2 ^ s : Nat) : Int) := by
  have h1 : ((2 : Int) ^ s) = ((2 ^ s : Nat) : Int) := by simp
  have h2 := pow_lt64 hs
  have h3 : ∀ m : Nat, m < 18446744073709551616 → IntKind.u64.wrap (m : Int) = (m : Int) := fun m hm => by rw [IntKind.wrap_u64]; omega
  rw [h1, h3 _ h2]
  exact bits_or_u64_nat _ _ hY h2

theorem setB_at (X : Nat → Nat) (i b : Nat) : ∀ j, setB X i b j = if j = i then X i ||| 2 ^ b else X j := by
  intro j
  unfold setB
  by_cases e : j = i
  · rw [if_pos e, if_pos e, e]
  · rw [if_neg e, if_neg e]

structure Tab (W wr : World) (n N kb ab db : Nat) (kn : Nat → Bool) (XA XD : Nat → Nat) : Prop where
  below : Below W.heap.size W wr
  known : wr.rowIs kb 4 (n + 1) (fun x => .bool (kn x))
  anc : wr.rowIs ab 40 N (fun i => .int .u64 ((XA i : Nat) : Int))
  desc : wr.rowIs db 40 N (fun i => .int .u64 ((XD i : Nat) : Int))
  k1 : W.heap.size ≤ kb
  k2 : kb < ab
  k3 : ab < db
  la : ∀ i, XA i < 18446744073709551616
  ld : ∀ i, XD i < 18446744073709551616

theorem tab_start {W wq : World} {n kb : Nat} {kn : Nat → Bool} (N : Nat) (hb : Below W.heap.size W wq) (hk : wq.rowIs kb 4 (n + 1) (fun x => .bool (kn x))) (h1 : W.heap.size ≤ kb) :
    Tab W ((wq.alloc (.cells (madeCells #[.int .u64 0] N) 40)).alloc (.cells (madeCells #[.int .u64 0] N) 40)) n N kb wq.heap.size (wq.heap.size + 1) kn (fun _ => 0) (fun _ => 0) := by
  have hl := hk.lt
  have r1 := (World.rowIs_made wq (.int .u64 0) N 40).alloc (.cells (madeCells #[.int .u64 0] N) 40)
  have r2 := World.rowIs_made (wq.alloc (.cells (madeCells #[.int .u64 0] N) 40)) (.int .u64 0) N 40
  rw [World.size_alloc] at r2
  exact ⟨(hb.alloc hb.size _).alloc (by have := hb.size; simp; omega) _, (hk.alloc _).alloc _, r1, r2, h1, hl, by omega, fun _ => by omega, fun _ => by omega⟩

theorem tab_anc {W wr : World} {n N kb ab db : Nat} {kn : Nat → Bool} {XA XA' XD : Nat → Nat} (h : Tab W wr n N kb ab db kn XA XD) (i v : Nat) {x : Int} (hx : x = (v : Int)) (hv : v < 18446744073709551616) (he : ∀ j, XA' j = if j = i then v else XA j) :
    Tab W (wr.setCell ⟨ab, i, none⟩ (.int .u64 x)) n N kb ab db kn XA' XD := by
  have h1 := h.k1
  have h2 := h.k2
  have h3 := h.k3
  refine ⟨h.below.setCell (by show W.heap.size ≤ ab; omega) _, h.known.setOther (by show kb ≠ ab; omega) _, (h.anc.set i _).congr fun j _ => ?_, h.desc.setOther (by show db ≠ ab; omega) _, h1, h2, h3, fun j => ?_, h.ld⟩
  · rw [he j, hx]
    by_cases e : j = i
    · rw [if_pos e, if_pos e]
    · rw [if_neg e, if_neg e]
  · rw [he j]
    split
    · exact hv
    · exact h.la j

theorem tab_desc {W wr : World} {n N kb ab db : Nat} {kn : Nat → Bool} {XA XD XD' : Nat → Nat} (h : Tab W wr n N kb ab db kn XA XD) (i v : Nat) {x : Int} (hx : x = (v : Int)) (hv : v < 18446744073709551616) (he : ∀ j, XD' j = if j = i then v else XD j) :
    Tab W (wr.setCell ⟨db, i, none⟩ (.int .u64 x)) n N kb ab db kn XA XD' := by
  have h1 := h.k1
  have h2 := h.k2
  have h3 := h.k3
  refine ⟨h.below.setCell (by show W.heap.size ≤ db; omega) _, h.known.setOther (by show kb ≠ db; omega) _, h.anc.setOther (by show ab ≠ db; omega) _, (h.desc.set i _).congr fun j _ => ?_, h1, h2, h3, h.la, fun j => ?_⟩
  · rw [he j, hx]
    by_cases e : j = i
    · rw [if_pos e, if_pos e]
    · rw [if_neg e, if_neg e]
  · rw [he j]
    split
    · exact hv
    · exact h.ld j

theorem Tab.drew {W wr : World} {n N kb ab db : Nat} {kn : Nat → Bool} {XA XD : Nat → Nat} (h : Tab W wr n N kb ab db kn XA XD) : Tab W wr.drew n N kb ab db kn XA XD :=
  ⟨h.below.drew, h.known, h.anc, h.desc, h.k1, h.k2, h.k3, h.la, h.ld⟩
theorem Tab.congrD {W wr : World} {n N kb ab db : Nat} {kn : Nat → Bool} {XA XD XD' : Nat → Nat} (h : Tab W wr n N kb ab db kn XA XD) (e : XD = XD') : Tab W wr n N kb ab db kn XA XD' := e ▸ h
theorem Tab.congrA {W wr : World} {n N kb ab db : Nat} {kn : Nat → Bool} {XA XA' XD : Nat → Nat} (h : Tab W wr n N kb ab db kn XA XD) (e : XA = XA') : Tab W wr n N kb ab db kn XA' XD := e ▸ h
end Go.Proofs.Qxb6605219a
