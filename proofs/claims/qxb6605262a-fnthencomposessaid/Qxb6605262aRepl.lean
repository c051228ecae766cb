import Derived.Test.Qxb6605262aDelta
import Derived.Deep.RegionLaw
namespace Go.Proofs.Qxb6605262a
open Go.RowKit
set_option linter.unusedVariables false

def flat (L : List Asg) : List Value := L.flatMap fun x => [.int .i64 x.c, .int .u8 x.v.t, .int .u64 x.v.m, .string x.v.s]

theorem flat_len : ∀ L : List Asg, (flat L).length = L.length * 4
  | [] => rfl
  | x :: L => by
    have := flat_len L
    unfold flat at *
    rw [List.flatMap_cons, List.length_append, this, List.length_cons]
    simp; omega

theorem flat_append (L M : List Asg) : flat (L ++ M) = flat L ++ flat M := List.flatMap_append

theorem flat_get : ∀ (L : List Asg) (i j : Nat), i < L.length → j < 4 → (flat L)[i * 4 + j]? = some (fld (L.getD i nulA) j)
  | [], i, j, hi, _ => by simp at hi
  | x :: L, 0, j, _, hj => by
    unfold flat
    rw [List.flatMap_cons]
    rcases (show j = 0 ∨ j = 1 ∨ j = 2 ∨ j = 3 by omega) with rfl | rfl | rfl | rfl <;> simp [fld]
  | x :: L, i + 1, j, hi, hj => by
    have ih := flat_get L i j (by simpa using hi) hj
    unfold flat at *
    rw [List.flatMap_cons, List.getElem?_append_right (by simp; omega)]
    rw [show (i + 1) * 4 + j - [Value.int .i64 x.c, .int .u8 x.v.t, .int .u64 x.v.m, .string x.v.s].length = i * 4 + j by simp; omega, ih]
    simp

theorem oneCell_flat (L : List Asg) : ∀ v ∈ flat L, v.oneCell' = true := by
  intro v hv
  unfold flat at hv
  obtain ⟨x, _, hx⟩ := List.mem_flatMap.1 hv
  simp at hx
  rcases hx with rfl | rfl | rfl | rfl <;> rfl

/-- An owned row of assignments, read as a slice. -/
theorem sla_of {w : World} {base : Nat} {e : TypeId} {v : Value} {L : List Asg} (h : w.ownsRow base e 4 v L.length (flat L)) : ∃ a c, v = .slice a L.length c ∧ SlA w a L.length c (fun i => L.getD i nulA) ∧ (∀ x, a = some x → base ≤ x.block) ∧ (0 < L.length → ∃ g, a = some ⟨g, 0, none⟩) := by
  rcases h.2 with ⟨hv, h0⟩ | ⟨g, cap, cur, hv, hbg, hcur, hcap, hmax, hsz, htake⟩
  · exact ⟨none, 0, by rw [hv, h0], ⟨by omega, fun _ => ⟨h0, rfl⟩, .inl h0⟩, fun x hx => (by cases hx), fun h => by omega⟩
  · have hc := h.cells (g := g) (by rw [hv]; rfl)
    refine ⟨some ⟨g, 0, none⟩, cap, hv, ⟨hcap, (fun hh => by cases hh), .inr ⟨g, 0, rfl, fun i hi => ?_⟩⟩, (fun x hx => by cases hx; exact hbg), fun _ => ⟨g, rfl⟩⟩
    have k : ∀ j, j < 4 → w.cell? ⟨g, i * 4 + j, none⟩ = some (fld (L.getD i nulA) j) := fun j hj => by
      have := hc _ _ (flat_get L i j hi hj)
      rw [Addr.add_lit, Nat.zero_add] at this
      exact this
    rw [Nat.zero_add]
    exact ⟨k 0 (by omega), k 1 (by omega), k 2 (by omega), k 3 (by omega)⟩

theorem whole_any (e r : Bool) (a : Option Addr) (n c : Nat) (w : World) :
    Calls Try.prog 40 #[.agg #[.bool e, .bool r, .slice a n c]] w fun e' w' => e' = .returned (.bool (e || r)) ∧ w' = w.alloc (.cells #[.bool e, .bool r, .slice a n c] 42) := by
  cases e <;> cases r
  all_goals
    go_enter Try.func40, Try.ntmps40
    go_wp2
    go_ret
    exact ⟨rfl, rfl⟩

theorem isnull_any (t m : Int) (s : ByteArray) (w : World) :
    Calls Try.prog 42 #[.agg #[.int .u8 t, .int .u64 m, .string s]] w fun e' w' => e' = .returned (.bool (t == 0)) ∧ w' = w.alloc (.cells #[.int .u8 t, .int .u64 m, .string s] 67) := by
  go_enter Try.func42, Try.ntmps42
  go_wp2
  go_ret
  exact ⟨rfl, rfl⟩

/-- append to an owned row, as one step of a region that draws. -/
theorem step_append_own {P : Program} {ops : Array Oper} {o : Oper} {a : Act} {w : World} {K : Act → World → Prop} {Q : Exit → Act → World → Prop} {E : Prop}
    (hg : o.guard = none) (s x : Operand) (t : TypeId) (hop : o.op = Op.call { callee := Callee.builtin Builtin.append, args := #[s, x], argTypes := #[t, t] })
    (base : Nat) (e : TypeId) (i : TypeInfo) (z : Value) (size bytes : Nat) (h1 : P.underlying t = some (.slice e)) (h2 : P.info? e = some i) (h3 : i.zero = some z) (h4 : i.size = size) (h5 : i.bytes = bytes) (h6 : z.cells.size = size) (h7 : 0 < size)
    (v : Value) (n : Nat) (xs : List Value) (hs : a.eval s = v) (hown : w.ownsRow base e size v n xs)
    (ad : Addr) (m c : Nat) (news : List Value) (hx : a.eval x = .slice (some ad) m c) (hn : news.length = m * size) (hc : ∀ j u, news[j]? = some u → w.cell? (ad.add j) = some u) (h1c : ∀ u ∈ news, u.oneCell' = true)
    (b1 : n + m ≤ maxLen) (b2 : (n + m) * bytes ≤ 140737488355328) (hbase : base ≤ w.heap.size)
    (hK : ∀ v' w', w'.ownsRow base e size v' (n + m) (xs ++ news) → w.grownBy w' v.ownBlock → K (a.put o.dst v') w') :
    if Region.wanted o (yielded ops a.tmps) = true then Oper.wp P o a w K Q else E := by
  have hw : Region.wanted o (yielded ops a.tmps) = true := by simp [Region.wanted, hg]
  rw [if_pos hw]
  obtain ⟨v', w', hrun, r1, r2, _⟩ := run_append_own (P := P) w base t o.type e i z size bytes h1 h2 h3 h4 h5 h6 h7 v n xs hown ad m c news hn hc h1c b1 b2 hbase
  unfold Oper.wp
  simp [execOp, hop, resolve, invoke, builtin, hs, hx, hrun, Result.andThen]
  exact hK v' w' r1 r2

theorem four_new (w : World) (x : Asg) (t : TypeId) : ∀ j u, (flat [x])[j]? = some u → (w.alloc (.cells #[.int .i64 x.c, .int .u8 x.v.t, .int .u64 x.v.m, .string x.v.s] t)).cell? ((⟨w.heap.size, 0, none⟩ : Addr).add j) = some u := by
  intro j u hj
  match j, hj with
  | 0, hj => simp [flat] at hj; subst hj; simp [Addr.add]
  | 1, hj => simp [flat] at hj; subst hj; simp [Addr.add]
  | 2, hj => simp [flat] at hj; subst hj; simp [Addr.add]
  | 3, hj => simp [flat] at hj; subst hj; simp [Addr.add]
  | j + 4, hj => simp [flat] at hj

/-- What replacement keeps of the first k values. -/
def keepN (F : Nat → Val) (k : Nat) : List Asg := (List.range k).filterMap fun i => if (F i).t == 0 then none else some ⟨(i : Int), F i⟩

theorem keepN_null {F : Nat → Val} {k : Nat} (h : ((F k).t == 0) = true) : keepN F (k + 1) = keepN F k := by
  unfold keepN
  rw [List.range_succ, List.filterMap_append]
  have h' : (F k).t = 0 := by simpa using h
  simp [h']
theorem keepN_val {F : Nat → Val} {k : Nat} (h : ((F k).t == 0) = false) : keepN F (k + 1) = keepN F k ++ [⟨(k : Int), F k⟩] := by
  unfold keepN
  rw [List.range_succ, List.filterMap_append]
  have h' : ¬ (F k).t = 0 := by simpa using h
  simp [h']
theorem keepN_len (F : Nat → Val) (k : Nat) : (keepN F k).length ≤ k := by
  unfold keepN
  have := List.length_filterMap_le (fun i => if (F i).t == 0 then none else some (⟨(i : Int), F i⟩ : Asg)) (List.range k)
  simpa using this

/-- The state of replacement's loop. -/
structure Repl (w wr : World) (v : Value) (L : List Asg) : Prop where
  below : Below w.heap.size w wr
  size : w.heap.size + 2 ≤ wr.heap.size
  res : wr.rowIs w.heap.size 42 3 (dlt false false (.slice none 0 0))
  box : wr.rowIs (w.heap.size + 1) 42 3 (dlt false true v)
  own : wr.ownsRow (w.heap.size + 2) 81 4 v L.length (flat L)

theorem repl_start (w : World) : Repl w ((w.alloc (.cells #[.bool false, .bool false, .slice none 0 0] 42)).alloc (.cells #[.bool false, .bool true, .slice none 0 0] 42)) (.slice none 0 0) [] := by
  have h1 := row_one w (.bool false) (.bool false) (.slice none 0 0) 42 (dlt false false (.slice none 0 0)) rfl rfl rfl
  have h2 := row_one (w.alloc (.cells #[.bool false, .bool false, .slice none 0 0] 42)) (.bool false) (.bool true) (.slice none 0 0) 42 (dlt false true (.slice none 0 0)) rfl rfl rfl
  simp only [World.size_alloc] at h2
  exact ⟨((Below.refl _ _).alloc (Nat.le_refl _) _).alloc (by simp) _, by simp, h1.alloc _, h2, World.ownsRow_nil _ _ _ _⟩

theorem repl_alloc {w wr : World} {v : Value} {L : List Asg} (h : Repl w wr v L) (o : Obj) : Repl w (wr.alloc o) v L :=
  ⟨h.below.alloc h.below.size _, by have := h.size; simp; omega, h.res.alloc _, h.box.alloc _, h.own.alloc _⟩

/-- Behind the append and the store of the new slice. -/
theorem repl_app {w wr w1 : World} {v v' : Value} {L M : List Asg} (h : Repl w wr v L) (hg : wr.grownBy w1 v.ownBlock) (ho : w1.ownsRow (w.heap.size + 2) 81 4 v' M.length (flat M)) :
    Repl w (w1.setCell ⟨w.heap.size + 1, 2, none⟩ v') v' M := by
  have hs := h.size
  have hbk : ∀ k, k < w.heap.size + 2 → w1.heap[k]? = wr.heap[k]? := fun k hk => hg.block k (by omega) (fun e => by have := (h.own.lt k e.symm).1; omega)
  have hb1 : Below w.heap.size w w1 := h.below.trans ⟨hg.os, hg.tape, hg.output, hg.size, fun k hk => hbk k (by omega)⟩
  refine ⟨hb1.setCell (by show w.heap.size ≤ w.heap.size + 1; omega) _, by have := hg.size; simp; omega, (h.res.of_block (hbk _ (by omega))).setOther (by show w.heap.size ≠ w.heap.size + 1; omega) _, ((h.box.of_block (hbk _ (by omega))).set 2 _).congr (fun i hi => ?_), ownsRow_setCell_below ho (by show w.heap.size + 1 < w.heap.size + 2; omega) _⟩
  rcases (show i = 0 ∨ i = 1 ∨ i = 2 by omega) with rfl | rfl | rfl <;> simp [dlt]

theorem repl_box {w wr w1 : World} {v : Value} {L : List Asg} (h : Repl w wr v L) (hg : wr.grownBy w1 v.ownBlock) : w1.rowIs (w.heap.size + 1) 42 3 (dlt false true v) :=
  h.box.of_block (hg.block _ (by have := h.size; omega) (fun e => by have := (h.own.lt _ e.symm).1; omega))

set_option maxHeartbeats 800000 in
set_option maxRecDepth 100000 in
theorem repl_any (vb m : Nat) (F : Nat → Val) (w : World) (hv : w.rowIs vb 67 (m * 3) (trip F)) (hm : m ≤ 65536) :
    Calls Try.prog 41 #[.slice none 0 0, .slice (some ⟨vb, 0, none⟩) m m] w fun e' w' => ∃ a' c', e' = .returned (.agg #[.bool false, .bool true, .slice a' (keepN F m).length c']) ∧ SlA w' a' (keepN F m).length c' (fun i => (keepN F m).getD i nulA) ∧ Below w.heap.size w w' ∧ (∀ x, a' = some x → w.heap.size ≤ x.block) := by
  obtain ⟨i0, hi, hz0, hz1, hz2⟩ := info_parts Try.info81
  go_enter Try.func41, Try.ntmps41
  go_wp2
  go_loopg [12] m (fun gh i wr => ∃ (k : Nat) (v : Value), k ≤ m ∧ gh = m - k ∧ i = .int .i64 (k : Nat) ∧ Repl w wr v (keepN F k))
  case atStart => exact ⟨0, _, Nat.zero_le _, rfl, rfl, repl_start w⟩
  case round =>
    obtain ⟨k, v, hk, rfl, rfl, hR⟩ := hrel
    have hsz := hR.size
    by_cases hlt : k < m
    · obtain ⟨e0, e1, e2⟩ := (three_of_row hv hlt).later hR.below
      have hkz : (k : Int) < (m : Int) := by omega
      have hlen := keepN_len F k
      go_wp2_with fail
      refine (isnull_any _ _ _ _).mono ?_
      rintro e' w1 ⟨rfl, rfl⟩
      have hR2 := repl_alloc (repl_alloc hR (.cells #[.int .u8 (F k).t, .int .u64 (F k).m, .string (F k).s] 67)) (.cells #[.int .u8 (F k).t, .int .u64 (F k).m, .string (F k).s] 67)
      cases hnull : ((F k).t == 0)
      · have HK : Hid (keepN F (k + 1) = keepN F k ++ [⟨(k : Int), F k⟩]) := keepN_val hnull
        have b2 : ∀ o o', ((wr.alloc o).alloc o').cell? ⟨w.heap.size + 1, 2, none⟩ = some v := fun o o' => (repl_alloc (repl_alloc hR o) o').box.cell (i := 2) (by omega)
        go_wp2_with (at_builtin; refine append_step _ rfl _ _ 40 rfl (w.heap.size + 2) 81 i0 _ 4 40 Try.underlying40 hi hz0 hz1 hz2 rfl (by decide) _ _ _ rfl (hR2.own.alloc _) ?c1 ⟨wr.heap.size + 1 + 1, 0, none⟩ 1 1 (flat [⟨(k : Int), F k⟩]) rfl rfl ?c2 (oneCell_flat _) (by decide) ?c4 ?c5 ?_)
        case c1 => simp; omega
        case c2 =>
          intro j u hj
          have := four_new ((wr.alloc (.cells #[.int .u8 (F k).t, .int .u64 (F k).m, .string (F k).s] 67)).alloc (.cells #[.int .u8 (F k).t, .int .u64 (F k).m, .string (F k).s] 67)) ⟨(k : Int), F k⟩ 81 j u hj
          rwa [World.size_alloc, World.size_alloc] at this
        case c4 => unfold maxLen; omega
        case c5 => omega
        intro v' w1 ho hg hown2
        have ho' : w1.ownsRow (w.heap.size + 2) 81 4 v' (keepN F (k + 1)).length (flat (keepN F (k + 1))) := by
          rw [HK.out, flat_append, List.length_append]; exact ho
        obtain ⟨a', c', hv', _, _, hg'⟩ := sla_of ho'
        obtain ⟨g, hga⟩ := hg' (by rw [HK.out]; simp)
        rw [hga] at hv'
        subst hv'
        have hR3 := repl_alloc hR2 (.cells #[.int .i64 (k : Int), .int .u8 (F k).t, .int .u64 (F k).m, .string (F k).s] 81)
        have hbx := repl_box hR3 hg
        have x2 : w1.cell? ⟨w.heap.size + 1, 2, none⟩ = some v := hbx.cell (i := 2) (by omega)
        have y2 := hbx.frozen 2
        have hRn := repl_app hR3 hg ho'
        clear ho hg hown2 hbx hR3 hR2 hR ho' b2 e0 e1 e2 hg'
        go_wp2
        go_roundg (m - (k + 1))
        case measure => go_light; omega
        case rel => go_light; exact ⟨k + 1, _, by omega, rfl, by go_num, hRn⟩
      · have HK : Hid (keepN F (k + 1) = keepN F k) := keepN_null hnull
        go_wp2
        go_roundg (m - (k + 1))
        case measure => go_light; omega
        case rel => go_light; exact ⟨k + 1, v, by omega, rfl, by go_num, by rw [HK.out]; exact hR2⟩
    · have e1 : k = m := by omega
      subst e1
      obtain ⟨a', c', hv', hS', hx', _⟩ := sla_of hR.own
      subst hv'
      have b0 : wr.cell? ⟨w.heap.size + 1, 0, none⟩ = some (.bool false) := hR.box.cell (i := 0) (by omega)
      have b1 : wr.cell? ⟨w.heap.size + 1, 1, none⟩ = some (.bool true) := hR.box.cell (i := 1) (by omega)
      have b2 : wr.cell? ⟨w.heap.size + 1, 2, none⟩ = some (.slice a' (keepN F k).length c') := hR.box.cell (i := 2) (by omega)
      have r0 : wr.cell? ⟨w.heap.size, 0, none⟩ = some (.bool false) := hR.res.cell (i := 0) (by omega)
      have r1 : wr.cell? ⟨w.heap.size, 1, none⟩ = some (.bool false) := hR.res.cell (i := 1) (by omega)
      have r2 : wr.cell? ⟨w.heap.size, 2, none⟩ = some (.slice none 0 0) := hR.res.cell (i := 2) (by omega)
      have f0 := hR.res.frozen 0
      have f1 := hR.res.frozen 1
      have f2 := hR.res.frozen 2
      go_wp2
      refine bodyPost_ret (v := .agg #[.bool false, .bool true, .slice a' (keepN F k).length c']) (by simp [results, Try.results41, go_sem, r0, r1, r2]) rfl ⟨a', c', rfl, ?_, ?_, fun x hx => by have := hx' x hx; omega⟩
      · have hy : ∀ x, a' = some x → x.block ≠ w.heap.size := fun x hx => by have := hx' x hx; omega
        exact ((hS'.setOther _ _ hy).setOther _ _ hy).setOther _ _ hy
      · exact ((hR.below.setCell (Nat.le_refl _) _).setCell (Nat.le_refl _) _).setCell (Nat.le_refl _) _
end Go.Proofs.Qxb6605262a
