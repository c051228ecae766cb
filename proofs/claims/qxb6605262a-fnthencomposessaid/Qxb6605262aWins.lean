import Derived.Test.Qxb6605262aLast
namespace Go.Proofs.Qxb6605262a
open Go.RowKit
set_option linter.unusedVariables false

set_option maxHeartbeats 800000 in
set_option maxRecDepth 100000 in
theorem zz16_any (x1 x2 x3 x4 : Bool) (nc : Int) (a1 : Option Addr) (n1 c1 : Nat) (A1 : Nat → Asg) (a2 : Option Addr) (n2 c2 : Nat) (A2 : Nat → Asg) (w : World) (h1 : SlA w a1 n1 c1 A1) (h2 : SlA w a2 n2 c2 A2) (hn1 : n1 ≤ 9223372036854775807) (hn2 : n2 ≤ 9223372036854775807) :
    Calls Try.prog 16 #[.bool x1, .bool x2, .slice a1 n1 c1, .bool x3, .bool x4, .slice a2 n2 c2, .int .i64 nc] w fun e w' => (e = .returned (.bool true) ∨ e = .returned (.bool false)) ∧ w = w' := by
  obtain ⟨p1, o1, ha, hc1⟩ := h1.open
  obtain ⟨p2, o2, hb, hc2⟩ := h2.open
  clear h1 h2
  go_enter Try.func16, Try.ntmps16
  by_cases hbig : (n1 : Int) > 1048576
  · go_wp2
    go_ret; first | exact ⟨.inl rfl, rfl⟩ | exact ⟨.inr rfl, rfl⟩
  · go_wp2
    go_loopg [15, 16] n1 (fun gh s i wr => ∃ k z : Nat, k ≤ n1 ∧ gh = n1 - k ∧ s = .int .i64 (z : Nat) ∧ i = .int .i64 (k : Nat) ∧ w = wr ∧ z ≤ 1048576)
    case atStart => exact ⟨0, n1, Nat.zero_le _, rfl, by go_num, rfl, rfl, by omega⟩
    case round =>
      obtain ⟨k, z, hk, rfl, rfl, rfl, rfl, hz⟩ := hrel
      by_cases hlt : k < n1
      · obtain rfl := ha (by omega)
        obtain ⟨e0, e1, e2, e3⟩ := hc1 k hlt
        have hkz : (k : Int) < (n1 : Int) := by omega
        obtain ⟨q, hq⟩ : ∃ q, q = (A1 k).v.s.size := ⟨_, rfl⟩
        by_cases hs : (((A1 k).v.s.size : Nat) : Int) > 1048576
        · go_wp2
          go_ret; first | exact ⟨.inl rfl, rfl⟩ | exact ⟨.inr rfl, rfl⟩
        · by_cases hs2 : ((z : Int) + (((A1 k).v.s.size : Nat) : Int)) > 1048576
          · go_wp2
            go_ret; first | exact ⟨.inl rfl, rfl⟩ | exact ⟨.inr rfl, rfl⟩
          · go_wp2
            go_roundg (n1 - (k + 1))
            case measure => go_light; omega
            case rel => go_light; exact ⟨k + 1, z + (A1 k).v.s.size, by omega, rfl, by go_num, by go_num, rfl, by omega⟩
      · have hkz : ¬ (k : Int) < (n1 : Int) := by omega
        by_cases hbig2 : (n2 : Int) > 1048576
        · go_wp2
          go_ret; first | exact ⟨.inl rfl, rfl⟩ | exact ⟨.inr rfl, rfl⟩
        · by_cases hbig3 : ((z : Int) + (n2 : Int)) > 1048576
          · go_wp2
            go_ret; first | exact ⟨.inl rfl, rfl⟩ | exact ⟨.inr rfl, rfl⟩
          · go_wp2
            go_loopg [15, 17] n2 (fun gh s i wr => ∃ k z : Nat, k ≤ n2 ∧ gh = n2 - k ∧ s = .int .i64 (z : Nat) ∧ i = .int .i64 (k : Nat) ∧ w = wr ∧ z ≤ 1048576)
            case atStart => exact ⟨0, z + n2, Nat.zero_le _, rfl, by go_num, rfl, rfl, by omega⟩
            case round =>
              obtain ⟨j, y, hj, rfl, rfl, rfl, rfl, hy⟩ := hrel
              by_cases hlt2 : j < n2
              · obtain rfl := hb (by omega)
                obtain ⟨e0, e1, e2, e3⟩ := hc2 j hlt2
                have hjz : (j : Int) < (n2 : Int) := by omega
                by_cases hs : (((A2 j).v.s.size : Nat) : Int) > 1048576
                · go_wp2
                  go_ret; first | exact ⟨.inl rfl, rfl⟩ | exact ⟨.inr rfl, rfl⟩
                · by_cases hs2 : ((y : Int) + (((A2 j).v.s.size : Nat) : Int)) > 1048576
                  · go_wp2
                    go_ret; first | exact ⟨.inl rfl, rfl⟩ | exact ⟨.inr rfl, rfl⟩
                  · go_wp2
                    go_roundg (n2 - (j + 1))
                    case measure => go_light; omega
                    case rel => go_light; exact ⟨j + 1, y + (A2 j).v.s.size, by omega, rfl, by go_num, by go_num, rfl, by omega⟩
              · have hjz : ¬ (j : Int) < (n2 : Int) := by omega
                go_wp2
                go_ret; first | exact ⟨.inl rfl, rfl⟩ | exact ⟨.inr rfl, rfl⟩

theorem cat_lo (A1 : Nat → Asg) (A2 : Nat → Asg) {n1 i : Nat} (h : i < n1) : cat A1 n1 A2 i = A1 i := by unfold cat; rw [if_pos h]
theorem cat_hi (A1 : Nat → Asg) (A2 : Nat → Asg) (n1 i : Nat) : cat A1 n1 A2 (n1 + i) = A2 i := by unfold cat; rw [if_neg (by omega), Nat.add_sub_cancel_left]

theorem lastV_miss {C : Nat → Asg} {k j : Nat} (h : ¬ (C k).c = (j : Int)) : lastV C (k + 1) j = lastV C k j := by rw [lastV, if_neg h]
theorem lastV_hit {C : Nat → Asg} {k j : Nat} (h : (C k).c = (j : Int)) : lastV C (k + 1) j = some (C k).v := by rw [lastV, if_pos h]

/-- The result's cell while lastFor looks. -/
structure Res (w wr : World) : Prop where
  below : Below w.heap.size w wr
  row : wr.rowIs w.heap.size 61 4 (fld nulA)

theorem res_start (w : World) : Res w (w.alloc (.cells #[.int .i64 0, .int .u8 0, .int .u64 0, .string ByteArray.empty] 61)) := by
  refine ⟨(Below.refl _ _).alloc (Nat.le_refl _) _, ⟨_, Go.Deep.blk_alloc_new _ _, rfl, fun i hi => ?_⟩⟩
  rcases (show i = 0 ∨ i = 1 ∨ i = 2 ∨ i = 3 by omega) with rfl | rfl | rfl | rfl <;> rfl

theorem res_below {w wr : World} (h : Res w wr) (v0 v1 v2 v3 : Value) : Below w.heap.size w ((((wr.setCell ⟨w.heap.size, 0, none⟩ v0).setCell ⟨w.heap.size, 1, none⟩ v1).setCell ⟨w.heap.size, 2, none⟩ v2).setCell ⟨w.heap.size, 3, none⟩ v3) :=
  (((h.below.setCell (Nat.le_refl _) _).setCell (Nat.le_refl _) _).setCell (Nat.le_refl _) _).setCell (Nat.le_refl _) _

set_option maxHeartbeats 1600000 in
set_option maxRecDepth 100000 in
theorem lastFor_any (a1 : Option Addr) (n1 c1 : Nat) (A1 : Nat → Asg) (a2 : Option Addr) (n2 c2 : Nat) (A2 : Nat → Asg) (col : Nat) (w : World) (h1 : SlA w a1 n1 c1 A1) (h2 : SlA w a2 n2 c2 A2) (hn1 : n1 ≤ 1048576) (hn2 : n2 ≤ 1048576) :
    Calls Try.prog 39 #[.slice a1 n1 c1, .slice a2 n2 c2, .int .i64 (col : Nat)] w fun e w' => ∃ x : Val, e = .returned (.agg #[.int .i64 (col : Nat), .int .u8 x.t, .int .u64 x.m, .string x.s]) ∧ x = valF (cat A1 n1 A2) (n1 + n2) col ∧ Below w.heap.size w w' := by
  obtain ⟨p1, o1, ha, hc1⟩ := h1.open
  obtain ⟨p2, o2, hb, hc2⟩ := h2.open
  have hR := res_start w
  obtain ⟨V, hV⟩ : ∃ V, V = lastV (cat A1 n1 A2) (n1 + n2) col := ⟨_, rfl⟩
  have HV : Hid (V.getD nul = valF (cat A1 n1 A2) (n1 + n2) col) := by show _ = _; rw [hV]; rfl
  have HV0 : Hid (lastV (cat A1 n1 A2) (n1 + n2) col = V) := hV.symm
  clear h1 h2 hV
  go_enter Try.func39, Try.ntmps39
  go_wp2
  go_loopg [7] (n2 + 1) (fun gh i wr => ∃ k : Nat, k ≤ n2 ∧ gh = k + 1 ∧ i = .int .i64 ((k : Int) - 1) ∧ Res w wr ∧ Hid (lastV (cat A1 n1 A2) (n1 + k) col = V))
  case atStart => exact ⟨n2, Nat.le_refl _, rfl, by go_num, hR, HV0⟩
  case round =>
    clear hR HV0
    obtain ⟨k, hk, rfl, rfl, hR, HL⟩ := hrel
    have d0 : wr.cell? ⟨w.heap.size, 0, none⟩ = some (.int .i64 0) := hR.row.cell (i := 0) (by omega)
    have d1 : wr.cell? ⟨w.heap.size, 1, none⟩ = some (.int .u8 0) := hR.row.cell (i := 1) (by omega)
    have d2 : wr.cell? ⟨w.heap.size, 2, none⟩ = some (.int .u64 0) := hR.row.cell (i := 2) (by omega)
    have d3 : wr.cell? ⟨w.heap.size, 3, none⟩ = some (.string ByteArray.empty) := hR.row.cell (i := 3) (by omega)
    have f0 := hR.row.frozen 0
    have f1 := hR.row.frozen 1
    have f2 := hR.row.frozen 2
    have f3 := hR.row.frozen 3
    by_cases h0 : 0 < k
    · obtain ⟨q, rfl⟩ : ∃ q, k = q + 1 := ⟨k - 1, by omega⟩
      obtain rfl := hb (by omega)
      obtain ⟨e0, e1, e2, e3⟩ := (hc2 q (by omega)).later hR.below
      have hqz : ((q + 1 : Nat) : Int) - 1 = (q : Int) := by omega
      have hqn : (q : Int) < (n2 : Int) := by omega
      simp only [hqz]
      by_cases hh : (A2 q).c = (col : Int)
      · rw [hh] at e0
        go_wp2
        refine bodyPost_ret (v := .agg #[.int .i64 (col : Int), .int .u8 (A2 q).v.t, .int .u64 (A2 q).v.m, .string (A2 q).v.s]) (by simp [results, Try.results39, go_sem, d0, d1, d2, d3]) rfl ⟨_, rfl, ?_, res_below hR _ _ _ _⟩
        rw [← HV.out, ← HL.out, ← Nat.add_assoc, lastV_hit (by rw [cat_hi]; exact hh), cat_hi]
        rfl
      · have hhb : ((A2 q).c == (col : Int)) = false := beq_eq_false_iff_ne.2 hh
        go_wp2
        go_roundg (q + 1)
        case measure => go_light; omega
        case rel => go_light; exact ⟨q, by omega, rfl, by go_num, hR, by show _ = _; rw [← HL.out, ← Nat.add_assoc, lastV_miss (by rw [cat_hi]; exact hh)]⟩
    · have e : k = 0 := by omega
      subst e
      go_wp2
      go_loopg [8] (n1 + 1) (fun gh i wr => ∃ k : Nat, k ≤ n1 ∧ gh = k + 1 ∧ i = .int .i64 ((k : Int) - 1) ∧ Res w wr ∧ Hid (lastV (cat A1 n1 A2) k col = V))
      case atStart => exact ⟨n1, Nat.le_refl _, rfl, by go_num, hR, HL⟩
      case round =>
        clear hR HL d0 d1 d2 d3 f0 f1 f2 f3
        obtain ⟨k, hk, rfl, rfl, hR, HL⟩ := hrel
        have d0 : wr.cell? ⟨w.heap.size, 0, none⟩ = some (.int .i64 0) := hR.row.cell (i := 0) (by omega)
        have d1 : wr.cell? ⟨w.heap.size, 1, none⟩ = some (.int .u8 0) := hR.row.cell (i := 1) (by omega)
        have d2 : wr.cell? ⟨w.heap.size, 2, none⟩ = some (.int .u64 0) := hR.row.cell (i := 2) (by omega)
        have d3 : wr.cell? ⟨w.heap.size, 3, none⟩ = some (.string ByteArray.empty) := hR.row.cell (i := 3) (by omega)
        have f0 := hR.row.frozen 0
        have f1 := hR.row.frozen 1
        have f2 := hR.row.frozen 2
        have f3 := hR.row.frozen 3
        by_cases h1 : 0 < k
        · obtain ⟨q, rfl⟩ : ∃ q, k = q + 1 := ⟨k - 1, by omega⟩
          obtain rfl := ha (by omega)
          obtain ⟨e0, e1, e2, e3⟩ := (hc1 q (by omega)).later hR.below
          have hqz : ((q + 1 : Nat) : Int) - 1 = (q : Int) := by omega
          have hqn : (q : Int) < (n1 : Int) := by omega
          simp only [hqz]
          by_cases hh : (A1 q).c = (col : Int)
          · rw [hh] at e0
            go_wp2
            refine bodyPost_ret (v := .agg #[.int .i64 (col : Int), .int .u8 (A1 q).v.t, .int .u64 (A1 q).v.m, .string (A1 q).v.s]) (by simp [results, Try.results39, go_sem, d0, d1, d2, d3]) rfl ⟨_, rfl, ?_, res_below hR _ _ _ _⟩
            rw [← HV.out, ← HL.out, lastV_hit (by rw [cat_lo _ _ hk]; exact hh), cat_lo _ _ hk]
            rfl
          · have hhb : ((A1 q).c == (col : Int)) = false := beq_eq_false_iff_ne.2 hh
            go_wp2
            go_roundg (q + 1)
            case measure => go_light; omega
            case rel => go_light; exact ⟨q, by omega, rfl, by go_num, hR, by show _ = _; rw [← HL.out, lastV_miss (by rw [cat_lo _ _ hk]; exact hh)]⟩
        · have e : k = 0 := by omega
          subst e
          go_wp2
          refine bodyPost_ret (v := .agg #[.int .i64 (col : Int), .int .u8 nul.t, .int .u64 nul.m, .string nul.s]) (by simp [results, Try.results39, go_sem, d0, d1, d2, d3, nul]; rfl) rfl ⟨nul, rfl, ?_, res_below hR _ _ _ _⟩
          rw [← HV.out, ← HL.out]
          rfl

structure Cols (w wr : World) (v : Value) (L : List Nat) : Prop where
  below : Below w.heap.size w wr
  own : wr.ownsRow w.heap.size 3 1 v L.length (nvals L)

structure Gath (W wr : World) (v : Value) (L : List Asg) : Prop where
  below : Below W.heap.size W wr
  own : wr.ownsRow W.heap.size 61 4 v L.length (flat L)

theorem ownsA_later {w w' : World} {base : Nat} {e : TypeId} {size : Nat} {v : Value} {n : Nat} {xs : List Value} (h : w.ownsRow base e size v n xs) (hb : Below w.heap.size w w') : w'.ownsRow base e size v n xs := by
  refine ⟨h.1, ?_⟩
  rcases h.2 with h2 | ⟨g, cap, cur, hv, hg, hcur, r⟩
  · exact .inl h2
  · have hlt : g < w.heap.size := (h.lt g (by rw [hv]; rfl)).2
    exact .inr ⟨g, cap, cur, hv, hg, by rw [hb.block g hlt]; exact hcur, r⟩

theorem Gath.later {W wr w' : World} {v : Value} {L : List Asg} (h : Gath W wr v L) (hb : Below wr.heap.size wr w') : Gath W w' v L :=
  ⟨h.below.trans (hb.mono h.below.size), ownsA_later h.own hb⟩
theorem Gath.alloc {W wr : World} {v : Value} {L : List Asg} (h : Gath W wr v L) (o : Obj) : Gath W (wr.alloc o) v L :=
  ⟨h.below.alloc h.below.size _, h.own.alloc _⟩
theorem Gath.app {W wr w1 : World} {v v' : Value} {L M : List Asg} (h : Gath W wr v L) (hg : wr.grownBy w1 v.ownBlock) (ho : w1.ownsRow W.heap.size 61 4 v' M.length (flat M)) : Gath W w1 v' M :=
  ⟨h.below.trans ⟨hg.os, hg.tape, hg.output, hg.size, fun k hk => hg.block k (by have := h.below.size; omega) (fun e => by have := (h.own.lt k e.symm).1; omega)⟩, ho⟩

set_option maxHeartbeats 1600000 in
set_option maxRecDepth 100000 in
theorem wins_any (drop : Bool) (a1 : Option Addr) (n1 c1 : Nat) (A1 : Nat → Asg) (a2 : Option Addr) (n2 c2 : Nat) (A2 : Nat → Asg) (m : Nat) (w : World) (h1 : SlA w a1 n1 c1 A1) (h2 : SlA w a2 n2 c2 A2) (hm : m ≤ 65536) (hn1 : n1 ≤ 1048576) (hn2 : n2 ≤ 1048576) (hc1 : colsB A1 n1 m) (hc2 : colsB A2 n2 m) :
    Calls Try.prog 23 #[.slice a1 n1 c1, .slice a2 n2 c2, .bool drop] w fun e w' => ∃ a' c' L, e = .returned (.slice a' (List.length L) c') ∧ SlA w' a' L.length c' (fun i => L.getD i nulA) ∧ Below w.heap.size w w' ∧ L = thenL drop A1 n1 A2 n2 m := by
  obtain ⟨C, hCd⟩ : ∃ C, C = cat A1 n1 A2 := ⟨_, rfl⟩
  have HT : Hid (thenL drop A1 n1 A2 n2 m = outL drop (valF C (n1 + n2)) (colsL C (n1 + n2) m) (colsL C (n1 + n2) m).length) := by show _ = _; rw [hCd]; exact then_is_last drop A1 n1 A2 n2 m
  have HC : Hid (C = cat A1 n1 A2) := hCd
  clear hCd
  obtain ⟨p1, o1, ha, hA1⟩ := h1.open
  obtain ⟨p2, o2, hb, hA2⟩ := h2.open
  go_enter Try.func23, Try.ntmps23
  go_wp2
  go_loopg [7, 8] n1 (fun gh s i wr => ∃ (k : Nat) (v : Value), k ≤ n1 ∧ gh = n1 - k ∧ v = s ∧ i = .int .i64 (k : Nat) ∧ Cols w wr v (colsL C k m))
  case atStart => exact ⟨0, _, Nat.zero_le _, rfl, rfl, rfl, ⟨Below.refl _ _, by rw [colsL_zero]; exact World.ownsRow_nil _ _ _ _⟩⟩
  case round =>
    obtain ⟨k, v, hk, rfl, rfl, rfl, hS⟩ := hrel
    by_cases hlt : k < n1
    · obtain rfl := ha (by omega)
      have hkz : (k : Int) < (n1 : Int) := by omega
      obtain ⟨j, hj⟩ : ∃ j : Nat, (A1 k).c = (j : Int) := ⟨(A1 k).c.toNat, by have := hc1 k hlt; omega⟩
      have hjm : j < m := by have := hc1 k hlt; omega
      have HJ : Hid (colsL C (k + 1) m = ins j (colsL C k m)) := colsL_step (by rw [HC.out, cat_lo _ _ hlt]; exact hj) hjm
      obtain ⟨x0, x1, x2, x3⟩ := (hA1 k hlt).later hS.below
      rw [hj] at x0
      clear hj
      go_wp2_with fail
      refine (insert_any w v _ j wr hS.below hS.own (by have := colsL_len C k m; omega)).mono ?_
      rintro e' w1 ⟨v', rfl, ho, hb1⟩
      rw [← HJ.out] at ho
      clear x0 x1 x2 x3 hS
      go_wp2
      go_roundg (n1 - (k + 1))
      case measure => go_light; omega
      case rel => go_light; exact ⟨k + 1, v', by omega, rfl, rfl, by go_num, ⟨hb1, ho⟩⟩
    · have e : k = n1 := by omega
      subst e
      clear ha hA1
      go_wp2
      go_loopg [7, 9] n2 (fun gh s i wr => ∃ (j : Nat) (v : Value), j ≤ n2 ∧ gh = n2 - j ∧ v = s ∧ i = .int .i64 (j : Nat) ∧ Cols w wr v (colsL C (k + j) m))
      case atStart => exact ⟨0, _, Nat.zero_le _, rfl, rfl, rfl, hS⟩
      case round =>
        clear hS
        obtain ⟨q, v2, hq, rfl, rfl, rfl, hS⟩ := hrel
        by_cases hlt2 : q < n2
        · obtain rfl := hb (by omega)
          have hkz : (q : Int) < (n2 : Int) := by omega
          obtain ⟨j, hj⟩ : ∃ j : Nat, (A2 q).c = (j : Int) := ⟨(A2 q).c.toNat, by have := hc2 q hlt2; omega⟩
          have hjm : j < m := by have := hc2 q hlt2; omega
          have HJ : Hid (colsL C (k + (q + 1)) m = ins j (colsL C (k + q) m)) := colsL_step (k := k + q) (by rw [HC.out, cat_hi]; exact hj) hjm
          obtain ⟨x0, x1, x2, x3⟩ := (hA2 q hlt2).later hS.below
          rw [hj] at x0
          clear hj
          go_wp2_with fail
          refine (insert_any w v2 _ j wr hS.below hS.own (by have := colsL_len C (k + q) m; omega)).mono ?_
          rintro e' w1 ⟨v', rfl, ho, hb1⟩
          rw [← HJ.out] at ho
          clear x0 x1 x2 x3 hS
          go_wp2
          go_roundg (n2 - (q + 1))
          case measure => go_light; omega
          case rel => go_light; exact ⟨q + 1, v', by omega, rfl, rfl, by go_num, ⟨hb1, ho⟩⟩
        · have e : q = n2 := by omega
          subst e
          clear hb hA2
          obtain ⟨CL, hCL⟩ : ∃ CL, CL = colsL C (k + q) m := ⟨_, rfl⟩
          have hclen : CL.length ≤ 65536 := by have := colsL_len C (k + q) m; rw [hCL]; omega
          have HT2 : Hid (thenL drop A1 k A2 q m = outL drop (valF C (k + q)) CL CL.length) := by show _ = _; rw [hCL]; exact HT.out
          rw [← hCL] at hS
          clear hCL HT
          obtain ⟨a, cap, g, hv, hca, hcc⟩ := own_open hS.own
          subst hv
          have hB0 := hS.below
          obtain ⟨N, hN⟩ : ∃ N, N = CL.length := ⟨_, rfl⟩
          rw [← hN] at hca hcc hclen HT2 hS ⊢
          have HN : Hid (N = CL.length) := hN
          have HF : Hid (valF (cat A1 k A2) (k + q) = valF C (k + q)) := by show _ = _; rw [HC.out]
          clear hN HC
          obtain ⟨F, hF⟩ : ∃ F, F = valF C (k + q) := ⟨_, rfl⟩
          rw [← hF] at HF HT2
          clear hF hc1 hc2
          obtain ⟨i0, hi, hz0, hz1, hz2⟩ := info_parts Try.info61
          go_wp2
          obtain ⟨W, rfl⟩ : ∃ W, W = wr := ⟨_, rfl⟩
          go_loopg [10, 11] N (fun gh s i wx => ∃ (k3 : Nat) (u : Value), k3 ≤ N ∧ gh = N - k3 ∧ u = s ∧ i = .int .i64 (k3 : Nat) ∧ Gath W wx u (outL drop F CL k3))
          case atStart => exact ⟨0, _, Nat.zero_le _, rfl, rfl, rfl, ⟨Below.refl _ _, by unfold outL; exact World.ownsRow_nil _ _ _ _⟩⟩
          case round =>
            obtain ⟨k3, u, hk3, rfl, rfl, rfl, hG⟩ := hrel
            have hB1 : Below w.heap.size w wr := hB0.trans (hG.below.mono hB0.size)
            by_cases hlt3 : k3 < N
            · obtain rfl := hca (by omega)
              have hkz : (k3 : Int) < (N : Int) := by omega
              have e0 := cell_later hG.below (hcc k3 hlt3)
              obtain ⟨j, hj⟩ : ∃ j, j = CL.getD k3 0 := ⟨_, rfl⟩
              rw [← hj] at e0
              have hlen := outL_len drop F CL k3
              have hk3' : k3 < CL.length := by rw [← HN.out]; exact hlt3
              have HJ : Hid (j = CL.getD k3 0) := hj
              clear hj
              go_wp2_with fail
              refine (lastFor_any a1 k c1 A1 a2 q c2 A2 j wr (h1.later hB1) (h2.later hB1) hn1 hn2).mono ?_
              rintro e' w1 ⟨x, rfl, hx, hb1⟩
              rw [HF.out] at hx
              have HX : Hid (x = F j) := hx
              clear hx
              have G1 := hG.later hb1
              have G2 := G1.alloc (.cells #[.int .i64 (j : Int), .int .u8 x.t, .int .u64 x.m, .string x.s] 61)
              have hsz := G1.below.size
              clear hb1 hB1
              cases drop
              · have HK : Hid (outL false F CL (k3 + 1) = outL false F CL k3 ++ [⟨(j : Int), x⟩]) := by
                  show _ = _
                  rw [outL_yes hk3' rfl, ← HJ.out, ← HX.out]
                go_wp2_with (at_builtin; refine append_step _ rfl _ _ 35 rfl W.heap.size 61 i0 _ 4 40 Try.underlying35 hi hz0 hz1 hz2 rfl (by decide) _ _ _ rfl (G2.own.alloc _) ?c1 ⟨w1.heap.size + 1, 0, none⟩ 1 1 (flat [⟨(j : Int), x⟩]) rfl rfl ?c2 (oneCell_flat _) (by decide) ?c4 ?c5 ?_)
                case c1 => simp; omega
                case c2 =>
                  intro i u hi
                  have := four_new (w1.alloc (.cells #[.int .i64 (j : Int), .int .u8 x.t, .int .u64 x.m, .string x.s] 61)) ⟨(j : Int), x⟩ 61 i u hi
                  rwa [World.size_alloc] at this
                case c4 => unfold maxLen; omega
                case c5 => omega
                intro v' w2 ho hg hown2
                have G3 := (G2.alloc _).app hg (own_flat ho)
                rw [← HK.out] at G3
                clear ho hg hown2 G2 G1 hG e0
                go_wp2
                go_roundg (N - (k3 + 1))
                case measure => go_light; omega
                case rel => go_light; exact ⟨k3 + 1, v', by omega, rfl, rfl, by go_num, G3⟩
              · cases hnull : (x.t == 0)
                · have HK : Hid (outL true F CL (k3 + 1) = outL true F CL k3 ++ [⟨(j : Int), x⟩]) := by
                    show _ = _
                    rw [outL_yes hk3' (by rw [← HJ.out, ← HX.out, hnull]; rfl), ← HJ.out, ← HX.out]
                  go_wp2_with (at_builtin; refine append_step _ rfl _ _ 35 rfl W.heap.size 61 i0 _ 4 40 Try.underlying35 hi hz0 hz1 hz2 rfl (by decide) _ _ _ rfl (G2.own.alloc _) ?c1 ⟨w1.heap.size + 1, 0, none⟩ 1 1 (flat [⟨(j : Int), x⟩]) rfl rfl ?c2 (oneCell_flat _) (by decide) ?c4 ?c5 ?_)
                  case c1 => simp; omega
                  case c2 =>
                    intro i u hi
                    have := four_new (w1.alloc (.cells #[.int .i64 (j : Int), .int .u8 x.t, .int .u64 x.m, .string x.s] 61)) ⟨(j : Int), x⟩ 61 i u hi
                    rwa [World.size_alloc] at this
                  case c4 => unfold maxLen; omega
                  case c5 => omega
                  intro v' w2 ho hg hown2
                  have G3 := (G2.alloc _).app hg (own_flat ho)
                  rw [← HK.out] at G3
                  clear ho hg hown2 G2 G1 hG e0
                  go_wp2
                  go_roundg (N - (k3 + 1))
                  case measure => go_light; omega
                  case rel => go_light; exact ⟨k3 + 1, v', by omega, rfl, rfl, by go_num, G3⟩
                · have HK : Hid (outL true F CL (k3 + 1) = outL true F CL k3) := outL_no hk3' (by rw [← HJ.out, ← HX.out, hnull]; rfl)
                  go_wp2
                  go_roundg (N - (k3 + 1))
                  case measure => go_light; omega
                  case rel => go_light; exact ⟨k3 + 1, u, by omega, rfl, rfl, by go_num, by rw [HK.out]; exact G2⟩
            · have e : k3 = N := by omega
              subst e
              obtain ⟨a', c', hv', hS', hx', _⟩ := sla_of hG.own
              subst hv'
              go_wp2
              go_ret
              exact ⟨a', c', _, rfl, hS', hB1, HT2.out.symm⟩
end Go.Proofs.Qxb6605262a
