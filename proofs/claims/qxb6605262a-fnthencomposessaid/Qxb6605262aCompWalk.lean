import Derived.Test.Qxb6605262aComp
namespace Go.Proofs.Qxb6605262a
open Go.RowKit
set_option linter.unusedVariables false

theorem zzthen_both (e1 r1 e2 r2 : Bool) (a1 : Option Addr) (n1 c1 : Nat) (A1 : Nat → Asg) (a2 : Option Addr) (n2 c2 : Nat) (A2 : Nat → Asg) (m : Nat) (w : World) (h1 : SlA w a1 n1 c1 A1) (h2 : SlA w a2 n2 c2 A2) (hm : m ≤ 65536) (hn1 : n1 ≤ 1048576) (hn2 : n2 ≤ 1048576)
    (hc1 : colsB A1 n1 m) (hc2 : colsB A2 n2 m) :
    Calls Try.prog 20 #[.agg #[.bool e1, .bool r1, .slice a1 n1 c1], .agg #[.bool e2, .bool r2, .slice a2 n2 c2], .int .i64 (m : Nat)] w fun e' w' => ∃ a' c', e' = .returned (.agg #[.bool e2, .bool (resR e1 r1 e2 r2), .slice a' (resN e1 r1 e2 r2 A1 n1 A2 n2 m) c']) ∧ SlA w' a' (resN e1 r1 e2 r2 A1 n1 A2 n2 m) c' (resA e1 r1 e2 r2 A1 n1 A2 n2 m) ∧ Below w.heap.size w w' := by
  cases hw : isW e2 r2
  · have hw2 := hw
    unfold isW at hw2
    simp only [Bool.or_eq_false_iff] at hw2
    obtain ⟨rfl, rfl⟩ := hw2
    exact zzthen_any (e1 || r1) e1 r1 rfl a1 n1 c1 A1 a2 n2 c2 A2 m w h1 h2 hm hn1 hn2 hc1 hc2
  · refine (zzthen_whole e1 r1 a1 n1 c1 e2 r2 a2 n2 c2 m w hw).mono ?_
    rintro e' w' ⟨rfl, hb⟩
    have h2' := h2.later hb
    refine ⟨a2, c2, ?_, ?_, hb⟩
    · unfold resR resN; rw [hw]; rfl
    · unfold resN resA; rw [hw]; exact h2'

set_option maxHeartbeats 3200000 in
set_option maxRecDepth 100000 in
theorem compose_walk (e1 r1 e2 r2 ex : Bool) (nc : Int) (a1 : Option Addr) (n1 c1 : Nat) (A1 : Nat → Asg) (a2 : Option Addr) (n2 c2 : Nat) (A2 : Nat → Asg) (a3 : Option Addr) (n3 c3 : Nat) (A3 : Nat → Val) (w : World) (h1 : SlA w a1 n1 c1 A1) (h2 : SlA w a2 n2 c2 A2) (h3 : SlC w a3 n3 c3 A3) (hn1 : n1 ≤ 9223372036854775807) (hn2 : n2 ≤ 9223372036854775807) (hn3 : n3 ≤ 9223372036854775807) :
    Calls Try.prog 6 #[.bool e1, .bool r1, .slice a1 n1 c1, .bool e2, .bool r2, .slice a2 n2 c2, .int .i64 nc, .bool ex, .slice a3 n3 c3] w fun e w' => e = .returned (.bool true) ∧ Below w.heap.size w w' := by
  go_enter Try.func6, Try.ntmps6
  go_wp2_with fail
  refine (zz25_any e1 r1 e2 r2 nc a1 n1 c1 A1 a2 n2 c2 A2 w ex a3 n3 c3 A3 h3 h1 h2 hn1 hn2 hn3).mono ?_
  rintro e w' ⟨rfl | rfl, rfl⟩
  case inr => go_wp2; go_ret; exact ⟨rfl, Below.refl _ _⟩
  go_wp2_with fail
  refine (bytes_any a1 n1 c1 A1 w h1 hn1).mono ?_
  rintro e w' ⟨⟨z1, rfl, hz1, hy1⟩, rfl⟩
  go_wp2_with fail
  refine (bytes_any a2 n2 c2 A2 w h2 hn2).mono ?_
  rintro e w' ⟨⟨z2, rfl, hz2, hy2⟩, rfl⟩
  go_wp2_with fail
  refine (cbytes_any a3 n3 c3 A3 w h3 hn3).mono ?_
  rintro e w' ⟨⟨z3, rfl, hz3, hy3⟩, rfl⟩
  by_cases hbig : ((z1 : Int) + (z2 : Int) + (z3 : Int)) > 1048576
  · clear hy1 hy2 hy3
    go_wp2; go_ret; exact ⟨rfl, Below.refl _ _⟩
  have hm1 : n1 ≤ 1048576 := by have := hy1 (by omega); omega
  have hm2 : n2 ≤ 1048576 := by have := hy2 (by omega); omega
  have hm3 : n3 ≤ 1048576 := by have := hy3 (by omega); omega
  clear hy1 hy2 hy3
  by_cases hneg : nc < 0
  · go_wp2; go_ret; exact ⟨rfl, Below.refl _ _⟩
  by_cases hwide : nc > 65536
  · go_wp2; go_ret; exact ⟨rfl, Below.refl _ _⟩
  obtain ⟨m, rfl⟩ : ∃ m : Nat, nc = (m : Int) := ⟨nc.toNat, by omega⟩
  have hm : m ≤ 65536 := by omega
  go_wp2_with fail
  refine (colsIn_any a1 n1 c1 A1 m w h1 hm1).mono ?_
  rintro e w' ⟨rfl | ⟨rfl, hc1⟩, rfl⟩
  · go_wp2; go_ret; exact ⟨rfl, Below.refl _ _⟩
  go_wp2_with fail
  refine (colsIn_any a2 n2 c2 A2 m w h2 hm2).mono ?_
  rintro e w' ⟨rfl | ⟨rfl, hc2⟩, rfl⟩
  · clear hc1
    go_wp2; go_ret; exact ⟨rfl, Below.refl _ _⟩
  have HC1 : Hid (colsB A1 n1 m) := hc1
  have HC2 : Hid (colsB A2 n2 m) := hc2
  clear hc1 hc2
  have HQ : Hid ((e1 = true ∧ 0 < n1) ∨ (e1 = true → n1 = 0)) := by
    show _ ∨ _
    by_cases h : e1 = true ∧ 0 < n1
    · exact .inl h
    · exact .inr fun he => by
        have : ¬ 0 < n1 := fun h2 => h ⟨he, h2⟩
        omega
  go_upto_region 9 with fail
  go_cut [77] from 28 to 77 (fun s77 wx => w = wx ∧ ((s77 = .bool true) ∨ (s77 = .bool false ∧ (e1 = true → n1 = 0))))
  case first =>
    clear h1 h2 h3 HC1 HC2
    cases e1
    · cases e2
      · go_wp2_with fail
        go_meet
        go_light
        exact ⟨rfl, .inr ⟨rfl, fun h => by cases h⟩⟩
      · by_cases hq2 : 0 < n2
        · have hq2z : (0 : Int) < (n2 : Int) := by omega
          go_wp2_with fail
          go_meet
          go_light
          exact ⟨rfl, .inl rfl⟩
        · have hq2z : ¬ (0 : Int) < (n2 : Int) := by omega
          go_wp2_with fail
          go_meet
          go_light
          exact ⟨rfl, .inr ⟨rfl, fun h => by cases h⟩⟩
    · by_cases hq1 : 0 < n1
      · have hq1z : (0 : Int) < (n1 : Int) := by omega
        go_wp2_with fail
        go_meet
        go_light
        exact ⟨rfl, .inl rfl⟩
      · have hq1z : ¬ (0 : Int) < (n1 : Int) := by omega
        cases e2
        · go_wp2_with fail
          go_meet
          go_light
          exact ⟨rfl, .inr ⟨rfl, fun _ => by omega⟩⟩
        · by_cases hq2 : 0 < n2
          · have hq2z : (0 : Int) < (n2 : Int) := by omega
            go_wp2_with fail
            go_meet
            go_light
            exact ⟨rfl, .inl rfl⟩
          · have hq2z : ¬ (0 : Int) < (n2 : Int) := by omega
            go_wp2_with fail
            go_meet
            go_light
            exact ⟨rfl, .inr ⟨rfl, fun _ => by omega⟩⟩
  case rest =>
    obtain ⟨rfl, rfl | ⟨rfl, hz0⟩⟩ := hcut
    · clear h1 h2 h3 HC1 HC2
      go_wp2; go_ret; exact ⟨rfl, Below.refl _ _⟩
    have HL : Hid (∀ F col, col < m → alike (appl e2 (resR e1 r1 e2 r2) ex (resA e1 r1 e2 r2 A1 n1 A2 n2 m) (resN e1 r1 e2 r2 A1 n1 A2 n2 m) F col) (appl e2 r2 (!e1) A2 n2 (appl e1 r1 ex A1 n1 F) col)) := fun F col hcol => composes e1 r1 e2 r2 ex A1 n1 A2 n2 m F hz0 col hcol
    clear hz0 HQ
    go_wp2_with fail
    refine (cloneA_any a1 n1 c1 A1 w h1 hm1).mono ?_
    rintro e w1 ⟨b1, d1, rfl, hs1, hb1⟩
    have hs2 := h2.later hb1
    have hs3 := h3.later hb1
    go_wp2_with fail
    refine (cloneA_any a2 n2 c2 A2 w1 hs2 hm2).mono ?_
    rintro e w2 ⟨b2, d2, rfl, ht2, hb2⟩
    have ht1 := hs1.later hb2
    have ht3 := hs3.later hb2
    have hB2 := hb1.trans (hb2.mono hb1.size)
    clear hs1 hs2 hs3 hb1 hb2 h1 h2 h3
    go_wp2_with fail
    refine (cloneC_any a3 n3 c3 A3 w2 ht3 hm3).mono ?_
    rintro e w3 ⟨b3, d3, rfl, hu3, hb3⟩
    have hu1 := ht1.later hb3
    have hu2 := ht2.later hb3
    have hB3 := hB2.trans (hb3.mono hB2.size)
    clear ht1 ht2 ht3 hb3 hB2
    go_wp2_with fail
    refine (build_any _ _ b1 n1 d1 A1 w3 hu1 hm1).mono ?_
    rintro e w4 ⟨b4, d4, rfl, hv4, hb4, _⟩
    have hv1 := hu1.later hb4
    have hv2 := hu2.later hb4
    have hv3 := hu3.later hb4
    have hB4 := hB3.trans (hb4.mono hB3.size)
    clear hu1 hu2 hu3 hb4 hB3
    go_wp2_with fail
    refine (build_any _ _ b2 n2 d2 A2 w4 hv2 hm2).mono ?_
    rintro e w5 ⟨b5, d5, rfl, hw5, hb5, _⟩
    have hw1 := hv1.later hb5
    have hw2 := hv2.later hb5
    have hw3 := hv3.later hb5
    have hw4 := hv4.later hb5
    have hB5 := hB4.trans (hb5.mono hB4.size)
    clear hv1 hv2 hv3 hv4 hb5 hB4
    go_wp2_with fail
    refine (zzthen_both _ _ _ _ b4 n1 d4 A1 b5 n2 d5 A2 m w5 hw4 hw5 hm hm1 hm2 HC1.out HC2.out).mono ?_
    rintro e w6 ⟨b6, d6, rfl, hx6, hb6⟩
    have hx1 := hw1.later hb6
    have hx2 := hw2.later hb6
    have hx3 := hw3.later hb6
    have hB6 := hB5.trans (hb6.mono hB5.size)
    clear hw1 hw2 hw3 hw4 hw5 hb6 hB5
    have hcR := res_cols e1 r1 e2 r2 A1 n1 A2 n2 m HC2.out
    have hnR := res_len e1 r1 e2 r2 A1 n1 A2 n2 m hm2 hm
    obtain ⟨R, hR⟩ : ∃ R, R = resR e1 r1 e2 r2 := ⟨_, rfl⟩
    obtain ⟨N, hN⟩ : ∃ N, N = resN e1 r1 e2 r2 A1 n1 A2 n2 m := ⟨_, rfl⟩
    obtain ⟨B, hBd⟩ : ∃ B, B = resA e1 r1 e2 r2 A1 n1 A2 n2 m := ⟨_, rfl⟩
    rw [← hN, ← hBd] at hcR
    rw [← hN] at hnR
    rw [← hN, ← hBd] at hx6
    rw [← hN, ← hR]
    rw [← hN, ← hR, ← hBd] at HL
    have HCR : Hid (colsB B N m) := hcR
    clear hR hN hBd hcR
    go_wp2_with fail
    refine (read_any _ _ b6 N d6 B _ (hx6.later (below_new _ _)) hnR).mono ?_
    rintro e w7 ⟨b7, rfl, hy7, hb7⟩
    have hy1 := (hx1.later (below_new _ _)).later hb7
    have hy2 := (hx2.later (below_new _ _)).later hb7
    have hy3 := (hx3.later (below_new _ _)).later hb7
    have hB7 := (hB6.trans ((below_new _ _).mono hB6.size)).trans (hb7.mono (by have := hB6.size; simp; omega))
    clear hx1 hx2 hx3 hx6 hb7 hB6
    go_wp2_with fail
    refine (start_any ex b3 n3 d3 A3 m w7 hy3 hm3 hm).mono ?_
    rintro e w8 ⟨rfl, hr8, hb8⟩
    go_wp2_with fail
    refine (apply_any _ _ _ b7 N N B w7.heap.size m _ w7 w8 hy7 ⟨hb8, hr8, Nat.le_refl _⟩ hnR hm HCR.out).mono ?_
    rintro e w9 ⟨rfl, hC9⟩
    have hz1 := hy1.later hC9.below
    have hz2 := hy2.later hC9.below
    have hz3 := hy3.later hC9.below
    have hB9 := hB7.trans (hC9.below.mono hB7.size)
    have hr9 := hC9.row
    clear hy1 hy2 hy3 hy7 hr8 hb8 hC9 hB7
    go_wp2_with fail
    refine (start_any ex b3 n3 d3 A3 m w9 hz3 hm3 hm).mono ?_
    rintro e w10 ⟨rfl, hr10, hb10⟩
    go_wp2_with fail
    refine (apply_any _ _ _ b1 n1 d1 A1 w9.heap.size m _ w9 w10 hz1 ⟨hb10, hr10, Nat.le_refl _⟩ hm1 hm HC1.out).mono ?_
    rintro e w11 ⟨rfl, hC11⟩
    go_wp2_with fail
    refine (apply_any _ _ _ b2 n2 d2 A2 w9.heap.size m _ w9 w11 hz2 hC11 hm2 hm HC2.out).mono ?_
    rintro e w12 ⟨rfl, hC12⟩
    have hs9 : w7.heap.size < w9.heap.size := hr9.lt
    have hr1 := rowIs_later hr9 hC12.below
    have hr2 := hC12.row
    have hB12 := hB9.trans (hC12.below.mono hB9.size)
    have hal := HL.out (startF ex A3 n3)
    clear hz1 hz2 hz3 hr9 hr10 hb10 hC11 hC12 hB9
    obtain ⟨F1, hF1⟩ : ∃ F1, F1 = appl e2 R ex B N (startF ex A3 n3) := ⟨_, rfl⟩
    obtain ⟨F2, hF2⟩ : ∃ F2, F2 = appl e2 r2 (!e1) A2 n2 (appl e1 r1 ex A1 n1 (startF ex A3 n3)) := ⟨_, rfl⟩
    rw [← hF1] at hr1 hal
    rw [← hF2] at hr2 hal
    have HA : Hid (∀ col, col < m → alike (F1 col) (F2 col)) := hal
    clear hal hF1 hF2 HL HCR HC1 HC2
    have hne : ((!e2) != (!e2)) = false := by cases e2 <;> rfl
    go_wp2_with fail
    go_loopg [27] m (fun gh i wr => ∃ k : Nat, k ≤ m ∧ gh = m - k ∧ i = .int .i64 (k : Nat) ∧ Below w12.heap.size w12 wr)
    case atStart => exact ⟨0, Nat.zero_le _, rfl, rfl, Below.refl _ _⟩
    case round =>
      obtain ⟨k, hk, rfl, rfl, hbw⟩ := hrel
      by_cases hlt : k < m
      · have hkz : (k : Int) < (m : Int) := by omega
        obtain ⟨p0, p1, p2⟩ := three_of_row (rowIs_later hr1 hbw) hlt
        obtain ⟨q0, q1, q2⟩ := three_of_row (rowIs_later hr2 hbw) hlt
        have hak := HA.out k hlt
        obtain ⟨x, hx⟩ : ∃ x, x = F1 k := ⟨_, rfl⟩
        obtain ⟨y, hy⟩ : ∃ y, y = F2 k := ⟨_, rfl⟩
        rw [← hx] at p0 p1 p2 hak
        rw [← hy] at q0 q1 q2 hak
        have HK : Hid (alike x y) := hak
        clear hak hx hy hr1 hr2
        go_wp2_with fail
        go_region_with (go_at_call 30; refine (cellEq_any _ _ HK.out _).mono ?_; rintro e w' ⟨rfl, hb'⟩)
        all_goals
          have hbn : Below w12.heap.size w12 w' := hbw.drew.trans (hb'.mono hbw.drew.size)
          clear hb' p0 p1 p2 q0 q1 q2
        all_goals go_wp2_with fail
        all_goals
          go_roundg (m - (k + 1))
          case measure => go_light; omega
          case rel => go_light; exact ⟨k + 1, by omega, rfl, by go_num, hbn⟩
      · have hkz : ¬ (k : Int) < (m : Int) := by omega
        go_wp2
        go_ret
        exact ⟨rfl, hB12.trans (hbw.mono hB12.size)⟩
end Go.Proofs.Qxb6605262a
