import Derived.Test.Qxb6605219aForcedEnd
namespace Go.Proofs.Qxb6605219a
open Go.RowKit
set_option linter.unusedVariables false

set_option maxHeartbeats 16000000 in
set_option maxRecDepth 1000000 in
theorem forced_any (a : Option Addr) (n c : Nat) (zs : List Int) (pa : Option Addr) (np pc pb po : Nat) (A : Nat → Option Addr) (C : Nat → Nat) (P : Nat → List Int) (cy : Bool) (w : World)
    (h1 : Sl w a n c zs) (h2 : Nest w pa np pc pb po A C P) (hn : n ≤ 4096) (hnp : np ≤ 4096) :
    Calls Try.prog 5 #[.slice a n c, .slice pa np pc, .bool cy] w fun e w' => e = .returned (.bool true) ∧ Below w.heap.size w w' := by
  have HL : Hid (zs.length = n) := h1.len
  go_enter Try.func5, Try.ntmps5
  go_wp2_with fail
  refine (zz13_any _ _ _ _ _ _ _ _ _ _ _ _ _ (by omega) (by omega) h2).mono ?_
  rintro e w' ⟨⟨r, rfl⟩, rfl⟩
  cases r
  · go_wp2
    go_ret
    exact ⟨rfl, Below.refl _ _⟩
  · go_wp2_with fail
    -- the bytes
    go_loopg [7, 8] np (fun gh s7 s8 wr => ∃ k z : Nat, k ≤ np ∧ gh = np - k ∧ s8 = .int .i64 (k : Nat) ∧ s7 = .int .i64 (z : Nat) ∧ z ≤ 1048576 ∧ w = wr ∧ ∀ i, i < k → (P i).length ≤ 131072)
    case atStart => exact ⟨0, 8 * n, Nat.zero_le _, rfl, rfl, by go_num, by omega, rfl, fun i hi => by omega⟩
    case round =>
      obtain ⟨k, z, hk, rfl, rfl, rfl, hz, rfl, hP⟩ := hrel
      by_cases hlt : k < np
      · 
        as_aux_lemma =>
          obtain rfl := h2.addr (by omega)
          have c1 := h2.row k hlt
          by_cases h4 : (P k).length ≤ 131072
          · by_cases h5 : z + (24 + 8 * (P k).length) ≤ 1048576
            · go_wp2
              go_roundg (np - (k + 1))
              case measure => go_light; omega
              case rel =>
                go_light
                refine ⟨k + 1, z + (24 + 8 * (P k).length), by omega, rfl, by go_num, by go_num, h5, rfl, fun i hi => ?_⟩
                by_cases e : i = k
                · subst e; exact h4
                · exact hP i (by omega)
            · have h5' : (1048576 : Int) < (z : Int) + (24 + 8 * ((P k).length : Int)) := by omega
              go_wp2
              go_ret
              exact ⟨rfl, Below.refl _ _⟩
          · have h4' : (131072 : Int) < ((P k).length : Int) := by omega
            go_wp2
            go_ret
            exact ⟨rfl, Below.refl _ _⟩
      · have e : np = k := by omega
        subst e
        -- the clones
        go_wp2_with fail
        refine (words_any _ _ _ _ _ h1 (by omega)).mono ?_
        rintro e w1 ⟨a1, c1, rfl, hS1, hb1, _⟩
        go_wp2_with fail
        refine (nested_any _ _ _ _ _ _ _ _ _ (h2.later hb1) (by omega) (fun i hi => by have := hP i hi; omega)).mono ?_
        rintro e W ⟨a2, c2, b2, off2, A2, C2, rfl, hN, hb2⟩
        have hB : Below w.heap.size w W := hb1.trans (hb2.mono hb1.size)
        have hS := hS1.later hb2
        clear h1 h2 hS1 hb1 hb2
        cases cy
        · have hmk := run_make_row' (P := Try.prog) 32 3 (.int .i64 0) 8 Try.underlying32 Try.info3 rfl .i64 .i64 n (by omega) (by omega)
          obtain ⟨ob, oo, hoa, hoc⟩ := hS.open
          go_wp2
          clear hmk hS
          -- the positions
          go_loopg [13] n (fun gh i wr => ∃ (k : Nat) (pf : Nat → Nat), k ≤ n ∧ gh = n - k ∧ i = .int .i64 k ∧ PosR W wr n pf ∧ PosOk zs n k pf)
          case atStart => exact ⟨0, _, Nat.zero_le _, rfl, rfl, posR_start W n, posOk_start zs n⟩
          case round =>
            obtain ⟨k, pf, hk, rfl, rfl, hR, hok⟩ := hrel
            have HOK : Hid (PosOk zs n k pf) := hok
            clear hok
            by_cases hlt : k < n
            · 
              as_aux_lemma =>
                obtain rfl := hoa (by omega)
                have d1 : wr.cell? ⟨ob, oo + k, none⟩ = some (.int .i64 (zs.getD k 0)) := cell_later hR.below (hoc k hlt)
                by_cases hv : zs[k]?.getD 0 < 0
                · go_wp2
                  go_ret
                  exact ⟨rfl, hB.trans (hR.below.mono hB.size)⟩
                · by_cases hv2 : (n : Int) ≤ zs[k]?.getD 0
                  · go_wp2
                    go_ret
                    exact ⟨rfl, hB.trans (hR.below.mono hB.size)⟩
                  · obtain ⟨v, ev⟩ : ∃ v : Nat, zs[k]?.getD 0 = (v : Int) := ⟨(zs[k]?.getD 0).toNat, by omega⟩
                    have hvn : v < n := by omega
                    have EV : Hid (zs[k]?.getD 0 = (v : Int)) := ev
                    have d1' : wr.cell? ⟨ob, oo + k, none⟩ = some (.int .i64 (v : Int)) := by rw [d1]; exact congrArg (fun x => some (Value.int .i64 x)) ev
                    have d2 : wr.cell? ⟨W.heap.size, v, none⟩ = some (.int .i64 ((pf v : Nat) : Int)) := hR.row.cell hvn
                    have d3 : wr.frozen? ⟨W.heap.size, v, none⟩ = false := hR.row.frozen _
                    clear hv hv2 ev d1
                    by_cases h0 : pf v = 0
                    · have h0' : (((pf v : Nat) : Int) != 0) = false := by simp [h0]
                      have H0 : Hid (pf v = 0) := h0
                      clear h0
                      go_wp2
                      go_roundg (n - (k + 1))
                      case measure => go_light; omega
                      case rel => go_light; exact ⟨k + 1, _, by omega, rfl, by go_num, posR_step hR v k, posOk_step HOK.out hvn EV.out H0.out⟩
                    · have h0' : (((pf v : Nat) : Int) != 0) = true := by simp [h0]
                      go_wp2
                      go_ret
                      exact ⟨rfl, hB.trans (hR.below.mono hB.size)⟩
            · have e : n = k := by omega
              subst e
              go_wp2
              -- the parents stand before
              go_loopg [15] np (fun gh i wr' => ∃ i0 : Nat, i0 ≤ np ∧ gh = np - i0 ∧ i = .int .i64 i0 ∧ PosR W wr' n pf ∧ ValOk P n pf i0)
              case atStart => exact ⟨0, Nat.zero_le _, rfl, rfl, hR, fun k hk => by omega⟩
              case round =>
                clear hR
                obtain ⟨i0, hi0, rfl, rfl, hR, hval⟩ := hrel
                have HV : Hid (ValOk P n pf i0) := hval
                clear hval
                by_cases hlt2 : i0 < np
                · obtain rfl := hN.addr (by omega)
                  have hPi := hP i0 hlt2
                  by_cases hin : n ≤ i0
                  · 
                    as_aux_lemma =>
                      have d1 := cell_later hR.below (hN.row i0 hlt2)
                      by_cases hl0 : (P i0).length = 0
                      · have HL0 : Hid ((P i0).length = 0) := hl0
                        have hl0' : ¬ (0 : Int) < ((P i0).length : Int) := by omega
                        clear hl0
                        go_wp2
                        go_roundg (np - (i0 + 1))
                        case measure => go_light; omega
                        case rel => go_light; exact ⟨i0 + 1, by omega, rfl, by go_num, hR, valOk_out HV.out hin HL0.out⟩
                      · have hl0' : (0 : Int) < ((P i0).length : Int) := by omega
                        go_wp2
                        go_ret
                        exact ⟨rfl, hB.trans (hR.below.mono hB.size)⟩
                  · go_wp2
                    go_loopg [16] (P i0).length (fun gh i wr' => ∃ j : Nat, j ≤ (P i0).length ∧ gh = (P i0).length - j ∧ i = .int .i64 j ∧ PosR W wr' n pf ∧ RowOk P n pf i0 j)
                    case atStart => exact ⟨0, Nat.zero_le _, rfl, rfl, hR, fun k hk => by omega⟩
                    case round =>
                      clear hR
                      obtain ⟨j, hj, rfl, rfl, hR, hrow⟩ := hrel
                      have HR : Hid (RowOk P n pf i0 j) := hrow
                      clear hrow
                      by_cases hjl : j < (P i0).length
                      · 
                        as_aux_lemma =>
                          obtain ⟨rb, ro, hA, hcell⟩ := (hN.sl i0 hlt2).cells.resolve_left (by omega)
                          have d1 : wr.cell? ⟨b2, off2 + i0, none⟩ = some (.slice (some ⟨rb, ro, none⟩) (P i0).length (C2 i0)) := by rw [← hA]; exact cell_later hR.below (hN.row i0 hlt2)
                          have hpi : i0 < n := by omega
                          have d4 : wr.cell? ⟨W.heap.size, i0, none⟩ = some (.int .i64 ((pf i0 : Nat) : Int)) := hR.row.cell hpi
                          have d2 : wr.cell? ⟨rb, ro + j, none⟩ = some (.int .i64 ((P i0).getD j 0)) := cell_later hR.below (hcell j hjl)
                          clear hA hcell
                          obtain ⟨p, ep⟩ : ∃ p : Int, p = (P i0).getD j 0 := ⟨_, rfl⟩
                          rw [← ep] at d2
                          have EP : Hid (p = (P i0)[j]?.getD 0) := ep
                          clear ep
                          have hjz : (j : Int) < ((P i0).length : Int) := by omega
                          by_cases hv : p < 0
                          · have hd : decide (p < 0) = true := by simpa using hv
                            go_wp2_with fail
                            go_quiet (fail)
                            go_wp2
                            go_ret
                            exact ⟨rfl, hB.trans ((below_drewN hR.below _).mono hB.size)⟩
                          · have hd : decide (p < 0) = false := by simpa using hv
                            by_cases hv2 : (n : Int) ≤ p
                            · have hd2 : decide ((n : Int) ≤ p) = true := by simpa using hv2
                              go_wp2_with fail
                              go_quiet (fail)
                              go_wp2
                              go_ret
                              exact ⟨rfl, hB.trans ((below_drewN hR.below _).mono hB.size)⟩
                            · obtain ⟨pn, epn⟩ : ∃ pn : Nat, p = (pn : Int) := ⟨p.toNat, by omega⟩
                              subst epn
                              have hpn : pn < n := by omega
                              have d3 : wr.cell? ⟨W.heap.size, pn, none⟩ = some (.int .i64 ((pf pn : Nat) : Int)) := hR.row.cell hpn
                              have hd2 : decide ((n : Int) ≤ (pn : Int)) = false := by simpa using hv2
                              have hpz : (pn : Int) < (n : Int) := by omega
                              have hiz : (i0 : Int) < (n : Int) := by omega
                              clear hv hv2
                              by_cases hv3 : pf i0 ≤ pf pn
                              · have hd3 : decide (((pf i0 : Nat) : Int) ≤ ((pf pn : Nat) : Int)) = true := by simpa using hv3
                                go_wp2_with fail
                                go_quiet (fail)
                                go_wp2
                                go_ret
                                exact ⟨rfl, hB.trans ((below_drewN hR.below _).mono hB.size)⟩
                              · have hd3 : decide (((pf i0 : Nat) : Int) ≤ ((pf pn : Nat) : Int)) = false := by simpa using hv3
                                go_wp2_with fail
                                go_quiet (fail)
                                go_wp2
                                go_roundg ((P i0).length - (j + 1))
                                case measure => go_light; omega
                                case rel => go_light; exact ⟨j + 1, by omega, rfl, by go_num, ⟨below_drewN hR.below _, hR.row⟩, rowOk_step HR.out hpn EP.out.symm (by omega)⟩
                      · 
                        as_aux_lemma =>
                          have d1 := cell_later hR.below (hN.row i0 hlt2)
                          have e : (P i0).length = j := by omega
                          have HE : Hid ((P i0).length = j) := e
                          clear e
                          go_wp2
                          go_roundg (np - (i0 + 1))
                          case measure => go_light; omega
                          case rel =>
                            go_light
                            have hr := HR.out
                            rw [← HE.out] at hr
                            exact ⟨i0 + 1, by omega, rfl, by go_num, hR, valOk_row HV.out (by omega) hr⟩
                · have e : np = i0 := by omega
                  subst e
                  rename World => w4
                  have g := gr_of HOK.out HV.out
                  have hIO : InOrd W a1 n ob oo (ordN zs) := inOrd_of (c := c1) hoa hoc HOK.out
                  have hIP := inPar_of hN HV.out
                  have hLn : ∀ i, i < np → lenN P i ≤ 1048576 := fun i hi => by have := hP i hi; unfold lenN; omega
                  clear hoa hoc hN HOK HV
                  obtain ⟨o, ho⟩ : ∃ o, o = ordN zs := ⟨_, rfl⟩
                  obtain ⟨L, hLe⟩ : ∃ L, L = lenN P := ⟨_, rfl⟩
                  obtain ⟨q, hq⟩ : ∃ q, q = parN P := ⟨_, rfl⟩
                  rw [← ho, ← hLe, ← hq] at g
                  rw [← ho] at hIO
                  rw [← hLe, ← hq] at hIP
                  rw [← hLe] at hLn
                  clear ho hLe hq hP
                  obtain ⟨RB, hRB⟩ : ∃ RB, RB = rbN A2 := ⟨_, rfl⟩
                  obtain ⟨RO, hRO⟩ : ∃ RO, RO = roN A2 := ⟨_, rfl⟩
                  rw [← hRB, ← hRO] at hIP
                  clear hRB hRO
                  have hBR := hR.below
                  go_wp2_with fail
                  refine (zzplaces_any a1 n c1 ob oo o a2 np c2 b2 off2 A2 L C2 RB RO q pf w4 (hIO.later hBR) (hIP.later hBR) g hn hnp hLn).mono ?_
                  rintro e wq ⟨rfl, hbq, kn, hkn, hkn0, hknk⟩
                  have hbW : Below W.heap.size W wq := hBR.trans (hbq.mono hBR.size)
                  have hkb : W.heap.size ≤ w4.heap.size := hBR.size
                  obtain ⟨kb, ekb⟩ : ∃ kb, kb = w4.heap.size := ⟨_, rfl⟩
                  rw [← ekb] at hkn hkb
                  clear hR hBR hbq
                  obtain ⟨wd, ewd⟩ : ∃ wd : Nat, wd = (n + 63) / 64 := ⟨_, rfl⟩
                  have hw1 : n ≤ 64 * wd := by omega
                  have hw2 : wd ≤ 64 := by omega
                  have hwd : ((n : Int) + 63) / 64 = (wd : Int) := by omega
                  have hN1 : n * wd ≤ 262144 := Nat.le_trans (Nat.mul_le_mul hn hw2) (by omega)
                  have hN2 : (n : Int) * (wd : Int) = ((n * wd : Nat) : Int) := (Int.natCast_mul n wd).symm
                  have hN0 : 0 ≤ (n : Int) * (wd : Int) := by rw [hN2]; omega
                  have hN3 : (n : Int) * (wd : Int) ≤ 262144 := by rw [hN2]; omega
                  have hmk := run_make_row' (P := Try.prog) 39 40 (.int .u64 0) 8 Try.underlying39 Try.info40 rfl .i64 .i64 (n * wd) (by omega) (by omega)
                  rw [← hN2] at hmk
                  have f0 : wq.cell? ⟨kb, 0, none⟩ = some (.bool false) := by rw [hkn.cell (by omega), hkn0]
                  have hT := tab_start (n * wd) hbW hkn hkb
                  clear hN2 ewd hkn
                  subst ekb
                  go_upto_region 52 with fail
                  go_cut [19] from 192 to 194 (fun s19 wx => s19 = .int .i64 (wd : Nat) ∧ wq = wx)
                  case first =>
                    go_wp2_with fail
                    go_meet
                    go_light
                    exact ⟨congrArg (Value.int .i64) hwd, rfl⟩
                  case rest =>
                    obtain ⟨rfl, rfl⟩ := hcut
                    clear hwd f0
                    go_wp2
                    clear hmk
                    -- the ancestors
                    go_loopg [22] n (fun gh i wx => ∃ (k : Nat) (X : Nat → Nat), k ≤ n ∧ gh = n - k ∧ i = .int .i64 k ∧ Tab W wx n (n * wd) w4.heap.size wq.heap.size (wq.heap.size + 1) kn X (fun _ => 0) ∧ AncT n np L q pf wd k X)
                    case atStart => exact ⟨0, _, Nat.zero_le _, rfl, rfl, hT, ancT_start g⟩
                    case round =>
                      clear hT
                      obtain ⟨k, X, hk, rfl, rfl, hT, hA⟩ := hrel
                      by_cases hlt : k < n
                      · 
                        as_aux_lemma =>
                          obtain rfl := hIO.addr (by omega)
                          have hon := g.o_lt k hlt
                          have d1 : wr.cell? ⟨ob, oo + k, none⟩ = some (.int .i64 ((o k : Nat) : Int)) := cell_later hT.below (hIO.cell k hlt)
                          by_cases hop : o k < np
                          · obtain rfl := hIP.addr (by omega)
                            have hLk := hLn _ hop
                            have hR0 := ancR_start g hlt hA
                            by_cases hL0 : L (o k) = 0
                            · have d2 := cell_later hT.below (hIP.row _ hop)
                              have HL0 : Hid (L (o k) = 0) := hL0
                              have hL1 : ¬ (0 : Int) < (L (o k) : Int) := by omega
                              clear hL0
                              go_wp2
                              refine wp_loop_rounds 1 ?_
                              rw [rounds_succ]
                              go_wp2
                              go_roundg (n - (k + 1))
                              case measure => go_light; omega
                              case rel => go_light; exact ⟨k + 1, X, by omega, rfl, by go_num, hT, ancR_done g hlt hop (by rw [HL0.out]; exact hR0)⟩
                            · have hL1 : 0 < L (o k) := by omega
                              have d2 : wr.cell? ⟨b2, off2 + o k, none⟩ = some (.slice (some ⟨RB (o k), RO (o k), none⟩) (L (o k)) (C2 (o k))) := by
                                rw [← hIP.raddr _ hop hL1]; exact cell_later hT.below (hIP.row _ hop)
                              clear hL0
                              go_wp2
                              clear d1 d2
                              go_loopg [24] (L (o k)) (fun gh i wx => ∃ (j : Nat) (X : Nat → Nat), j ≤ L (o k) ∧ gh = L (o k) - j ∧ i = .int .i64 j ∧ Tab W wx n (n * wd) w4.heap.size wq.heap.size (wq.heap.size + 1) kn X (fun _ => 0) ∧ AncR n np L q pf wd k (o k) j X)
                              case atStart => exact ⟨0, _, Nat.zero_le _, rfl, rfl, hT, hR0⟩
                              case round =>
                                clear hT hA hR0
                                obtain ⟨j, X, hj, rfl, rfl, hT, hR⟩ := hrel
                                have d2 : wr.cell? ⟨b2, off2 + o k, none⟩ = some (.slice (some ⟨RB (o k), RO (o k), none⟩) (L (o k)) (C2 (o k))) := by
                                  rw [← hIP.raddr _ hop hL1]; exact cell_later hT.below (hIP.row _ hop)
                                by_cases hjl : j < L (o k)
                                · have d3 : wr.cell? ⟨RB (o k), RO (o k) + j, none⟩ = some (.int .i64 ((q (o k) j : Nat) : Int)) := cell_later hT.below (hIP.cell _ _ hop hjl)
                                  have hqn := g.q_lt _ _ hop hon hjl
                                  have hne : q (o k) j ≠ o k := fun e => by have := g.q_pos _ _ hop hon hjl; rw [e] at this; omega
                                  go_wp2
                                  clear d2 d3
                                  have hT0 := hT.congrA (orRow_zero X wd (o k) (q (o k) j)).symm
                                  go_loopg [26] wd (fun gh i wx => ∃ (m : Nat), m ≤ wd ∧ gh = wd - m ∧ i = .int .i64 m ∧ Tab W wx n (n * wd) w4.heap.size wq.heap.size (wq.heap.size + 1) kn (orRow X wd (o k) (q (o k) j) m) (fun _ => 0))
                                  case atStart => exact ⟨0, Nat.zero_le _, rfl, rfl, hT0⟩
                                  case round =>
                                    clear hT0
                                    obtain ⟨m, hm, rfl, rfl, hT2⟩ := hrel
                                    by_cases hmw : m < wd
                                    · 
                                      as_aux_lemma =>
                                        have i1 := idx_lt hon hmw
                                        have i2 := idx_lt hqn hmw
                                        have e1 : wr.cell? ⟨wq.heap.size, o k * wd + m, none⟩ = some (.int .u64 ((X (o k * wd + m) : Nat) : Int)) := by rw [hT2.anc.cell i1, orRow_here]
                                        have e2 : wr.cell? ⟨wq.heap.size, q (o k) j * wd + m, none⟩ = some (.int .u64 ((X (q (o k) j * wd + m) : Nat) : Int)) := by rw [hT2.anc.cell i2, orRow_there X hne (by omega) hmw]
                                        have e3 : wr.frozen? ⟨wq.heap.size, o k * wd + m, none⟩ = false := hT2.anc.frozen _
                                        have z1 : 0 ≤ ((o k : Nat) : Int) * (wd : Int) := by rw [← Int.natCast_mul]; omega
                                        have z2 : 0 ≤ ((q (o k) j : Nat) : Int) * (wd : Int) := by rw [← Int.natCast_mul]; omega
                                        have z3 : ((o k : Nat) : Int) * (wd : Int) + (m : Int) < ((n * wd : Nat) : Int) := by rw [← Int.natCast_mul]; omega
                                        have z4 : ((q (o k) j : Nat) : Int) * (wd : Int) + (m : Int) < ((n * wd : Nat) : Int) := by rw [← Int.natCast_mul]; omega
                                        go_wp2_with fail
                                        go_region
                                        all_goals go_wp2_with fail
                                        all_goals
                                          go_roundg (wd - (m + 1))
                                          case measure => go_light; omega
                                          case rel =>
                                            go_light
                                            refine ⟨m + 1, by omega, rfl, by go_num, (tab_anc hT2 (o k * wd + m) (X (o k * wd + m) ||| X (q (o k) j * wd + m)) (bits_or_u64_nat _ _ (hT.la _) (hT.la _)) (or_lt64 (hT.la _) (hT.la _)) (fun i => orRow_step X wd (o k) (q (o k) j) m i)).drew⟩
                                    · have e : wd = m := by omega
                                      subst e
                                      have hp64 : q (o k) j / 64 < wd := by omega
                                      have i1 := idx_lt hon hp64
                                      have e1 : wr.cell? ⟨wq.heap.size, o k * wd + q (o k) j / 64, none⟩ = some (.int .u64 ((orRow X wd (o k) (q (o k) j) wd (o k * wd + q (o k) j / 64) : Nat) : Int)) := hT2.anc.cell i1
                                      have e3 : wr.frozen? ⟨wq.heap.size, o k * wd + q (o k) j / 64, none⟩ = false := hT2.anc.frozen _
                                      have z1 : 0 ≤ ((o k : Nat) : Int) * (wd : Int) := by rw [← Int.natCast_mul]; omega
                                      have z3 : ((o k : Nat) : Int) * (wd : Int) + (q (o k) j : Int) / 64 < ((n * wd : Nat) : Int) := by rw [← Int.natCast_mul]; omega
                                      go_wp2
                                      go_roundg (L (o k) - (j + 1))
                                      case measure => go_light; omega
                                      case rel =>
                                        go_light
                                        exact ⟨j + 1, _, by omega, rfl, by go_num, tab_anc hT2 _ _ (or_pow (Nat.mod_lt _ (by omega)) (hT2.la _)) (or_lt64 (hT2.la _) (pow_lt64 (Nat.mod_lt _ (by omega)))) (setB_at _ _ _), ancR_step g hw1 hlt hop hjl hR⟩
                                · have e : L (o k) = j := by omega
                                  have HE : Hid (L (o k) = j) := e
                                  clear e
                                  go_wp2
                                  go_roundg (n - (k + 1))
                                  case measure => go_light; omega
                                  case rel => go_light; exact ⟨k + 1, X, by omega, rfl, by go_num, hT, ancR_done g hlt hop (by rw [HE.out]; exact hR)⟩
                          · go_wp2
                            go_roundg (n - (k + 1))
                            case measure => go_light; omega
                            case rel => go_light; exact ⟨k + 1, X, by omega, rfl, by go_num, hT, ancT_skip g hlt hop hA⟩
                      · have e : n = k := by omega
                        subst e
                        rename Nat → Nat => XA
                        go_wp2
                        -- the descendants
                        go_loopg [27] n (fun gh i wx => ∃ (k : Nat) (v : Int) (X : Nat → Nat), k ≤ n ∧ k = gh ∧ i = .int .i64 v ∧ v = (k : Int) - 1 ∧ Tab W wx n (n * wd) w4.heap.size wq.heap.size (wq.heap.size + 1) kn XA X ∧ DescT n np L q pf wd k X)
                        case atStart => exact ⟨n, _, _, Nat.le_refl _, rfl, rfl, rfl, hT, descT_start g⟩
                        case round =>
                          clear hT
                          obtain ⟨k, v, X, hk, rfl, rfl, hv, hT, hD⟩ := hrel
                          by_cases hk0 : k = 0
                          · subst hk0
                            have hv' : v = -1 := by omega
                            subst hv'
                            clear hv
                            as_aux_lemma =>
                              rename Nat → Nat => XD
                              rename World => w5
                              have hB5 : Below w.heap.size w w5 := hB.trans (hT.below.mono hB.size)
                              go_wp2
                              -- place after place
                              go_loopg [32] n (fun gh i wx => ∃ (k : Nat) (v : Int), k ≤ n ∧ gh = n - k ∧ i = .int .i64 v ∧ v = (k : Int) + 1 ∧ w5 = wx)
                              case atStart => exact ⟨0, _, Nat.zero_le _, rfl, rfl, rfl, rfl⟩
                              case round =>
                                obtain ⟨k, v, hk, rfl, rfl, hv, rfl⟩ := hrel
                                by_cases hlt : k < n
                                · obtain rfl := hIO.addr (by omega)
                                  by_cases hk0 : k = 0
                                  · 
                                    as_aux_lemma =>
                                      subst hk0
                                      have hv' : v = 1 := by omega
                                      subst hv'
                                      clear hv
                                      have hn1 : 1 ≤ n := hlt
                                      have hn1z : (1 : Int) ≤ (n : Int) := by omega
                                      have hon := g.o_lt 0 hlt
                                      have d1 : w5.cell? ⟨ob, oo, none⟩ = some (.int .i64 ((o 0 : Nat) : Int)) := cell_later hT.below (hIO.cell 0 hlt)
                                      go_wp2
                                      go_loopg [34, 35] n (fun gh s34 i wx => ∃ z : Nat, z ≤ n ∧ gh = n - z ∧ s34 = .bool true ∧ i = .int .i64 z ∧ w5 = wx ∧ ∀ z', z' < z → z' = o 0 ∨ has XD wd (o 0) z' = true)
                                      case atStart => exact ⟨0, Nat.zero_le _, rfl, rfl, rfl, rfl, fun z' h => by omega⟩
                                      case round =>
                                        obtain ⟨z, hz, rfl, rfl, rfl, rfl, hall⟩ := hrel
                                        have HALL : Hid (∀ z', z' < z → z' = o 0 ∨ has XD wd (o 0) z' = true) := hall
                                        clear hall
                                        by_cases hzn : z < n
                                        · by_cases hzy : z = o 0
                                          · have hzy' : ((z : Int) != ((o 0 : Nat) : Int)) = false := by simp; omega
                                            have HZ : Hid (z = o 0) := hzy
                                            clear hzy
                                            go_wp2
                                            go_roundg (n - (z + 1))
                                            case measure => go_light; omega
                                            case rel =>
                                              go_light
                                              refine ⟨z + 1, by omega, rfl, rfl, by go_num, rfl, fun z' h => ?_⟩
                                              by_cases e : z' = z
                                              · rw [e]; exact .inl HZ.out
                                              · exact HALL.out z' (by omega)
                                          · have hzy' : ((z : Int) != ((o 0 : Nat) : Int)) = true := by simp; omega
                                            go_wp2_with fail
                                            refine (hasBit_has _ n (o 0) wd z XD w5 hT.desc hN1 hw1 hT.ld hon hzn hn).mono ?_
                                            rintro e wx ⟨rfl, rfl⟩
                                            cases hb : has XD wd (o 0) z
                                            · have hk1 := kn_one_false g hD hknk hn1 hzn hzy hb
                                              have d5 : w5.cell? ⟨w4.heap.size, 1, none⟩ = some (.bool false) := by rw [hT.known.cell (by omega), hk1]
                                              clear hk1
                                              go_wp2
                                              go_roundg (n - 1)
                                              case measure => go_light; omega
                                              case rel => go_light; exact ⟨1, _, by omega, rfl, rfl, by omega, rfl⟩
                                            · go_wp2
                                              go_roundg (n - (z + 1))
                                              case measure => go_light; omega
                                              case rel =>
                                                go_light
                                                refine ⟨z + 1, by omega, rfl, rfl, by go_num, rfl, fun z' h => ?_⟩
                                                by_cases e : z' = z
                                                · rw [e]; exact .inr hb
                                                · exact HALL.out z' (by omega)
                                        · have hk1 := kn_one_true g hD hknk hn1 (fun z' h => HALL.out z' (by omega))
                                          have d5 : w5.cell? ⟨w4.heap.size, 1, none⟩ = some (.bool true) := by rw [hT.known.cell (by omega), hk1]
                                          clear hk1
                                          go_wp2
                                          go_roundg (n - 1)
                                          case measure => go_light; omega
                                          case rel => go_light; exact ⟨1, _, by omega, rfl, rfl, by omega, rfl⟩
                                  · 
                                    as_aux_lemma =>
                                      obtain ⟨j, rfl⟩ : ∃ j, k = j + 1 := ⟨k - 1, by omega⟩
                                      have hv' : v = (j : Int) + 2 := by omega
                                      subst hv'
                                      clear hv hk0
                                      have hn2 : j + 2 ≤ n := hlt
                                      have hn2z : (j : Int) + 2 ≤ (n : Int) := by omega
                                      have hxn := g.o_lt j (by omega)
                                      have hyn := g.o_lt (j + 1) (by omega)
                                      have d1 : w5.cell? ⟨ob, oo + (j + 1), none⟩ = some (.int .i64 ((o (j + 1) : Nat) : Int)) := cell_later hT.below (hIO.cell (j + 1) (by omega))
                                      have d2 : w5.cell? ⟨ob, oo + j, none⟩ = some (.int .i64 ((o j : Nat) : Int)) := cell_later hT.below (hIO.cell j (by omega))
                                      have hj1 : ((j : Int) + 2 == 1) = false := by simp; omega
                                      go_wp2_with fail
                                      refine (hasBit_has _ n (o (j + 1)) wd (o j) XA w5 hT.anc hN1 hw1 hT.la hyn hxn hn).mono ?_
                                      rintro e wx ⟨rfl, rfl⟩
                                      cases hb0 : has XA wd (o (j + 1)) (o j)
                                      · 
                                        have hk1 := kn_more_false0 g hA hknk hn2 hb0
                                        have d5 : w5.cell? ⟨w4.heap.size, j + 2, none⟩ = some (.bool false) := by rw [hT.known.cell (by omega), hk1]
                                        clear hk1
                                        go_wp2
                                        go_roundg (n - (j + 2))
                                        case measure => go_light; omega
                                        case rel => go_light; exact ⟨j + 2, _, by omega, rfl, rfl, by omega, rfl⟩
                                      · go_wp2
                                        go_loopg [34, 37] n (fun gh s34 i wx => ∃ z : Nat, z ≤ n ∧ gh = n - z ∧ s34 = .bool true ∧ i = .int .i64 z ∧ w5 = wx ∧ ∀ z', z' < z → z' = o j ∨ z' = o (j + 1) ∨ has XA wd (o j) z' = true ∨ has XD wd (o (j + 1)) z' = true)
                                        case atStart => exact ⟨0, Nat.zero_le _, rfl, rfl, rfl, rfl, fun z' h => by omega⟩
                                        case round =>
                                          obtain ⟨z, hz, rfl, rfl, rfl, rfl, hall⟩ := hrel
                                          have HALL : Hid (∀ z', z' < z → z' = o j ∨ z' = o (j + 1) ∨ has XA wd (o j) z' = true ∨ has XD wd (o (j + 1)) z' = true) := hall
                                          clear hall
                                          by_cases hzn : z < n
                                          · by_cases hzx : z = o j
                                            · have hzx' : ((z : Int) != ((o j : Nat) : Int)) = false := by simp; omega
                                              have HZ : Hid (z = o j) := hzx
                                              clear hzx
                                              go_wp2
                                              go_roundg (n - (z + 1))
                                              case measure => go_light; omega
                                              case rel =>
                                                go_light
                                                refine ⟨z + 1, by omega, rfl, rfl, by go_num, rfl, fun z' h => ?_⟩
                                                by_cases e : z' = z
                                                · rw [e]; exact .inl HZ.out
                                                · exact HALL.out z' (by omega)
                                            · have hzx' : ((z : Int) != ((o j : Nat) : Int)) = true := by simp; omega
                                              by_cases hzy : z = o (j + 1)
                                              · have hzy' : ((z : Int) != ((o (j + 1) : Nat) : Int)) = false := by simp; omega
                                                have HZ : Hid (z = o (j + 1)) := hzy
                                                clear hzy
                                                go_wp2
                                                go_roundg (n - (z + 1))
                                                case measure => go_light; omega
                                                case rel =>
                                                  go_light
                                                  refine ⟨z + 1, by omega, rfl, rfl, by go_num, rfl, fun z' h => ?_⟩
                                                  by_cases e : z' = z
                                                  · rw [e]; exact .inr (.inl HZ.out)
                                                  · exact HALL.out z' (by omega)
                                              · 
                                                as_aux_lemma =>
                                                  have hzy' : ((z : Int) != ((o (j + 1) : Nat) : Int)) = true := by simp; omega
                                                  go_wp2_with fail
                                                  refine (hasBit_has _ n (o j) wd z XA w5 hT.anc hN1 hw1 hT.la hxn hzn hn).mono ?_
                                                  rintro e wx ⟨rfl, rfl⟩
                                                  cases hb1 : has XA wd (o j) z
                                                  · go_wp2_with fail
                                                    refine (hasBit_has _ n (o (j + 1)) wd z XD w5 hT.desc hN1 hw1 hT.ld hyn hzn hn).mono ?_
                                                    rintro e wx ⟨rfl, rfl⟩
                                                    cases hb2 : has XD wd (o (j + 1)) z
                                                    · have hk1 := kn_more_false g hA hD hknk hn2 hzn hzx hzy hb1 hb2
                                                      have d5 : w5.cell? ⟨w4.heap.size, j + 2, none⟩ = some (.bool false) := by rw [hT.known.cell (by omega), hk1]
                                                      clear hk1
                                                      go_wp2
                                                      go_roundg (n - (j + 2))
                                                      case measure => go_light; omega
                                                      case rel => go_light; exact ⟨j + 2, _, by omega, rfl, rfl, by omega, rfl⟩
                                                    · go_wp2
                                                      go_roundg (n - (z + 1))
                                                      case measure => go_light; omega
                                                      case rel =>
                                                        go_light
                                                        refine ⟨z + 1, by omega, rfl, rfl, by go_num, rfl, fun z' h => ?_⟩
                                                        by_cases e : z' = z
                                                        · rw [e]; exact .inr (.inr (.inr hb2))
                                                        · exact HALL.out z' (by omega)
                                                  · go_wp2
                                                    go_roundg (n - (z + 1))
                                                    case measure => go_light; omega
                                                    case rel =>
                                                      go_light
                                                      refine ⟨z + 1, by omega, rfl, rfl, by go_num, rfl, fun z' h => ?_⟩
                                                      by_cases e : z' = z
                                                      · rw [e]; exact .inr (.inr (.inl hb1))
                                                      · exact HALL.out z' (by omega)
                                          · have hk1 := kn_more_true g hA hD hknk hn2 hb0 (fun z' h => HALL.out z' (by omega))
                                            have d5 : w5.cell? ⟨w4.heap.size, j + 2, none⟩ = some (.bool true) := by rw [hT.known.cell (by omega), hk1]
                                            clear hk1
                                            go_wp2
                                            go_roundg (n - (j + 2))
                                            case measure => go_light; omega
                                            case rel => go_light; exact ⟨j + 2, _, by omega, rfl, rfl, by omega, rfl⟩
                                · go_wp2
                                  go_ret
                                  exact ⟨rfl, hB5⟩
                          · 
                            as_aux_lemma =>
                              obtain ⟨k, rfl⟩ : ∃ j, k = j + 1 := ⟨k - 1, by omega⟩
                              have hv' : v = (k : Int) := by omega
                              subst hv'
                              clear hv hk0
                              have hlt : k < n := by omega
                              obtain rfl := hIO.addr (by omega)
                              have hon := g.o_lt k hlt
                              have d1 : wr.cell? ⟨ob, oo + k, none⟩ = some (.int .i64 ((o k : Nat) : Int)) := cell_later hT.below (hIO.cell k hlt)
                              by_cases hop : o k < np
                              · obtain rfl := hIP.addr (by omega)
                                have hLk := hLn _ hop
                                have hR0 : DescR n np L q pf wd k (o k) 0 X := descR_start hD
                                by_cases hL0 : L (o k) = 0
                                · have d2 := cell_later hT.below (hIP.row _ hop)
                                  have HL0 : Hid (L (o k) = 0) := hL0
                                  have hL1 : ¬ (0 : Int) < (L (o k) : Int) := by omega
                                  clear hL0
                                  go_wp2
                                  refine wp_loop_rounds 1 ?_
                                  rw [rounds_succ]
                                  go_wp2
                                  go_roundg k
                                  case measure => go_light; omega
                                  case rel => go_light; exact ⟨k, _, X, by omega, rfl, rfl, rfl, hT, descR_done g hlt hop (by rw [HL0.out]; exact hR0)⟩
                                · have hL1 : 0 < L (o k) := by omega
                                  have d2 : wr.cell? ⟨b2, off2 + o k, none⟩ = some (.slice (some ⟨RB (o k), RO (o k), none⟩) (L (o k)) (C2 (o k))) := by
                                    rw [← hIP.raddr _ hop hL1]; exact cell_later hT.below (hIP.row _ hop)
                                  clear hL0
                                  go_wp2
                                  clear d1 d2
                                  go_loopg [29] (L (o k)) (fun gh i wx => ∃ (j : Nat) (X : Nat → Nat), j ≤ L (o k) ∧ gh = L (o k) - j ∧ i = .int .i64 j ∧ Tab W wx n (n * wd) w4.heap.size wq.heap.size (wq.heap.size + 1) kn XA X ∧ DescR n np L q pf wd k (o k) j X)
                                  case atStart => exact ⟨0, _, Nat.zero_le _, rfl, rfl, hT, hR0⟩
                                  case round =>
                                    clear hT hD hR0
                                    obtain ⟨j, X, hj, rfl, rfl, hT, hR⟩ := hrel
                                    have d2 : wr.cell? ⟨b2, off2 + o k, none⟩ = some (.slice (some ⟨RB (o k), RO (o k), none⟩) (L (o k)) (C2 (o k))) := by
                                      rw [← hIP.raddr _ hop hL1]; exact cell_later hT.below (hIP.row _ hop)
                                    by_cases hjl : j < L (o k)
                                    · have d3 : wr.cell? ⟨RB (o k), RO (o k) + j, none⟩ = some (.int .i64 ((q (o k) j : Nat) : Int)) := cell_later hT.below (hIP.cell _ _ hop hjl)
                                      have hqn := g.q_lt _ _ hop hon hjl
                                      have hne : o k ≠ q (o k) j := fun e => by have := g.q_pos _ _ hop hon hjl; rw [← e] at this; omega
                                      go_wp2
                                      clear d2 d3
                                      have hT0 := hT.congrD (orRow_zero X wd (q (o k) j) (o k)).symm
                                      go_loopg [31] wd (fun gh i wx => ∃ (m : Nat), m ≤ wd ∧ gh = wd - m ∧ i = .int .i64 m ∧ Tab W wx n (n * wd) w4.heap.size wq.heap.size (wq.heap.size + 1) kn XA (orRow X wd (q (o k) j) (o k) m))
                                      case atStart => exact ⟨0, Nat.zero_le _, rfl, rfl, hT0⟩
                                      case round =>
                                        clear hT0
                                        obtain ⟨m, hm, rfl, rfl, hT2⟩ := hrel
                                        by_cases hmw : m < wd
                                        · have i1 := idx_lt hon hmw
                                          have i2 := idx_lt hqn hmw
                                          have e1 : wr.cell? ⟨wq.heap.size + 1, q (o k) j * wd + m, none⟩ = some (.int .u64 ((X (q (o k) j * wd + m) : Nat) : Int)) := by rw [hT2.desc.cell i2, orRow_here]
                                          have e2 : wr.cell? ⟨wq.heap.size + 1, o k * wd + m, none⟩ = some (.int .u64 ((X (o k * wd + m) : Nat) : Int)) := by rw [hT2.desc.cell i1, orRow_there X hne (by omega) hmw]
                                          have e3 : wr.frozen? ⟨wq.heap.size + 1, q (o k) j * wd + m, none⟩ = false := hT2.desc.frozen _
                                          have z1 : 0 ≤ ((o k : Nat) : Int) * (wd : Int) := by rw [← Int.natCast_mul]; omega
                                          have z2 : 0 ≤ ((q (o k) j : Nat) : Int) * (wd : Int) := by rw [← Int.natCast_mul]; omega
                                          have z3 : ((o k : Nat) : Int) * (wd : Int) + (m : Int) < ((n * wd : Nat) : Int) := by rw [← Int.natCast_mul]; omega
                                          have z4 : ((q (o k) j : Nat) : Int) * (wd : Int) + (m : Int) < ((n * wd : Nat) : Int) := by rw [← Int.natCast_mul]; omega
                                          go_wp2_with fail
                                          go_region
                                          all_goals go_wp2_with fail
                                          all_goals
                                            go_roundg (wd - (m + 1))
                                            case measure => go_light; omega
                                            case rel =>
                                              go_light
                                              refine ⟨m + 1, by omega, rfl, by go_num, (tab_desc hT2 (q (o k) j * wd + m) (X (q (o k) j * wd + m) ||| X (o k * wd + m)) (bits_or_u64_nat _ _ (hT.ld _) (hT.ld _)) (or_lt64 (hT.ld _) (hT.ld _)) (fun i => orRow_step X wd (q (o k) j) (o k) m i)).drew⟩
                                        · have e : wd = m := by omega
                                          subst e
                                          have hp64 : o k / 64 < wd := by omega
                                          have i1 := idx_lt hqn hp64
                                          have e1 : wr.cell? ⟨wq.heap.size + 1, q (o k) j * wd + o k / 64, none⟩ = some (.int .u64 ((orRow X wd (q (o k) j) (o k) wd (q (o k) j * wd + o k / 64) : Nat) : Int)) := hT2.desc.cell i1
                                          have e3 : wr.frozen? ⟨wq.heap.size + 1, q (o k) j * wd + o k / 64, none⟩ = false := hT2.desc.frozen _
                                          have z1 : 0 ≤ ((q (o k) j : Nat) : Int) * (wd : Int) := by rw [← Int.natCast_mul]; omega
                                          have z3 : ((q (o k) j : Nat) : Int) * (wd : Int) + (o k : Int) / 64 < ((n * wd : Nat) : Int) := by rw [← Int.natCast_mul]; omega
                                          go_wp2
                                          go_roundg (L (o k) - (j + 1))
                                          case measure => go_light; omega
                                          case rel =>
                                            go_light
                                            exact ⟨j + 1, _, by omega, rfl, by go_num, tab_desc hT2 _ _ (or_pow (Nat.mod_lt _ (by omega)) (hT2.ld _)) (or_lt64 (hT2.ld _) (pow_lt64 (Nat.mod_lt _ (by omega)))) (setB_at _ _ _), descR_step g hw1 hlt hop hjl hR⟩
                                    · have e : L (o k) = j := by omega
                                      have HE : Hid (L (o k) = j) := e
                                      clear e
                                      go_wp2
                                      go_roundg k
                                      case measure => go_light; omega
                                      case rel => go_light; exact ⟨k, _, X, by omega, rfl, rfl, rfl, hT, descR_done g hlt hop (by rw [HE.out]; exact hR)⟩
                              · go_wp2
                                go_roundg k
                                case measure => go_light; omega
                                case rel => go_light; exact ⟨k, _, X, by omega, rfl, rfl, rfl, hT, descT_skip g hlt hop hD⟩
        · -- no place is known
          as_aux_lemma =>
            go_wp2_with fail
            refine (zzcyclic_any _ _ _ _ _ _ _ hn).mono ?_
            rintro e w3 ⟨rfl, hb3, hr3⟩
            have hB3 : Below w.heap.size w w3 := hB.trans (hb3.mono hB.size)
            clear hS hN hB hb3
            go_wp2
            go_loopg [11] (n + 1) (fun gh i wr => ∃ k : Nat, k ≤ n + 1 ∧ gh = n + 1 - k ∧ i = .int .i64 k ∧ w3 = wr)
            case atStart => exact ⟨0, Nat.zero_le _, rfl, rfl, rfl⟩
            case round =>
              obtain ⟨k, hk, rfl, rfl, rfl⟩ := hrel
              by_cases hlt : k < n + 1
              · have c1 : w3.cell? ⟨W.heap.size, k, none⟩ = some (.bool false) := hr3.cell hlt
                go_wp2
                go_roundg (n + 1 - (k + 1))
                case measure => go_light; omega
                case rel => go_light; exact ⟨k + 1, by omega, rfl, by go_num, rfl⟩
              · go_wp2
                go_ret
                exact ⟨rfl, hB3⟩
end Go.Proofs.Qxb6605219a
