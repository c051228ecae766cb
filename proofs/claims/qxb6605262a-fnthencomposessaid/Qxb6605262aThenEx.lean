import Derived.Test.Qxb6605262aWins
import Derived.Test.Qxb6605262aBuild
namespace Go.Proofs.Qxb6605262a
open Go.RowKit
set_option linter.unusedVariables false

theorem below_new (w : World) (o : Obj) : Below w.heap.size w (w.alloc o) := (Below.refl _ _).alloc (Nat.le_refl _) _

set_option maxHeartbeats 1600000 in
set_option maxRecDepth 100000 in
theorem exact_whole (e1 r1 e2 r2 : Bool) (hw : (e2 || r2) = true) (nc : Int) (a1 : Option Addr) (n1 c1 : Nat) (A1 : Nat → Asg) (a2 : Option Addr) (n2 c2 : Nat) (A2 : Nat → Asg) (w : World) (h1 : SlA w a1 n1 c1 A1) (h2 : SlA w a2 n2 c2 A2) (hn1 : n1 ≤ 9223372036854775807) (hn2 : n2 ≤ 9223372036854775807) :
    Calls Try.prog 5 #[.bool e1, .bool r1, .slice a1 n1 c1, .bool e2, .bool r2, .slice a2 n2 c2, .int .i64 nc] w fun e w' => e = .returned (.bool true) ∧ Below w.heap.size w w' := by
  go_enter Try.func5, Try.ntmps5
  go_wp2_with fail
  refine (zz16_any e1 r1 e2 r2 nc a1 n1 c1 A1 a2 n2 c2 A2 w h1 h2 hn1 hn2).mono ?_
  rintro e w' ⟨rfl | rfl, rfl⟩
  case inr => go_wp2; go_ret; exact ⟨rfl, Below.refl _ _⟩
  go_wp2_with fail
  refine (bytes_any a1 n1 c1 A1 w h1 hn1).mono ?_
  rintro e w' ⟨⟨z1, rfl, hz1, hy1⟩, rfl⟩
  go_wp2_with fail
  refine (bytes_any a2 n2 c2 A2 w h2 hn2).mono ?_
  rintro e w' ⟨⟨z2, rfl, hz2, hy2⟩, rfl⟩
  by_cases hbig : ((z1 : Int) + (z2 : Int)) > 1048576
  · clear hy1 hy2
    go_wp2; go_ret; exact ⟨rfl, Below.refl _ _⟩
  have hm1 : n1 ≤ 1048576 := by have := hy1 (by omega); omega
  have hm2 : n2 ≤ 1048576 := by have := hy2 (by omega); omega
  clear hy1 hy2
  by_cases hmany : ((n1 : Int) + (n2 : Int)) > 4096
  · go_wp2; go_ret; exact ⟨rfl, Below.refl _ _⟩
  cases e2 <;> cases r2
  · simp at hw
  all_goals
    go_wp2_with fail
    refine (cloneA_any a1 n1 c1 A1 w h1 hm1).mono ?_
    rintro e w1 ⟨b1, d1, rfl, hs1, hb1⟩
    have hs2 := h2.later hb1
    go_wp2_with fail
    refine (cloneA_any a2 n2 c2 A2 w1 hs2 hm2).mono ?_
    rintro e w2 ⟨b2, d2, rfl, ht2, hb2⟩
    have ht1 := hs1.later hb2
    have hB2 := hb1.trans (hb2.mono hb1.size)
    clear hs1 hs2 hb1 hb2 h1 h2
    go_wp2_with fail
    refine (build_any e1 r1 b1 n1 d1 A1 w2 ht1 hm1).mono ?_
    rintro e w3 ⟨b3, d3, rfl, hu3, hb3, _⟩
    have hu2 := ht2.later hb3
    have hB3 := hB2.trans (hb3.mono hB2.size)
    clear ht1 ht2 hb3 hB2
    go_wp2_with fail
    refine (build_any _ _ b2 n2 d2 A2 w3 hu2 hm2).mono ?_
    rintro e w4 ⟨b4, d4, rfl, hv4, hb4, _⟩
    have hv2 := hu2.later hb4
    have hB4 := hB3.trans (hb4.mono hB3.size)
    clear hu2 hb4 hB3 hu3
    go_wp2_with fail
    refine (zzthen_whole e1 r1 b3 n1 d3 _ _ b4 n2 d4 nc w4 rfl).mono ?_
    rintro e w5 ⟨rfl, hb5⟩
    have hx2 := hv2.later hb5
    have hx4 := hv4.later hb5
    have hB5 := hB4.trans (hb5.mono hB4.size)
    clear hv2 hv4 hb5 hB4
    go_wp2_with fail
    refine (read_any _ _ b4 n2 d4 A2 _ (hx4.later (below_new _ _)) hm2).mono ?_
    rintro e w6 ⟨b6, rfl, hy6, hb6⟩
    have hy2 := (hx2.later (below_new _ _)).later hb6
    have hB6 := (hB5.trans ((below_new _ _).mono hB5.size)).trans (hb6.mono (by have := hB5.size; simp; omega))
    clear hx2 hx4 hb6 hB5
    go_wp2_with fail
    refine (same_any b6 n2 n2 b2 d2 A2 A2 w6 hy6 hy2 hm2 (fun i _ => rfl)).mono ?_
    rintro e w7 ⟨rfl, hb7⟩
    have hB7 := hB6.trans (hb7.mono hB6.size)
    clear hy6 hy2 hb7 hB6
    go_wp2
    go_ret
    exact ⟨rfl, hB7⟩

set_option maxHeartbeats 1600000 in
set_option maxRecDepth 100000 in
theorem exact_parts (e1 r1 : Bool) (nc : Int) (a1 : Option Addr) (n1 c1 : Nat) (A1 : Nat → Asg) (a2 : Option Addr) (n2 c2 : Nat) (A2 : Nat → Asg) (w : World) (h1 : SlA w a1 n1 c1 A1) (h2 : SlA w a2 n2 c2 A2) (hn1 : n1 ≤ 9223372036854775807) (hn2 : n2 ≤ 9223372036854775807) :
    Calls Try.prog 5 #[.bool e1, .bool r1, .slice a1 n1 c1, .bool false, .bool false, .slice a2 n2 c2, .int .i64 nc] w fun e w' => e = .returned (.bool true) ∧ Below w.heap.size w w' := by
  go_enter Try.func5, Try.ntmps5
  go_wp2_with fail
  refine (zz16_any e1 r1 false false nc a1 n1 c1 A1 a2 n2 c2 A2 w h1 h2 hn1 hn2).mono ?_
  rintro e w' ⟨rfl | rfl, rfl⟩
  case inr => go_wp2; go_ret; exact ⟨rfl, Below.refl _ _⟩
  go_wp2_with fail
  refine (bytes_any a1 n1 c1 A1 w h1 hn1).mono ?_
  rintro e w' ⟨⟨z1, rfl, hz1, hy1⟩, rfl⟩
  go_wp2_with fail
  refine (bytes_any a2 n2 c2 A2 w h2 hn2).mono ?_
  rintro e w' ⟨⟨z2, rfl, hz2, hy2⟩, rfl⟩
  by_cases hbig : ((z1 : Int) + (z2 : Int)) > 1048576
  · clear hy1 hy2
    go_wp2; go_ret; exact ⟨rfl, Below.refl _ _⟩
  have hm1 : n1 ≤ 1048576 := by have := hy1 (by omega); omega
  have hm2 : n2 ≤ 1048576 := by have := hy2 (by omega); omega
  clear hy1 hy2
  by_cases hmany : ((n1 : Int) + (n2 : Int)) > 4096
  · go_wp2; go_ret; exact ⟨rfl, Below.refl _ _⟩
  by_cases hneg : nc < 0
  · go_wp2; go_ret; exact ⟨rfl, Below.refl _ _⟩
  by_cases hwide : nc > 65536
  · go_wp2; go_ret; exact ⟨rfl, Below.refl _ _⟩
  obtain ⟨m, rfl⟩ : ∃ m : Nat, nc = (m : Int) := ⟨nc.toNat, by omega⟩
  have hm : m ≤ 65536 := by omega
  go_wp2_with fail
  refine (colsIn_any a1 n1 c1 A1 m w h1 hm1).mono ?_
  rintro e w' ⟨rfl | ⟨rfl, hc1⟩, rfl⟩
  · go_wp2; go_ret; exact ⟨rfl, Below.refl _ _⟩
  go_wp2_with fail
  refine (colsIn_any a2 n2 c2 A2 m w h2 hm2).mono ?_
  rintro e w' ⟨rfl | ⟨rfl, hc2⟩, rfl⟩
  · clear hc1
    go_wp2; go_ret; exact ⟨rfl, Below.refl _ _⟩
  have HC1 : Hid (colsB A1 n1 m) := hc1
  have HC2 : Hid (colsB A2 n2 m) := hc2
  clear hc1 hc2
  obtain ⟨d1w, hdw⟩ : ∃ d1w, (e1 || r1) = d1w := ⟨_, rfl⟩
  have HD : Hid ((e1 || r1) = d1w) := hdw
  go_wp2_with fail
  refine (cloneA_any a1 n1 c1 A1 w h1 hm1).mono ?_
  rintro e w1 ⟨b1, d1, rfl, hs1, hb1⟩
  have hs2 := h2.later hb1
  go_wp2_with fail
  refine (cloneA_any a2 n2 c2 A2 w1 hs2 hm2).mono ?_
  rintro e w2 ⟨b2, d2, rfl, ht2, hb2⟩
  have ht1 := hs1.later hb2
  have hB2 := hb1.trans (hb2.mono hb1.size)
  clear hs1 hs2 hb1 hb2 h1 h2
  go_wp2_with fail
  refine (build_any e1 r1 b1 n1 d1 A1 w2 ht1 hm1).mono ?_
  rintro e w3 ⟨b3, d3, rfl, hu3, hb3, _⟩
  have hu2 := ht2.later hb3
  have hu1 := ht1.later hb3
  have hB3 := hB2.trans (hb3.mono hB2.size)
  clear ht1 ht2 hb3 hB2
  go_wp2_with fail
  refine (build_any _ _ b2 n2 d2 A2 w3 hu2 hm2).mono ?_
  rintro e w4 ⟨b4, d4, rfl, hv4, hb4, _⟩
  have hv2 := hu2.later hb4
  have hv1 := hu1.later hb4
  have hv3 := hu3.later hb4
  have hB4 := hB3.trans (hb4.mono hB3.size)
  clear hu2 hb4 hB3 hu3 hu1
  go_wp2_with fail
  refine (zzthen_any d1w e1 r1 HD.out b3 n1 d3 A1 b4 n2 d4 A2 m w4 hv3 hv4 hm hm1 hm2 HC1.out HC2.out).mono ?_
  rintro e w5 ⟨b5, d5, rfl, hx5, hb5⟩
  have hx2 := hv2.later hb5
  have hx1 := hv1.later hb5
  have hB5 := hB4.trans (hb5.mono hB4.size)
  clear hv2 hv4 hb5 hB4 hv1 hv3
  obtain ⟨L, hL⟩ : ∃ L, L = thenL d1w A1 n1 A2 n2 m := ⟨_, rfl⟩
  rw [← hL] at hx5 ⊢
  have HL : Hid (L = thenL d1w A1 n1 A2 n2 m) := hL
  have hLm : L.length ≤ 1048576 := by
    rw [hL]; unfold thenL
    cases d1w
    · have := keepS_len (setF (cat A1 n1 A2) (n1 + n2)) (valF (cat A1 n1 A2) (n1 + n2)) m
      simp; omega
    · have := keepN_len (valF (cat A1 n1 A2) (n1 + n2)) m
      simp; omega
  clear hL
  go_wp2_with fail
  refine (read_any _ _ b5 L.length d5 _ _ (hx5.later (below_new _ _)) hLm).mono ?_
  rintro e w6 ⟨b6, rfl, hy6, hb6⟩
  have hy2 := (hx2.later (below_new _ _)).later hb6
  have hy1 := (hx1.later (below_new _ _)).later hb6
  have hB6 := (hB5.trans ((below_new _ _).mono hB5.size)).trans (hb6.mono (by have := hB5.size; simp; omega))
  clear hx2 hx5 hb6 hB5 hx1
  cases e1 <;> (try cases r1) <;> (simp at hdw; subst hdw)
  all_goals
    go_wp2_with fail
    refine (wins_any _ b1 n1 d1 A1 b2 n2 d2 A2 m w6 hy1 hy2 hm hm1 hm2 HC1.out HC2.out).mono ?_
    rintro e w7 ⟨b7, d7, L7, rfl, hz7, hb7, hL7⟩
    have hz6 := hy6.later hb7
    have hB7 := hB6.trans (hb7.mono hB6.size)
    have hLL : L7 = L := by rw [hL7, HL.out]
    subst hLL
    clear hy6 hy1 hy2 hb7 hB6 hL7
    go_wp2_with fail
    refine (same_any b6 L7.length L7.length b7 d7 _ _ w7 hz6 hz7 hLm (fun i _ => rfl)).mono ?_
    rintro e w8 ⟨rfl, hb8⟩
    have hB8 := hB7.trans (hb8.mono hB7.size)
    clear hz6 hz7 hb8 hB7
    go_wp2
    go_ret
    exact ⟨rfl, hB8⟩
end Go.Proofs.Qxb6605262a
