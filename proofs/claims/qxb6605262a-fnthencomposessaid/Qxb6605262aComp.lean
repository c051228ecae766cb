import Derived.Test.Qxb6605262aApply
namespace Go.Proofs.Qxb6605262a
open Go.RowKit
set_option linter.unusedVariables false

set_option maxHeartbeats 1600000 in
set_option maxRecDepth 100000 in
theorem zz25_any (x1 x2 x3 x4 : Bool) (nc : Int) (a1 : Option Addr) (n1 c1 : Nat) (A1 : Nat → Asg) (a2 : Option Addr) (n2 c2 : Nat) (A2 : Nat → Asg) (w : World) (ex : Bool) (a3 : Option Addr) (n3 c3 : Nat) (A3 : Nat → Val) (h3 : SlC w a3 n3 c3 A3) (h1 : SlA w a1 n1 c1 A1) (h2 : SlA w a2 n2 c2 A2) (hn1 : n1 ≤ 9223372036854775807) (hn2 : n2 ≤ 9223372036854775807) (hn3 : n3 ≤ 9223372036854775807) :
    Calls Try.prog 25 #[.bool x1, .bool x2, .slice a1 n1 c1, .bool x3, .bool x4, .slice a2 n2 c2, (.int .i64 nc), .bool ex, .slice a3 n3 c3] w fun e w' => (e = .returned (.bool true) ∨ e = .returned (.bool false)) ∧ w = w' := by
  obtain ⟨p1, o1, ha, hc1⟩ := h1.open
  obtain ⟨p2, o2, hb, hc2⟩ := h2.open
  obtain ⟨p3, o3, hd, hc3⟩ := h3.open
  clear h1 h2 h3
  go_enter Try.func25, Try.ntmps25
  by_cases hbig : (n1 : Int) > 1048576
  · go_wp2
    go_ret; first | exact ⟨.inl rfl, rfl⟩ | exact ⟨.inr rfl, rfl⟩
  · go_wp2
    go_loopg [19, 20] n1 (fun gh s i wr => ∃ k z : Nat, k ≤ n1 ∧ gh = n1 - k ∧ s = .int .i64 (z : Nat) ∧ i = .int .i64 (k : Nat) ∧ w = wr ∧ z ≤ 1048576)
    case atStart => exact ⟨0, n1, Nat.zero_le _, rfl, by go_num, rfl, rfl, by omega⟩
    case round =>
      obtain ⟨k, z, hk, rfl, rfl, rfl, rfl, hz⟩ := hrel
      by_cases hlt : k < n1
      · obtain rfl := ha (by omega)
        obtain ⟨e0, e1, e2, e3⟩ := hc1 k hlt
        have hkz : (k : Int) < (n1 : Int) := by omega
        obtain ⟨q, hq⟩ : ∃ q, q = (A1 k).v.s.size := ⟨_, rfl⟩
        by_cases hs : (((A1 k).v.s.size : Nat) : Int) > 1048576
        · go_wp2
          go_ret; first | exact ⟨.inl rfl, rfl⟩ | exact ⟨.inr rfl, rfl⟩
        · by_cases hs2 : ((z : Int) + (((A1 k).v.s.size : Nat) : Int)) > 1048576
          · go_wp2
            go_ret; first | exact ⟨.inl rfl, rfl⟩ | exact ⟨.inr rfl, rfl⟩
          · go_wp2
            go_roundg (n1 - (k + 1))
            case measure => go_light; omega
            case rel => go_light; exact ⟨k + 1, z + (A1 k).v.s.size, by omega, rfl, by go_num, by go_num, rfl, by omega⟩
      · have hkz : ¬ (k : Int) < (n1 : Int) := by omega
        by_cases hbig2 : (n2 : Int) > 1048576
        · go_wp2
          go_ret; first | exact ⟨.inl rfl, rfl⟩ | exact ⟨.inr rfl, rfl⟩
        · by_cases hbig3 : ((z : Int) + (n2 : Int)) > 1048576
          · go_wp2
            go_ret; first | exact ⟨.inl rfl, rfl⟩ | exact ⟨.inr rfl, rfl⟩
          · go_wp2
            go_loopg [19, 21] n2 (fun gh s i wr => ∃ k z : Nat, k ≤ n2 ∧ gh = n2 - k ∧ s = .int .i64 (z : Nat) ∧ i = .int .i64 (k : Nat) ∧ w = wr ∧ z ≤ 1048576)
            case atStart => exact ⟨0, z + n2, Nat.zero_le _, rfl, by go_num, rfl, rfl, by omega⟩
            case round =>
              obtain ⟨j, y, hj, rfl, rfl, rfl, rfl, hy⟩ := hrel
              by_cases hlt2 : j < n2
              · obtain rfl := hb (by omega)
                obtain ⟨e0, e1, e2, e3⟩ := hc2 j hlt2
                have hjz : (j : Int) < (n2 : Int) := by omega
                by_cases hs : (((A2 j).v.s.size : Nat) : Int) > 1048576
                · go_wp2
                  go_ret; first | exact ⟨.inl rfl, rfl⟩ | exact ⟨.inr rfl, rfl⟩
                · by_cases hs2 : ((y : Int) + (((A2 j).v.s.size : Nat) : Int)) > 1048576
                  · go_wp2
                    go_ret; first | exact ⟨.inl rfl, rfl⟩ | exact ⟨.inr rfl, rfl⟩
                  · go_wp2
                    go_roundg (n2 - (j + 1))
                    case measure => go_light; omega
                    case rel => go_light; exact ⟨j + 1, y + (A2 j).v.s.size, by omega, rfl, by go_num, by go_num, rfl, by omega⟩
              · have hjz : ¬ (j : Int) < (n2 : Int) := by omega
                by_cases hbig4 : (n3 : Int) > 1048576
                · go_wp2
                  go_ret; first | exact ⟨.inl rfl, rfl⟩ | exact ⟨.inr rfl, rfl⟩
                · by_cases hbig5 : ((y : Int) + (n3 : Int)) > 1048576
                  · go_wp2
                    go_ret; first | exact ⟨.inl rfl, rfl⟩ | exact ⟨.inr rfl, rfl⟩
                  · go_wp2
                    go_loopg [19, 22] n3 (fun gh s i wr => ∃ k z : Nat, k ≤ n3 ∧ gh = n3 - k ∧ s = .int .i64 (z : Nat) ∧ i = .int .i64 (k : Nat) ∧ w = wr ∧ z ≤ 1048576)
                    case atStart => exact ⟨0, y + n3, Nat.zero_le _, rfl, by go_num, rfl, rfl, by omega⟩
                    case round =>
                      obtain ⟨l, x, hl, rfl, rfl, rfl, rfl, hx⟩ := hrel
                      by_cases hlt3 : l < n3
                      · obtain rfl := hd (by omega)
                        obtain ⟨e0, e1, e2⟩ := hc3 l hlt3
                        have hlz : (l : Int) < (n3 : Int) := by omega
                        by_cases hs : (((A3 l).s.size : Nat) : Int) > 1048576
                        · go_wp2
                          go_ret; first | exact ⟨.inl rfl, rfl⟩ | exact ⟨.inr rfl, rfl⟩
                        · by_cases hs2 : ((x : Int) + (((A3 l).s.size : Nat) : Int)) > 1048576
                          · go_wp2
                            go_ret; first | exact ⟨.inl rfl, rfl⟩ | exact ⟨.inr rfl, rfl⟩
                          · go_wp2
                            go_roundg (n3 - (l + 1))
                            case measure => go_light; omega
                            case rel => go_light; exact ⟨l + 1, x + (A3 l).s.size, by omega, rfl, by go_num, by go_num, rfl, by omega⟩
                      · have hlz : ¬ (l : Int) < (n3 : Int) := by omega
                        go_wp2
                        go_ret; first | exact ⟨.inl rfl, rfl⟩ | exact ⟨.inr rfl, rfl⟩


theorem below_two {w w' : World} {o o' : Obj} (h : Below ((w.alloc o).alloc o').heap.size ((w.alloc o).alloc o') w') : Below w.heap.size w w' :=
  (((Below.refl _ _).alloc (Nat.le_refl _) _).alloc (by simp) _).trans (h.mono (by simp; omega))

set_option maxHeartbeats 800000 in
set_option maxRecDepth 100000 in
theorem cellEq_any (x y : Val) (h : alike x y) (w : World) :
    Calls Try.prog 30 #[.agg #[.int .u8 x.t, .int .u64 x.m, .string x.s], .agg #[.int .u8 y.t, .int .u64 y.m, .string y.s]] w fun e w' => e = .returned (.bool true) ∧ Below w.heap.size w w' := by
  have hb : ∀ o o' n, Below w.heap.size w (((w.alloc o).alloc o').drewN n) := fun o o' n => below_drewN (((Below.refl _ _).alloc (Nat.le_refl _) _).alloc (by simp) _) n
  by_cases hx : x.t = 0
  · have hy : y.t = 0 := by
      rcases h with ⟨_, h⟩ | h
      · exact h
      · rw [← h]; exact hx
    rw [hx, hy]
    go_enter Try.func30, Try.ntmps30
    go_wp2_with fail
    all_goals first | (go_quiet (fail); go_wp2; go_ret; exact ⟨rfl, hb _ _ _⟩) | (go_ret; exact ⟨rfl, hb _ _ 0⟩)
  · have hxy : x = y := by
      rcases h with ⟨h, _⟩ | h
      · exact absurd h hx
      · exact h
    subst hxy
    have hxb : (x.t == 0) = false := beq_eq_false_iff_ne.2 hx
    go_enter Try.func30, Try.ntmps30
    go_wp2_with fail
    go_ret
    exact ⟨rfl, hb _ _ 0⟩

/-! ### The plain law -/

theorem lastV_congr {A B : Nat → Asg} : ∀ (k col : Nat), (∀ i, i < k → A i = B i) → lastV A k col = lastV B k col
  | 0, _, _ => rfl
  | k + 1, col, h => by rw [lastV, lastV, h k (by omega), lastV_congr k col (fun i hi => h i (by omega))]

theorem lastV_cat (A1 A2 : Nat → Asg) (n1 col : Nat) : ∀ k, lastV (cat A1 n1 A2) (n1 + k) col = (lastV A2 k col).or (lastV A1 n1 col)
  | 0 => by
    rw [Nat.add_zero, lastV_congr (B := A1) n1 col (fun i hi => cat_lo A1 A2 hi)]
    rfl
  | k + 1 => by
    rw [← Nat.add_assoc, lastV, cat_hi, lastV, lastV_cat A1 A2 n1 col k]
    by_cases h : (A2 k).c = (col : Int)
    · rw [if_pos h, if_pos h]; rfl
    · rw [if_neg h, if_neg h]

theorem lastV_keepS (S : Nat → Bool) (F : Nat → Val) (col : Nat) : ∀ m, lastV (fun i => (keepS S F m).getD i nulA) (keepS S F m).length col = if col < m ∧ S col = true then some (F col) else none
  | 0 => by rw [if_neg (by omega)]; rfl
  | m + 1 => by
    have ih := lastV_keepS S F col m
    cases hs : S m
    · rw [keepS_no hs, ih]
      by_cases h : col < m ∧ S col = true
      · rw [if_pos h, if_pos ⟨by omega, h.2⟩]
      · rw [if_neg h, if_neg (fun h2 => h ⟨by
          rcases Nat.lt_or_ge col m with h3 | h3
          · exact h3
          · have : col = m := by omega
            rw [this, hs] at h2
            exact absurd h2.2 (by simp), h2.2⟩)]
    · rw [keepS_yes hs, List.length_append, List.length_singleton, lastV]
      have e1 : (keepS S F m ++ [(⟨(m : Int), F m⟩ : Asg)]).getD (keepS S F m).length nulA = ⟨(m : Int), F m⟩ := by simp
      rw [e1, lastV_congr (B := fun i => (keepS S F m).getD i nulA) _ col (fun i hi => by
        show (keepS S F m ++ [(⟨(m : Int), F m⟩ : Asg)]).getD i nulA = (keepS S F m).getD i nulA
        rw [List.getD_eq_getElem?_getD, List.getD_eq_getElem?_getD, List.getElem?_append_left hi]), ih]
      by_cases hc : col = m
      · subst hc
        rw [if_pos rfl, if_pos ⟨by omega, hs⟩]
      · rw [if_neg (show ¬ ((m : Int) = (col : Int)) by omega)]
        by_cases h : col < m ∧ S col = true
        · rw [if_pos h, if_pos ⟨by omega, h.2⟩]
        · rw [if_neg h, if_neg (fun h2 => h ⟨by omega, h2.2⟩)]

theorem keepN_S (F : Nat → Val) (m : Nat) : keepN F m = keepS (fun i => !((F i).t == 0)) F m := by
  unfold keepN keepS
  congr 1
  funext i
  cases h : ((F i).t == 0) <;> simpa using h

theorem keepS_cols (S : Nat → Bool) (F : Nat → Val) (m : Nat) : colsB (fun i => (keepS S F m).getD i nulA) (keepS S F m).length m := by
  intro i hi
  have h1 : (keepS S F m).getD i nulA ∈ keepS S F m := by
    rw [List.getD_eq_getElem?_getD, List.getElem?_eq_getElem hi]
    exact List.getElem_mem hi
  unfold keepS at h1
  obtain ⟨j, hj, he⟩ := List.mem_filterMap.1 h1
  have hj' := List.mem_range.1 hj
  cases hs : S j
  · rw [hs] at he; simp at he
  · rw [hs] at he
    simp only [if_true, Option.some.injEq] at he
    unfold keepS
    show 0 ≤ (List.getD _ i nulA).c ∧ (List.getD _ i nulA).c < (m : Int)
    rw [← he]
    exact ⟨by show (0 : Int) ≤ (j : Int); omega, by show (j : Int) < (m : Int); omega⟩

def isW (e2 r2 : Bool) : Bool := e2 || r2
def resR (e1 r1 e2 r2 : Bool) : Bool := if isW e2 r2 then r2 else (e1 || r1)
def resN (e1 r1 e2 r2 : Bool) (A1 : Nat → Asg) (n1 : Nat) (A2 : Nat → Asg) (n2 m : Nat) : Nat := if isW e2 r2 then n2 else (thenL (e1 || r1) A1 n1 A2 n2 m).length
def resA (e1 r1 e2 r2 : Bool) (A1 : Nat → Asg) (n1 : Nat) (A2 : Nat → Asg) (n2 m : Nat) : Nat → Asg := if isW e2 r2 then A2 else fun i => (thenL (e1 || r1) A1 n1 A2 n2 m).getD i nulA

theorem thenL_keep (d1w : Bool) (A1 : Nat → Asg) (n1 : Nat) (A2 : Nat → Asg) (n2 m : Nat) : thenL d1w A1 n1 A2 n2 m = keepS (fun i => if d1w then !((valF (cat A1 n1 A2) (n1 + n2) i).t == 0) else setF (cat A1 n1 A2) (n1 + n2) i) (valF (cat A1 n1 A2) (n1 + n2)) m := by
  unfold thenL
  cases d1w
  · rfl
  · simp only [if_true]
    rw [keepN_S]

theorem res_cols (e1 r1 e2 r2 : Bool) (A1 : Nat → Asg) (n1 : Nat) (A2 : Nat → Asg) (n2 m : Nat) (hc2 : colsB A2 n2 m) : colsB (resA e1 r1 e2 r2 A1 n1 A2 n2 m) (resN e1 r1 e2 r2 A1 n1 A2 n2 m) m := by
  unfold resA resN
  cases isW e2 r2
  · simp only [Bool.false_eq_true, if_false]
    rw [thenL_keep]
    exact keepS_cols _ _ _
  · exact hc2

theorem res_len (e1 r1 e2 r2 : Bool) (A1 : Nat → Asg) (n1 : Nat) (A2 : Nat → Asg) (n2 m : Nat) (hn : n2 ≤ 1048576) (hm : m ≤ 65536) : resN e1 r1 e2 r2 A1 n1 A2 n2 m ≤ 1048576 := by
  unfold resN
  cases isW e2 r2
  · simp only [Bool.false_eq_true, if_false]
    rw [thenL_keep]
    have := keepS_len (fun i => if (e1 || r1) then !((valF (cat A1 n1 A2) (n1 + n2) i).t == 0) else setF (cat A1 n1 A2) (n1 + n2) i) (valF (cat A1 n1 A2) (n1 + n2)) m
    omega
  · exact hn

/-- THE PLAIN LAW: applying d.then(next) is applying d, then next. -/
theorem composes (e1 r1 e2 r2 ex : Bool) (A1 : Nat → Asg) (n1 : Nat) (A2 : Nat → Asg) (n2 m : Nat) (F : Nat → Val) (h1 : e1 = true → n1 = 0) (col : Nat) (hcol : col < m) :
    alike (appl e2 (resR e1 r1 e2 r2) ex (resA e1 r1 e2 r2 A1 n1 A2 n2 m) (resN e1 r1 e2 r2 A1 n1 A2 n2 m) F col) (appl e2 r2 (!e1) A2 n2 (appl e1 r1 ex A1 n1 F) col) := by
  unfold resR resA resN
  cases hw : isW e2 r2
  · simp only [Bool.false_eq_true, if_false]
    unfold isW at hw
    simp only [Bool.or_eq_false_iff] at hw
    obtain ⟨rfl, rfl⟩ := hw
    have hV := lastV_cat A1 A2 n1 col n2
    have hL := lastV_keepS (fun i => if (e1 || r1) then !((valF (cat A1 n1 A2) (n1 + n2) i).t == 0) else setF (cat A1 n1 A2) (n1 + n2) i) (valF (cat A1 n1 A2) (n1 + n2)) col m
    rw [← thenL_keep] at hL
    have hvf : valF (cat A1 n1 A2) (n1 + n2) col = ((lastV A2 n2 col).or (lastV A1 n1 col)).getD nul := by unfold valF; rw [hV]
    have hsf : setF (cat A1 n1 A2) (n1 + n2) col = ((lastV A2 n2 col).or (lastV A1 n1 col)).isSome := by unfold setF; rw [hV]
    simp only [hcol, true_and] at hL
    rw [hvf, hsf] at hL
    generalize hq2 : lastV A2 n2 col = V2 at *
    generalize hq1 : lastV A1 n1 col = V1 at *
    cases e1
    · cases r1
      · have e3 : appl false (false || false) ex (fun i => (thenL (false || false) A1 n1 A2 n2 m).getD i nulA) (thenL (false || false) A1 n1 A2 n2 m).length F col = (lastV (fun i => (thenL (false || false) A1 n1 A2 n2 m).getD i nulA) (thenL (false || false) A1 n1 A2 n2 m).length col).getD (clr false false ex F col) := rfl
        have e4 : appl false false (!false) A2 n2 (appl false false ex A1 n1 F) col = (lastV A2 n2 col).getD ((lastV A1 n1 col).getD (clr false false ex F col)) := rfl
        rw [e3, e4, hL, hq1, hq2]
        right
        cases V2 <;> cases V1 <;> simp
      · have e3 : appl false (false || true) ex (fun i => (thenL (false || true) A1 n1 A2 n2 m).getD i nulA) (thenL (false || true) A1 n1 A2 n2 m).length F col = (lastV (fun i => (thenL (false || true) A1 n1 A2 n2 m).getD i nulA) (thenL (false || true) A1 n1 A2 n2 m).length col).getD nul := rfl
        have e4 : appl false false (!false) A2 n2 (appl false true ex A1 n1 F) col = (lastV A2 n2 col).getD ((lastV A1 n1 col).getD nul) := rfl
        have e5 : V2.getD (V1.getD nul) = (V2.or V1).getD nul := by cases V2 <;> simp
        rw [e3, e4, hL, hq1, hq2, e5]
        generalize (V2.or V1).getD nul = x
        unfold alike
        cases hx : (x.t == 0)
        · right; simp
        · left; have : x.t = 0 := by simpa using hx
          simp [this, nul]
    · have hn0 := h1 rfl
      subst hn0
      have hV1 : V1 = none := by rw [← hq1]; rfl
      subst hV1
      have e3 : appl false (true || r1) ex (fun i => (thenL (true || r1) A1 0 A2 n2 m).getD i nulA) (thenL (true || r1) A1 0 A2 n2 m).length F col = (lastV (fun i => (thenL (true || r1) A1 0 A2 n2 m).getD i nulA) (thenL (true || r1) A1 0 A2 n2 m).length col).getD nul := rfl
      have e4 : appl false false (!true) A2 n2 (appl true r1 ex A1 0 F) col = (lastV A2 n2 col).getD nul := rfl
      have e5 : V2.getD nul = (V2.or none).getD nul := by cases V2 <;> simp
      rw [e3, e4, hL, hq2, e5]
      generalize (V2.or none).getD nul = x
      unfold alike
      cases hx : (x.t == 0)
      · right; simp
      · left; have : x.t = 0 := by simpa using hx
        simp [this, nul]
  · simp only [if_true]
    right
    unfold isW at hw
    have hc : ∀ (e : Bool) (G : Nat → Val), clr e2 r2 e G = fun _ => nul := fun e G => by unfold clr; rw [hw]; rfl
    unfold appl
    rw [hc, hc]
end Go.Proofs.Qxb6605262a
