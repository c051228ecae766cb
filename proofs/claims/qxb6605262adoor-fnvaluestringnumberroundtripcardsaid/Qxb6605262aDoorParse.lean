import Derived.Test.Qxb6605262aDoorText
namespace Go.Proofs.Qxb6605262aDoor
open Go.RowKit Go.Sort Go.Lib
set_option linter.unusedVariables false

theorem pow_le (u : Nat) : 1 ≤ u → 10 ^ (nDigits u - 1) ≤ u := by
  induction u using Nat.strongRecOn with
  | _ u ih =>
    intro h1
    by_cases h : u < 10
    · rw [nDigits_small h]; simpa using h1
    · rw [nDigits_big h]
      have h2 := ih (u / 10) (by omega) (by omega)
      have h3 := nDigits_pos (u / 10)
      obtain ⟨k, hk⟩ : ∃ k, nDigits (u / 10) = k + 1 := ⟨nDigits (u / 10) - 1, by omega⟩
      rw [hk] at h2 ⊢
      simp only [Nat.add_sub_cancel] at h2 ⊢
      rw [Nat.pow_succ]
      omega

/-- The first i digits of u, read. -/
def pre (u i : Nat) : Nat := u / 10 ^ (nDigits u - i)
def dgt (u i : Nat) : Nat := u / 10 ^ (nDigits u - 1 - i) % 10

theorem pre_zero (u : Nat) : pre u 0 = 0 := by
  unfold pre
  exact Nat.div_eq_of_lt (lt_pow_nDigits u)
theorem pre_all (u : Nat) : pre u (nDigits u) = u := by
  unfold pre
  rw [Nat.sub_self, Nat.pow_zero, Nat.div_one]
theorem pre_step (u i : Nat) (h : i < nDigits u) : pre u (i + 1) = pre u i * 10 + dgt u i := by
  unfold pre dgt
  rw [show nDigits u - i = (nDigits u - 1 - i) + 1 by omega, show nDigits u - (i + 1) = nDigits u - 1 - i by omega, Nat.pow_succ, ← Nat.div_div_eq_div_mul]
  omega
theorem pre_le (u i : Nat) : pre u i ≤ u := Nat.div_le_self _ _
theorem dgt_lt (u i : Nat) : dgt u i < 10 := Nat.mod_lt _ (by omega)
theorem dgt_first (u : Nat) (h : 1 < nDigits u) : dgt u 0 ≠ 0 := by
  have h1 : 1 ≤ u := by
    rcases Nat.eq_zero_or_pos u with e | e
    · subst e; rw [nDigits_small (by omega)] at h; omega
    · exact e
  have h2 := pre_step u 0 (by omega)
  rw [pre_zero] at h2
  have h3 : 1 ≤ pre u (0 + 1) := by
    unfold pre
    have := pow_le u h1
    exact (Nat.le_div_iff_mul_le (Nat.pow_pos (by omega))).2 (by simpa using this)
  omega

theorem digit_at {s : ByteArray} {u : Nat} (h : s.data.toList = decDigits u) {i : Nat} (hi : i < nDigits u) (hs : i < s.size) : (s[i].toNat : Int) = 48 + (dgt u i : Int) := by
  have h1 : s[i] = s.data.toList[i]'(by simpa using hs) := by simp; rfl
  have hd := dgt_lt u i
  have h2 : s.data.toList[i]'(by simpa using hs) = dg u (nDigits u - 1 - i) := by
    simp only [h, decDigits_eq u, List.getElem_map, List.getElem_range]
  rw [h1, h2]
  unfold dg
  have h3 : u / 10 ^ (nDigits u - 1 - i) % 10 = dgt u i := rfl
  rw [h3, UInt8.toNat_ofNat']
  omega

set_option maxHeartbeats 1600000 in
set_option maxRecDepth 100000 in
theorem parseU (s : ByteArray) (u : Nat) (hu64 : u < 18446744073709551616) (w : World) (h : s.data.toList = decDigits u) :
    Calls Tryd.prog 8 #[.string s] w fun e w' => e = .returned (.tuple #[.int .u64 (u : Nat), .bool true]) ∧ w = w' := by
  have hsz : s.size = nDigits u := by rw [← decDigits_length, ← h]; simp
  have hnd20 : Lib.nDigits u ≤ 20 := Lib.nDigits_le20 u hu64
  have hnd1 := nDigits_pos u
  have hdig := fun i hi hs => digit_at h (i := i) hi hs
  have hfirst := dgt_first u
  obtain ⟨n, hn⟩ : ∃ n, n = nDigits u := ⟨_, rfl⟩
  rw [← hn] at hsz hnd20 hnd1 hdig hfirst
  have HN : Hid (n = nDigits u) := hn
  have x1 : ((n : Int) == 0) = false := beq_eq_false_iff_ne.2 (by omega)
  have x2 : ¬ (n : Int) > 20 := by omega
  clear hn h
  have hround : ∀ i, i < n → dgt u i < 10 ∧ pre u (i + 1) = pre u i * 10 + dgt u i ∧ pre u (i + 1) ≤ u := fun i hi => ⟨dgt_lt u i, pre_step u i (by rw [← HN.out]; exact hi), pre_le u _⟩
  go_enter Tryd.func8, Tryd.ntmps8
  by_cases h1 : n = 1
  · have x3 : ¬ (1 : Int) < (n : Int) := by omega
    go_wp2
    go_loopg [4, 5] n (fun gh a i wr => ∃ k : Nat, k ≤ n ∧ gh = n - k ∧ a = .int .u64 (pre u k : Nat) ∧ i = .int .i64 (k : Nat) ∧ w = wr)
    case atStart => exact ⟨0, Nat.zero_le _, rfl, by rw [pre_zero]; rfl, rfl, rfl⟩
    case round =>
      obtain ⟨k, hk, rfl, rfl, rfl, rfl⟩ := hrel
      by_cases hlt : k < n
      · obtain ⟨r1, r2, r3⟩ := hround k hlt
        have ek := hdig k hlt (by omega)
        have hkz : (k : Int) < (n : Int) := by omega
        obtain ⟨dk, hdk⟩ : ∃ dk, dk = dgt u k := ⟨_, rfl⟩
        obtain ⟨q, hq⟩ : ∃ q, q = pre u k := ⟨_, rfl⟩
        obtain ⟨q', hq'⟩ : ∃ q', q' = pre u (k + 1) := ⟨_, rfl⟩
        rw [← hdk] at ek r1 r2
        rw [← hq] at r2 ⊢
        rw [← hq'] at r2 r3
        have HQ : Hid (q' = pre u (k + 1)) := hq'
        clear hq hq' hdk hdig hround
        go_wp2
        go_roundg (n - (k + 1))
        case measure => go_light; omega
        case rel => go_light; exact ⟨k + 1, by omega, rfl, by rw [← HQ.out, r2]; go_num, by go_num, rfl⟩
      · have e : k = n := by omega
        subst e
        go_wp2
        go_ret2
        exact ⟨by rw [HN.out, pre_all]; rfl, rfl⟩
  · have h2 := hfirst (by omega)
    have e0 := hdig 0 (by omega) (by omega)
    have x3 : (1 : Int) < (n : Int) := by omega
    obtain ⟨d, hd⟩ : ∃ d, d = dgt u 0 := ⟨_, rfl⟩
    rw [← hd] at h2 e0
    have x4 : ((48 + (d : Int)) == 48) = false := beq_eq_false_iff_ne.2 (by omega)
    clear hd hfirst
    go_wp2
    go_loopg [4, 5] n (fun gh a i wr => ∃ k : Nat, k ≤ n ∧ gh = n - k ∧ a = .int .u64 (pre u k : Nat) ∧ i = .int .i64 (k : Nat) ∧ w = wr)
    case atStart => exact ⟨0, Nat.zero_le _, rfl, by rw [pre_zero]; rfl, rfl, rfl⟩
    case round =>
      obtain ⟨k, hk, rfl, rfl, rfl, rfl⟩ := hrel
      by_cases hlt : k < n
      · obtain ⟨r1, r2, r3⟩ := hround k hlt
        have ek := hdig k hlt (by omega)
        have hkz : (k : Int) < (n : Int) := by omega
        obtain ⟨dk, hdk⟩ : ∃ dk, dk = dgt u k := ⟨_, rfl⟩
        obtain ⟨q, hq⟩ : ∃ q, q = pre u k := ⟨_, rfl⟩
        obtain ⟨q', hq'⟩ : ∃ q', q' = pre u (k + 1) := ⟨_, rfl⟩
        rw [← hdk] at ek r1 r2
        rw [← hq] at r2 ⊢
        rw [← hq'] at r2 r3
        have HQ : Hid (q' = pre u (k + 1)) := hq'
        clear hq hq' hdk hdig hround
        go_wp2
        go_roundg (n - (k + 1))
        case measure => go_light; omega
        case rel => go_light; exact ⟨k + 1, by omega, rfl, by rw [← HQ.out, r2]; go_num, by go_num, rfl⟩
      · have e : k = n := by omega
        subst e
        go_wp2
        go_ret2
        exact ⟨by rw [HN.out, pre_all]; rfl, rfl⟩
end Go.Proofs.Qxb6605262aDoor
