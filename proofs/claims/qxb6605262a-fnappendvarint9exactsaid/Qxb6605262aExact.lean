import Derived.Test.Qxb6605262aBuf
namespace Go.Proofs.Qxb6605262a
open Go.RowKit
set_option linter.unusedVariables false

theorem oneCell_bvals (p : List Nat) : ∀ v ∈ bvals p, v.oneCell' = true := by
  intro v hv
  unfold bvals at hv
  obtain ⟨b, _, rfl⟩ := List.mem_map.1 hv
  rfl

theorem Try.infoSize5 : (Try.prog.info? 5).map (·.size) = some 1 := by kernel_rfl

theorem made_toArray (z : Value) (n : Nat) : madeCells #[z] n = (List.replicate n z).toArray := by
  apply Array.ext
  · rw [size_madeCells]; simp
  · intro i h1 h2
    have h3 : i < n := by simpa using h2
    simp [madeCells, Nat.mod_one]

set_option maxHeartbeats 400000 in
theorem cloneb_any (a : Option Addr) (n c : Nat) (p : List Nat) (w : World) (h : SlB w a n c p) (hn : n ≤ 1048576) :
    Calls Try.prog 8 #[.slice a n c] w fun e w' => ∃ v', e = .returned v' ∧ w'.ownsRow w.heap.size 5 1 v' p.length (bvals p) ∧ Below w.heap.size w w' := by
  have q22 : ∀ (w : World) (a : Option Addr) (n c n' c' : Nat), (binOp .eql 22 (.slice a n c) (.slice none n' c')).run Try.prog w = .ok (.bool a.isNone) w := fun w a n c n' c' => Lib.run_eql_slice_nil w _ _ a n c n' c' Try.underlying22
  have hl := h.len
  subst hl
  cases a with
  | none =>
    obtain ⟨h0, rfl⟩ := h.nil rfl
    have hp : p = [] := List.eq_nil_of_length_eq_zero h0
    subst hp
    go_enter Try.func8, Try.ntmps8
    go_wp2
    go_ret
    exact ⟨_, rfl, World.ownsRow_nil _ _ _ _, Below.refl _ _⟩
  | some x =>
    have hmk := run_make_row' (P := Try.prog) 22 5 (.int .u8 0) 1 Try.underlying22 Try.info5 rfl .i64 .i64 p.length (by omega) (by omega)
    rw [made_toArray] at hmk
    have hbl : (bvals p).length = p.length := List.length_map _
    go_enter Try.func8, Try.ntmps8
    go_upto_region 4 with fail
    go_wp2_with (refine wpList_copy_splice rfl _ _ 22 22 rfl 5 Try.underlying22 Try.infoSize5 _ _ _ _ _ _ rfl rfl w.heap.size 0 (List.replicate p.length (.int .u8 0)) 5 ?c1 (bvals p) ?c2 ?c3 ?c4 (oneCell_bvals p) w.heap.size w ?c5 (Nat.le_refl _) ?_)
    case c1 =>
      show (w.heap.push _)[w.heap.size]? = _
      rw [Array.getElem?_push_size]
      simp
    case c2 => rw [hbl]; exact (Nat.min_self _).symm
    case c3 =>
      intro h0 j v hv
      obtain ⟨b, off, hx, hc⟩ := h.cells.resolve_left (by omega)
      cases hx
      have hj : j < p.length := by have := (List.getElem?_eq_some_iff.1 hv).1; rwa [hbl] at this
      rw [Addr.add_lit]
      have e : v = .int .u8 ((p.getD j 0 : Nat) : Int) := by
        have : (bvals p)[j]? = some (.int .u8 ((p.getD j 0 : Nat) : Int)) := by simp [bvals, hj]
        rw [this] at hv; exact (Option.some.inj hv).symm
      rw [e]
      exact cell_later ((Below.refl _ _).alloc (Nat.le_refl _) _) (hc j hj)
    case c4 => rw [hbl]; simp
    case c5 => exact (Below.refl _ _).alloc (Nat.le_refl _) _
    intro w' hid hb
    clear hmk
    go_wp2
    go_ret
    refine ⟨_, rfl, ?_, hb⟩
    have hsp : splice (List.replicate p.length (Value.int .u8 0)) 0 (bvals p) = bvals p := by simp [splice, hbl]
    have hblk := hid.out
    rw [hsp] at hblk
    exact ⟨by rw [hbl]; simp, .inr ⟨w.heap.size, p.length, (bvals p).toArray, rfl, Nat.le_refl _, hblk, Nat.le_refl _, by unfold maxLen; omega, by simp [hbl], by rw [Nat.mul_one, ← hbl]; simp⟩⟩

/-- An owned row stays as it was where its block lies below. -/
theorem owns_later {w w' : World} {base n : Nat} {e : TypeId} {v : Value} {xs : List Value} (h : w.ownsRow base e 1 v n xs) (hb : Below w.heap.size w w') : w'.ownsRow base e 1 v n xs := by
  refine ⟨h.1, ?_⟩
  rcases h.2 with h2 | ⟨g, cap, cur, hv, hg, hh, r⟩
  · exact .inl h2
  · exact .inr ⟨g, cap, cur, hv, hg, by rw [hb.block g (Array.getElem?_eq_some_iff.1 hh).1]; exact hh, r⟩

set_option maxHeartbeats 800000 in
set_option maxRecDepth 100000 in
theorem exact_walk (a : Option Addr) (n c : Nat) (p : List Nat) (x : Int) (w : World) (h : SlB w a n c p) (hn : n ≤ 1048576) (h1 : -9223372036854775808 ≤ x) (h2 : x ≤ 9223372036854775807) :
    Calls Try.prog 3 #[.slice a n c, .int .i64 x] w fun e w' => e = .returned (.bool true) ∧ Below w.heap.size w w' := by
  have hl := h.len
  subst hl
  have hzl := zig_lt h1 h2
  go_enter Try.func3, Try.ntmps3
  go_wp2_with fail
  refine (zz7_any _ _ _ _ _ (by omega)).mono ?_
  rintro e w' ⟨⟨r, rfl⟩, rfl⟩
  cases r
  · go_wp2
    go_ret
    exact ⟨rfl, Below.refl _ _⟩
  · go_wp2_with fail
    refine (cloneb_any _ _ _ _ _ h (by omega)).mono ?_
    rintro e w1 ⟨v1, rfl, ho1, hb1⟩
    obtain ⟨a1, c1, hv1, hS1⟩ := slb_of ho1
    subst hv1
    clear h
    go_wp2_with fail
    refine (cloneb_any _ _ _ _ _ hS1 (by omega)).mono ?_
    rintro e w2 ⟨v2, rfl, ho2, hb2⟩
    have hB2 : Below w.heap.size w w2 := hb1.trans (hb2.mono hb1.size)
    have ho1' := owns_later ho1 hb2
    have hs1 := hb1.size
    have hs2 := hb2.size
    go_wp2_with fail
    refine (zzapp_any _ p x w.heap.size w2 ho1' (by omega) (by omega) h1 h2).mono ?_
    rintro e w3 ⟨v3, rfl, ho3, hg⟩
    have hB3 : Below w.heap.size w w3 := hB2.trans (hg.below ho1' (by omega))
    have hne : v2.ownBlock = none ∨ v2.ownBlock ≠ (Value.slice a1 p.length c1).ownBlock := by
      cases hv : v2.ownBlock with
      | none => exact .inl rfl
      | some k =>
        refine .inr fun e => ?_
        have k1 := (ho2.lt k hv).1
        have k2 := (ho1.lt k e.symm).2
        omega
    have ho2' := ho2.kept hg.grown hne
    obtain ⟨a2, c2, hv2, hS2⟩ := slb_of ho2'
    obtain ⟨a3, c3, hv3, hS3⟩ := slb_of ho3
    subst hv2
    subst hv3
    clear hne ho1 ho2 ho1' ho2' ho3 hg hb1 hb2 hB2 hS1
    go_wp2_with fail
    refine (zig_any x w3 h1 h2).mono ?_
    rintro e w' ⟨rfl, rfl⟩
    go_wp2_with fail
    refine (len_any (zig x) w3 hzl).mono ?_
    rintro e w' ⟨rfl, rfl⟩
    rw [List.length_append] at hS3
    obtain ⟨l, hl⟩ : ∃ l, l = (enc 8 (zig x)).length := ⟨_, rfl⟩
    have hl9 := (enc_len 8 (zig x)).2.1
    rw [← hl] at hS3 hl9 ⊢
    have HLn : Hid (l = (enc 8 (zig x)).length) := hl
    clear hl
    have hlb : l ≤ 9 := by omega
    obtain ⟨z, hz⟩ : ∃ z, z = zig x := ⟨_, rfl⟩
    rw [← hz] at hS3 hzl HLn ⊢
    clear hz hl9
    go_wp2
    go_loopg [9] p.length (fun gh i wr => ∃ k : Nat, k ≤ p.length ∧ gh = p.length - k ∧ i = .int .i64 (k : Nat) ∧ Below w3.heap.size w3 wr)
    case atStart => exact ⟨0, Nat.zero_le _, rfl, rfl, Below.refl _ _⟩
    case round =>
      obtain ⟨k, hk, rfl, rfl, hb4⟩ := hrel
      by_cases hlt : k < p.length
      · obtain ⟨b2, o2, rfl, hc2⟩ := hS2.cells.resolve_left (by omega)
        obtain ⟨b3, o3, rfl, hc3⟩ := hS3.cells.resolve_left (by omega)
        have d2 : wr.cell? ⟨b2, o2 + k, none⟩ = some (.int .u8 ((p.getD k 0 : Nat) : Int)) := cell_later hb4 (hc2 k hlt)
        have d3 : wr.cell? ⟨b3, o3 + k, none⟩ = some (.int .u8 ((p.getD k 0 : Nat) : Int)) := by
          rw [cell_later hb4 (hc3 k (by omega))]
          simp [List.getElem?_append_left hlt]
        have hkz : (k : Int) < (p.length : Int) := by omega
        have hkz2 : (k : Int) < (p.length : Int) + (l : Int) := by omega
        clear hc2 hc3 hS2 hS3
        go_wp2
        go_region
        all_goals go_wp2_with fail
        all_goals
          go_roundg (p.length - (k + 1))
          case measure => go_light; omega
          case rel => go_light; exact ⟨k + 1, by omega, rfl, by go_num, hb4.drew⟩
      · have e : k = p.length := by omega
        subst e
        obtain ⟨a4, hrun, hS4⟩ := slice_lo (hS3.later hb4) p.length (by omega)
        rw [Nat.add_sub_cancel_left] at hrun hS4
        rw [List.drop_left, ← List.append_nil (enc 8 z)] at hS4
        clear hS2 hS3
        go_wp2_with fail
        refine (decode_any _ _ _ z _ _ hS4 hzl (by omega)).mono ?_
        rintro e w5 ⟨rfl, rfl⟩
        rw [← HLn.out]
        clear hS4 hrun
        go_wp2
        go_ret
        exact ⟨rfl, hB3.trans (hb4.mono hB3.size)⟩
end Go.Proofs.Qxb6605262a
