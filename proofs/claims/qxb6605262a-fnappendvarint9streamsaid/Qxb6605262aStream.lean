import Derived.Test.Qxb6605262aBuf
namespace Go.Proofs.Qxb6605262a
open Go.RowKit
set_option linter.unusedVariables false

theorem unzig_same (x : Int) (w : World) (h1 : -9223372036854775808 ≤ x) (h2 : x ≤ 9223372036854775807) :
    Calls Try.prog 15 #[.int .u64 ((zig x : Nat) : Int)] w fun e w' => e = .returned (.int .i64 x) ∧ w' = w :=
  (unzig_any x w h1 h2).mono fun e w' h => ⟨h.1, h.2.symm⟩

set_option maxHeartbeats 800000 in
set_option maxRecDepth 100000 in
theorem stream_walk (a : Option Addr) (n c : Nat) (zs : List Int) (w : World) (h : Sl w a n c zs) (hz : ∀ z ∈ zs, -9223372036854775808 ≤ z ∧ z ≤ 9223372036854775807) (hn : n ≤ 131072) :
    Calls Try.prog 4 #[.slice a n c] w fun e w' => e = .returned (.bool true) ∧ Below w.heap.size w w' := by
  have HL : Hid (zs.length = n) := h.len
  have hb2 : ∀ k, k < n → -9223372036854775808 ≤ zs[k]?.getD 0 ∧ zs[k]?.getD 0 ≤ 9223372036854775807 := by
    intro k hk
    have hk' : k < zs.length := by rw [h.len]; exact hk
    have := hz _ (List.getElem_mem hk')
    simpa [hk'] using this
  clear hz
  go_enter Try.func4, Try.ntmps4
  go_wp2_with fail
  refine (zz13_any _ _ _ _ (by omega)).mono ?_
  rintro e w' ⟨⟨r, rfl⟩, rfl⟩
  cases r
  · go_wp2
    go_ret
    exact ⟨rfl, Below.refl _ _⟩
  · go_wp2_with fail
    refine (clone_any _ _ _ _ _ h (by omega)).mono ?_
    rintro e W ⟨a1, c1, rfl, hS, hB⟩
    obtain ⟨b, off, ha, hc⟩ := hS.open
    clear h hS
    go_wp2
    go_loopg [3, 4] n (fun gh s3 s4 wr => ∃ (k : Nat) (vb : Value), k ≤ n ∧ gh = n - k ∧ vb = s3 ∧ s4 = .int .i64 (k : Nat) ∧ wr.ownsRow W.heap.size 5 1 vb (encAll (zs.take k)).length (bvals (encAll (zs.take k))) ∧ Below W.heap.size W wr)
    case atStart => exact ⟨0, _, Nat.zero_le _, rfl, rfl, rfl, World.ownsRow_nil _ _ _ _, Below.refl _ _⟩
    case round =>
      obtain ⟨k, vb, hk, rfl, rfl, rfl, hown, hbw⟩ := hrel
      have hsz := hbw.size
      by_cases hlt : k < n
      · obtain rfl := ha (by omega)
        have d1 : wr.cell? ⟨b, off + k, none⟩ = some (.int .i64 (zs.getD k 0)) := cell_later hbw (hc k hlt)
        have hlen : (encAll (zs.take k)).length ≤ 2000000 := by
          have h1 := encAll_len (zs.take k)
          have h2 : (zs.take k).length ≤ k := List.length_take_le _ _
          omega
        have hbk := hb2 k hlt
        have HT : Hid (encAll (zs.take (k + 1)) = encAll (zs.take k) ++ enc 8 (zig (zs[k]?.getD 0))) := encAll_take (by rw [HL.out]; exact hlt)
        go_wp2_with fail
        refine (zzapp_any vb (encAll (zs.take k)) (zs[k]?.getD 0) W.heap.size wr hown hsz hlen hbk.1 hbk.2).mono ?_
        rintro e w1 ⟨v', rfl, ho, hg⟩
        have hbw' : Below W.heap.size W w1 := hbw.trans (hg.below hown hsz)
        clear hg hown hbw d1
        rw [← HT.out] at ho
        go_wp2
        go_roundg (n - (k + 1))
        case measure => go_light; omega
        case rel => go_light; exact ⟨k + 1, v', by omega, rfl, rfl, by go_num, ho, hbw'⟩
      · have e : n = k := by omega
        subst e
        rw [List.take_of_length_le (by rw [HL.out]; exact Nat.le_refl _)] at hown
        obtain ⟨a2, c2, hv, hS2⟩ := slb_of hown
        have hlen : (encAll zs).length ≤ 9 * n := by have := encAll_len zs; rw [HL.out] at this; exact this
        obtain ⟨N, hN⟩ : ∃ N, N = (encAll zs).length := ⟨_, rfl⟩
        rw [← hN] at hv hS2 hlen
        subst hv
        have HN : Hid (N = (encAll zs).length) := hN
        clear hown hN
        have hBw : Below w.heap.size w wr := hB.trans (hbw.mono hB.size)
        rename World => w2
        go_wp2
        go_loopg [5, 6] n (fun gh s5 s6 wr => ∃ (k pos : Nat), k ≤ n ∧ gh = n - k ∧ s5 = .int .i64 (pos : Nat) ∧ s6 = .int .i64 (k : Nat) ∧ pos = (encAll (zs.take k)).length ∧ Below w2.heap.size w2 wr)
        case atStart => exact ⟨0, 0, Nat.zero_le _, rfl, rfl, rfl, rfl, Below.refl _ _⟩
        case round =>
          obtain ⟨k, pos, hk, rfl, rfl, rfl, hpos, hb3⟩ := hrel
          have HP : Hid (pos = (encAll (zs.take k)).length) := hpos
          clear hpos
          by_cases hlt : k < n
          · obtain rfl := ha (by omega)
            have d1 : wr.cell? ⟨b, off + k, none⟩ = some (.int .i64 (zs.getD k 0)) := cell_later (hbw.trans (hb3.mono hbw.size)) (hc k hlt)
            have hpN : pos ≤ N := by rw [HP.out, HN.out]; exact encAll_take_le zs k
            obtain ⟨a3, hrun, hS3⟩ := slice_lo (hS2.later hb3) pos hpN
            have hz' := hb2 k hlt
            have HD : Hid ((encAll zs).drop pos = enc 8 (zig (zs[k]?.getD 0)) ++ encAll (zs.drop (k + 1))) := by
              show _ = _
              rw [HP.out]; exact encAll_drop (by rw [HL.out]; exact hlt)
            rw [HD.out] at hS3
            have HT : Hid (encAll (zs.take (k + 1)) = encAll (zs.take k) ++ enc 8 (zig (zs[k]?.getD 0))) := encAll_take (by rw [HL.out]; exact hlt)
            have hl9 := (enc_len 8 (zig (zs[k]?.getD 0))).2.1
            obtain ⟨z, hzk⟩ : ∃ z, z = zs[k]?.getD 0 := ⟨_, rfl⟩
            have d1' : wr.cell? ⟨b, off + k, none⟩ = some (.int .i64 z) := by rw [d1, hzk]; rfl
            rw [← hzk] at hS3 hz' HT hl9
            clear d1 hzk
            obtain ⟨l, hl⟩ : ∃ l, l = (enc 8 (zig z)).length := ⟨_, rfl⟩
            have hkz : (k : Int) < (n : Int) := by omega
            go_wp2_with fail
            refine (decode_any _ _ _ (zig z) _ _ hS3 (zig_lt hz'.1 hz'.2) (by omega)).mono ?_
            rintro e w4 ⟨rfl, rfl⟩
            rw [← hl]
            rw [← hl] at hl9
            have HLn : Hid (l = (enc 8 (zig z)).length) := hl
            clear hl hS3 hrun
            go_wp2_with fail
            go_quiet ((go_at_call 15; exact Calls.quiet_of_same (unzig_same z _ hz'.1 hz'.2)))
            go_wp2
            go_roundg (n - (k + 1))
            case measure => go_light; omega
            case rel =>
              go_light
              refine ⟨k + 1, pos + l, by omega, rfl, by go_num, by go_num, ?_, below_drewN hb3 _⟩
              rw [HT.out, List.length_append, ← HP.out, ← HLn.out]
          · have e : n = k := by omega
            subst e
            have e1 : pos = N := by
              rw [HP.out, HN.out, List.take_of_length_le (by rw [HL.out]; exact Nat.le_refl _)]
            subst e1
            go_wp2
            go_ret
            exact ⟨rfl, hBw.trans (hb3.mono hBw.size)⟩
end Go.Proofs.Qxb6605262a
