import Derived.Test.Qxb6605262aCompWalk
import Derived.Deep.Strs
namespace Go.Proofs.Qxb6605262a.fnThenComposes
open Go.ChangeShapes Go.WideShapes Go.ChangeAt Go.RowKit
open Go.ChangeMaps (open_string shut_string)
set_option linter.unusedVariables false

theorem own : ownKnob Try.prog.godebug = none := by kernel_rfl
theorem laidOut : laidOutB Try.prog = true := by kernel_rfl

theorem cell_trod {H : Type} {enc : TypeId × Value → H} {W : World} {base fuel : Nat} {sp : Nat → Bool} {held : Bool} {cs : List Value} {x : DataW H × List MemPlace} (h : DataW.trod enc Try.prog W base sp held fuel 58 cs = some x) :
    ∃ A : Val, cs = [.int .u8 A.t, .int .u64 A.m, .string A.s] := by
  obtain ⟨y0, y1, y2, n, _, hl, h0, h1, h2⟩ := Go.Deep.trod_struct3 Try.underlying58 h
  rw [cells58] at hl
  match cs, hl with
  | [c0, c1, c2], _ =>
    simp only [cells5, cells26, cells9] at h0 h1 h2
    obtain ⟨z0, e0, _⟩ := DataW.trod_int Try.underlying5 h0
    obtain ⟨z1, e1, _⟩ := DataW.trod_int Try.underlying26 h1
    obtain ⟨z2, e2, _⟩ := DataW.trod_string Try.underlying9 h2
    simp at e0 e1 e2
    exact ⟨⟨z0, z1, z2⟩, by rw [e0, e1, e2]⟩

theorem slc_trod {H : Type} {enc : TypeId × Value → H} {W : World} {base fuel : Nat} {sp : Nat → Bool} {held : Bool} {a : Option Addr} {len cap : Nat} {x : DataW H × List MemPlace} (h : DataW.trod enc Try.prog W base sp held fuel 49 [.slice a len cap] = some x) :
    (∃ A, SlC W a len cap A) ∧ len ≤ 9223372036854775807 := by
  rcases Go.Deep.open_slice Try.underlying49 h with ⟨hcs, _⟩ | ⟨y, l, c, m, n, D, Pl, hcs, _, hl, hm, hmm, _, hx⟩
  · simp at hcs
    obtain ⟨rfl, rfl, rfl⟩ := hcs
    exact ⟨⟨fun _ => nul, Nat.le_refl _, fun _ => ⟨rfl, rfl⟩, .inl rfl⟩, by omega⟩
  · simp at hcs
    obtain ⟨rfl, rfl, rfl⟩ := hcs
    unfold maxLen at hm
    refine ⟨?_, by omega⟩
    by_cases h0 : len = 0
    · exact ⟨fun _ => nul, hl, (fun hh => by cases hh), .inl h0⟩
    · have hlm : len ≤ m := by rw [hmm]; split <;> omega
      obtain ⟨b, off, spot⟩ := y
      have hspot : spot = none := by
        obtain ⟨cs, h1, h2⟩ := hx 0 (by omega)
        obtain ⟨A, rfl⟩ := cell_trod h2
        rw [cells58] at h1
        obtain ⟨_, _, h3⟩ := World.cells?_some h1
        simpa [Addr.add] using World.cell?_spot (h3 0 (by omega))
      subst hspot
      have hex : ∀ i, i < len → ∃ A : Val, Three W b (off + i * 3) A := fun i hi => by
        obtain ⟨cs, h1, h2⟩ := hx i (by omega)
        obtain ⟨A, rfl⟩ := cell_trod h2
        rw [cells58] at h1
        obtain ⟨_, _, h3⟩ := World.cells?_some h1
        have c0 := h3 0 (by omega)
        have c1 := h3 1 (by omega)
        have c2 := h3 2 (by omega)
        rw [Addr.add_lit, Addr.add_lit] at c0 c1 c2
        exact ⟨A, c0, c1, c2⟩
      refine ⟨fun i => if hi : i < len then (hex i hi).choose else nul, hl, (fun hh => by cases hh), .inr ⟨b, off, rfl, fun i hi => ?_⟩⟩
      rw [dif_pos hi]
      exact (hex i hi).choose_spec

theorem walk (e1 r1 : Bool) (a1 : Option Addr) (n1 c1 : Nat) (e2 r2 : Bool) (a2 : Option Addr) (n2 c2 : Nat) (nc : Int) (ex : Bool) (a3 : Option Addr) (n3 c3 : Nat) (w : World) (h1 : (∃ A, SlA w a1 n1 c1 A) ∧ n1 ≤ 9223372036854775807) (h2 : (∃ A, SlA w a2 n2 c2 A) ∧ n2 ≤ 9223372036854775807) (h3 : (∃ A, SlC w a3 n3 c3 A) ∧ n3 ≤ 9223372036854775807) :
    Calls Try.prog 6 #[.bool e1, .bool r1, .slice a1 n1 c1, .bool e2, .bool r2, .slice a2 n2 c2, .int .i64 nc, .bool ex, .slice a3 n3 c3] w fun e w' => e = .returned (.bool true) ∧ Below w.heap.size w w' := by
  obtain ⟨⟨A1, s1⟩, l1⟩ := h1
  obtain ⟨⟨A2, s2⟩, l2⟩ := h2
  obtain ⟨⟨A3, s3⟩, l3⟩ := h3
  exact compose_walk e1 r1 e2 r2 ex nc a1 n1 c1 A1 a2 n2 c2 A2 a3 n3 c3 A3 w s1 s2 s3 l1 l2 l3

set_option maxRecDepth 100000 in
theorem lifted (os : Os) (started : os.Started) (H : Type) (enc : TypeId × Value → H) :
    ReturnsInHanded {} Try.checked os 6 .any (Rows.fnThenComposesSpec.pre6 enc Try.prog Try.f6 Rows.fnThenComposesRow.domain false) (Rows.fnThenComposesSpec.post enc Try.prog Try.f6 false true false false) := by
  refine returnsInHanded_of_change (C := Try.checked) own started (by kernel_rfl) Try.func6
    (ChangeSpec.witness6 (enc := enc) (C := Try.checked) false ⟨#[], #[.bool false, .bool false, .slice none 0 0, .bool false, .bool false, .slice none 0 0, .int .i64 0, .bool false, .slice none 0 0], []⟩ 8 (by kernel_rfl) (by kernel_rfl) (by kernel_rfl) (by kernel_rfl)) ?_
  intro W base args ds gs before hval0 hW hcnd _
  have hval : ∀ (j : Nat) t v, Try.f6.params[j]? = some t → args[j]? = some v → Value.okWide Try.prog W .any base t v := hval0
  have hW' := hW
  obtain ⟨p, q, hA0, hV, rfl, hfz, hnd⟩ := hW
  have hA : DataW.TrodAll enc Try.prog W 0 (fun _ => true) true Try.f6.params.toList args.toList ds p := hA0
  rw [Try.params6] at hA hval
  obtain ⟨v0, vs0, d0, ds0, p0, q0, hargs, rfl, rfl, h0, r0⟩ := trodAll_cons hA
  obtain ⟨v1, vs1, d1, ds1, p1, q1, rfl, rfl, rfl, h1, r1⟩ := trodAll_cons r0
  obtain ⟨v2, vs2, d2, ds2, p2, q2, rfl, rfl, rfl, h2, r2⟩ := trodAll_cons r1
  obtain ⟨v3, vs3, d3, ds3, p3, q3, rfl, rfl, rfl, h3, r3⟩ := trodAll_cons r2
  obtain ⟨v4, vs4, d4, ds4, p4, q4, rfl, rfl, rfl, h4, r4⟩ := trodAll_cons r3
  obtain ⟨v5, vs5, d5, ds5, p5, q5, rfl, rfl, rfl, h5, r5⟩ := trodAll_cons r4
  obtain ⟨v6, vs6, d6, ds6, p6, q6, rfl, rfl, rfl, h6, r6⟩ := trodAll_cons r5
  obtain ⟨v7, vs7, d7, ds7, p7, q7, rfl, rfl, rfl, h7, r7⟩ := trodAll_cons r6
  obtain ⟨v8, vs8, d8, ds8, p8, q8, rfl, rfl, rfl, h8, r8⟩ := trodAll_cons r7
  obtain ⟨rfl, rfl, rfl⟩ := trodAll_nil r8
  obtain rfl : args = #[v0, v1, v2, v3, v4, v5, v6, v7, v8] := by cases args; simp_all
  obtain ⟨rfl, rfl⟩ := trodVars_none hV
  obtain ⟨x0, rfl, rfl, rfl⟩ := open_bool Try.underlying4 (hval 0 4 v0 rfl rfl) h0
  obtain ⟨x1, rfl, rfl, rfl⟩ := open_bool Try.underlying4 (hval 1 4 v1 rfl rfl) h1
  obtain ⟨a2, len2, cap2, rfl⟩ := okWide_slice Try.underlying35 (hval 2 35 v2 rfl rfl)
  obtain ⟨x3, rfl, rfl, rfl⟩ := open_bool Try.underlying4 (hval 3 4 v3 rfl rfl) h3
  obtain ⟨x4, rfl, rfl, rfl⟩ := open_bool Try.underlying4 (hval 4 4 v4 rfl rfl) h4
  obtain ⟨a5, len5, cap5, rfl⟩ := okWide_slice Try.underlying35 (hval 5 35 v5 rfl rfl)
  obtain ⟨x6, rfl, rfl, rfl, wf6⟩ := open_int Try.underlying3 (hval 6 3 v6 rfl rfl) h6
  obtain ⟨x7, rfl, rfl, rfl⟩ := open_bool Try.underlying4 (hval 7 4 v7 rfl rfl) h7
  obtain ⟨a8, len8, cap8, rfl⟩ := okWide_slice Try.underlying49 (hval 8 49 v8 rfl rfl)
  have k8 := h8
  have lt8 : ∀ x ∈ p8, x.block < W.heap.size := by obtain ⟨m, hm⟩ := k8; exact DataW.trod_lt m _ _ _ hm
  have s8 : (∃ A, SlC W a8 len8 cap8 A) ∧ len8 ≤ 9223372036854775807 := by obtain ⟨fuel, hf⟩ := h8; exact slc_trod hf
  have k2 := h2
  have lt2 : ∀ x ∈ p2, x.block < W.heap.size := by obtain ⟨m, hm⟩ := k2; exact DataW.trod_lt m _ _ _ hm
  have s2 : (∃ A, SlA W a2 len2 cap2 A) ∧ len2 ≤ 9223372036854775807 := by obtain ⟨fuel, hf⟩ := h2; exact sla_trod hf
  have k5 := h5
  have lt5 : ∀ x ∈ p5, x.block < W.heap.size := by obtain ⟨m, hm⟩ := k5; exact DataW.trod_lt m _ _ _ hm
  have s5 : (∃ A, SlA W a5 len5 cap5 A) ∧ len5 ≤ 9223372036854775807 := by obtain ⟨fuel, hf⟩ := h5; exact sla_trod hf
  clear hA0 hval0
  refine (walk x0 x1 a2 len2 cap2 x3 x4 a5 len5 cap5 x6 x7 a8 len8 cap8 W s2 s5 s8).mono fun e W' ⟨he, bel⟩ => ?_
  subst he
  exact ⟨_, rfl, _, _, _, [], _, [], hW', trodAll_mk1 (shut_bool Try.underlying4 _), (trodAll_cons_mk (shut_bool Try.underlying4 x0) (trodAll_cons_mk (shut_bool Try.underlying4 x1) (trodAll_cons_mk (Below.trod laidOut (by kernel_rfl) (of_decide_eq_true (by kernel_rfl)) k2 bel lt2) (trodAll_cons_mk (shut_bool Try.underlying4 x3) (trodAll_cons_mk (shut_bool Try.underlying4 x4) (trodAll_cons_mk (Below.trod laidOut (by kernel_rfl) (of_decide_eq_true (by kernel_rfl)) k5 bel lt5) (trodAll_cons_mk (shut_int Try.underlying3 wf6) (trodAll_cons_mk (shut_bool Try.underlying4 x7) (trodAll_cons_mk (Below.trod laidOut (by kernel_rfl) (of_decide_eq_true (by kernel_rfl)) k8 bel lt8) trodAll_mk0))))))))), rfl, bel.frame _, fun h => by cases h⟩

theorem over : Rows.fnThenComposesRow.holds Try.pinned (OpenSpec.ofChange Rows.fnThenComposesSpec) :=
  OpenClaim.holds_of_wide 6 Try.f6 rfl rfl rfl rfl rfl rfl rfl ⟨rfl, rfl, rfl, rfl, rfl⟩ rfl rfl rfl rfl rfl (by kernel_rfl) Try.func6 (by kernel_rfl)
    (of_decide_eq_true (by kernel_rfl)) (by unfold Func.isWrapper; first | (rw [if_pos (by decide +kernel)]; kernel_rfl) | (rw [if_neg (by decide +kernel)]; exact ⟨rfl, rfl⟩))
    (fun os started H enc _ => lifted os started H enc)

theorem proved : Rows.FnThenComposesSaid := over
end Go.Proofs.Qxb6605262a.fnThenComposes
