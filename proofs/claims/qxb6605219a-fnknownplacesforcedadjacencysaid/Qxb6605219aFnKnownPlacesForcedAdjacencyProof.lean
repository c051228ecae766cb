import Derived.Test.Qxb6605219aRows
import Derived.WalkKit
import Derived.ProofKit
import Derived.OpenShut
import Derived.ShutString
import Derived.ChangeOld
import Derived.Below
import Derived.Deep.Matrix
import Derived.Test.Qxb6605219aForced
namespace Go.Proofs.Qxb6605219a.fnKnownPlacesForcedAdjacency
open Go.ChangeShapes Go.WideShapes Go.ChangeAt Go.RowKit
open Go.ChangeMaps (open_string shut_string)
set_option linter.unusedVariables false

theorem own : ownKnob Try.prog.godebug = none := by kernel_rfl
theorem laidOut : laidOutB Try.prog = true := by kernel_rfl
theorem cells3 : Try.prog.cellsOf 3 = 1 := by kernel_rfl
theorem cells32 : Try.prog.cellsOf 32 = 1 := by kernel_rfl

def IsRow (k : IntKind) (w : World) (a : Option Addr) (len cap : Nat) (zs : List Int) : Prop :=
  (a = none ∧ len = 0 ∧ cap = 0 ∧ zs = []) ∨
  ∃ x, a = some x ∧ len ≤ cap ∧ cap ≤ maxLen ∧ zs.length = cap ∧ (∀ i, i < zs.length → w.cell? (x.add i) = some (.int k (zs.getD i 0))) ∧ ∀ n ∈ zs, (Lit.int k n).wf = true

theorem row_sl {w : World} {a : Option Addr} {len cap : Nat} {zs : List Int} (h : IsRow .i64 w a len cap zs) : Sl w a len cap (zs.take len) ∧ len ≤ 9223372036854775807 := by
  rcases h with ⟨rfl, rfl, rfl, rfl⟩ | ⟨x, rfl, hl, hm, hz, hc, _⟩
  · exact ⟨⟨rfl, Nat.le_refl _, fun _ => ⟨rfl, rfl⟩, .inl rfl⟩, by omega⟩
  · unfold maxLen at hm
    refine ⟨⟨by rw [List.length_take]; omega, hl, (fun h => by cases h), ?_⟩, by omega⟩
    by_cases h0 : len = 0
    · exact .inl h0
    · obtain ⟨b, off, spot⟩ := x
      have hspot : spot = none := by simpa [Addr.add] using World.cell?_spot (hc 0 (by omega))
      subst hspot
      refine .inr ⟨b, off, rfl, fun i hi => ?_⟩
      have := hc i (by omega)
      rw [Addr.add_lit] at this
      rw [this]
      simp [hi]

/-- What the walk is told of a slice of slices that came in. -/
def IsNest (w : World) (a : Option Addr) (len cap : Nat) : Prop := len ≤ 9223372036854775807 ∧ ∃ (b off : Nat) (A : Nat → Option Addr) (C : Nat → Nat) (P : Nat → List Int), Nest w a len cap b off A C P

set_option maxRecDepth 1000000 in
theorem big (a : Option Addr) (n c : Nat) (pa : Option Addr) (np pc : Nat) (cy : Bool) (w : World) (hn : n ≤ 9223372036854775807) (h2 : IsNest w pa np pc) (hbig : ¬ (n ≤ 4096 ∧ np ≤ 4096)) :
    Calls Try.prog 5 #[.slice a n c, .slice pa np pc, .bool cy] w fun e w' => e = .returned (.bool true) ∧ Below w.heap.size w w' := by
  obtain ⟨hm, b, off, A, C, P, hN⟩ := h2
  by_cases h1 : n ≤ 4096
  · have h3 : 4096 < np := by omega
    clear hbig
    go_enter Try.func5, Try.ntmps5
    go_wp2_with fail
    refine (zz13_any _ _ _ _ _ _ _ _ _ _ _ _ _ hn hm hN).mono ?_
    rintro e w' ⟨⟨r, rfl⟩, rfl⟩
    cases r <;> (go_wp2; go_ret; exact ⟨rfl, Below.refl _ _⟩)
  · have h3 : 4096 < n := by omega
    clear hbig h1
    go_enter Try.func5, Try.ntmps5
    go_wp2_with fail
    refine (zz13_any _ _ _ _ _ _ _ _ _ _ _ _ _ hn hm hN).mono ?_
    rintro e w' ⟨⟨r, rfl⟩, rfl⟩
    cases r <;> (go_wp2; go_ret; exact ⟨rfl, Below.refl _ _⟩)

theorem walk (a0 : Option Addr) (len0 cap0 : Nat) (z0 : List Int) (a1 : Option Addr) (len1 cap1 : Nat) (cy : Bool) (w : World) (w0 : IsRow .i64 w a0 len0 cap0 z0) (w1 : IsNest w a1 len1 cap1) :
    Calls Try.prog 5 #[.slice a0 len0 cap0, .slice a1 len1 cap1, .bool cy] w fun e w' => e = .returned (.bool true) ∧ Below w.heap.size w w' := by
  obtain ⟨h0, l0⟩ := row_sl w0
  by_cases hs : len0 ≤ 4096 ∧ len1 ≤ 4096
  · obtain ⟨_, b, off, A, C, P, hN⟩ := w1
    exact forced_any a0 len0 cap0 _ a1 len1 cap1 b off A C P cy w h0 hN hs.1 hs.2
  · exact big a0 len0 cap0 a1 len1 cap1 cy w l0 w1 hs

theorem nest_of {H : Type} {enc : TypeId × Value → H} {w : World} {a : Option Addr} {len cap fuel : Nat} {x : DataW H × List MemPlace}
    (h : DataW.trod enc Try.prog w 0 (fun _ => true) true fuel 33 (Value.slice a len cap).cells.toList = some x) : IsNest w a len cap := by
  rcases Go.Deep.open_int_rows Try.underlying33 Try.underlying32 Try.underlying3 cells32 cells3 h with ⟨hcs, _⟩ | ⟨x, l, c, A, L, C, Z, hcs, _, hl, hm, _, hr⟩
  · simp [Value.cells] at hcs
    obtain ⟨rfl, rfl, rfl⟩ := hcs
    exact ⟨by omega, 0, 0, fun _ => none, fun _ => 0, fun _ => [], ⟨fun _ => ⟨rfl, rfl⟩, fun h => by omega, fun i hi => by omega, fun i hi => by omega⟩⟩
  · simp [Value.cells] at hcs
    obtain ⟨rfl, rfl, rfl⟩ := hcs
    unfold maxLen at hm
    obtain ⟨b, off, spot⟩ := x
    have hlen : ∀ i, i < len → ((Z i).take (L i)).length = L i := fun i hi => by
      obtain ⟨_, h1, _, h2, _⟩ := hr i (by omega)
      rw [List.length_take]; omega
    have hspot : 0 < len → spot = none := fun h0 => by simpa [Addr.add] using World.cell?_spot (hr 0 (by omega)).1
    refine ⟨by omega, b, off, A, C, fun i => (Z i).take (L i), ⟨(fun h => by cases h), fun h0 => by rw [hspot h0], fun i hi => ?_, fun i hi => ?_⟩⟩
    · have h1 := (hr i (by omega)).1
      have := hspot (by omega)
      subst this
      rw [Addr.add_lit] at h1
      rw [h1, hlen i hi]
    · obtain ⟨_, h1, h2, h3, _, h4, h5⟩ := hr i (by omega)
      refine ⟨rfl, by rw [hlen i hi]; exact h1, fun e => ?_, ?_⟩
      · have := h4 e; rw [hlen i hi]; omega
      · rw [hlen i hi]
        by_cases h0 : L i = 0
        · exact .inl h0
        · right
          cases hA : A i with
          | none => have := h4 hA; omega
          | some y =>
            obtain ⟨b', off', spot'⟩ := y
            have hc := (h5 _ hA).2
            have hs' : spot' = none := by simpa [Addr.add] using World.cell?_spot (hc 0 (by omega))
            subst hs'
            refine ⟨b', off', rfl, fun j hj => ?_⟩
            have := hc j (by omega)
            rw [Addr.add_lit] at this
            rw [this]
            simp [hj]

set_option maxRecDepth 100000 in
theorem lifted (os : Os) (started : os.Started) (H : Type) (enc : TypeId × Value → H) :
    ReturnsInHanded {} Try.checked os 5 .any (Rows.fnKnownPlacesForcedAdjacencySpec.pre6 enc Try.prog Try.f5 Rows.fnKnownPlacesForcedAdjacencyRow.domain false) (Rows.fnKnownPlacesForcedAdjacencySpec.post enc Try.prog Try.f5 false true false false) := by
  refine returnsInHanded_of_change (C := Try.checked) own started (by kernel_rfl) Try.func5
    (ChangeSpec.witness6 (enc := enc) (C := Try.checked) false ⟨#[], #[.slice none 0 0, .slice none 0 0, .bool false], []⟩ 8 (by kernel_rfl) (by kernel_rfl) (by kernel_rfl) (by kernel_rfl)) ?_
  intro W base args ds gs before hval0 hW hcnd _
  have hval : ∀ (j : Nat) t v, Try.f5.params[j]? = some t → args[j]? = some v → Value.okWide Try.prog W .any base t v := hval0
  have hW' := hW
  obtain ⟨p, q, hA0, hV, rfl, hfz, hnd⟩ := hW
  have hA : DataW.TrodAll enc Try.prog W 0 (fun _ => true) true Try.f5.params.toList args.toList ds p := hA0
  rw [Try.params5] at hA hval
  obtain ⟨v0, vs0, d0, ds0, p0, q0, hargs, rfl, rfl, h0, r0⟩ := trodAll_cons hA
  obtain ⟨v1, vs1, d1, ds1, p1, q1, rfl, rfl, rfl, h1, r1⟩ := trodAll_cons r0
  obtain ⟨v2, vs2, d2, ds2, p2, q2, rfl, rfl, rfl, h2, r2⟩ := trodAll_cons r1
  obtain ⟨rfl, rfl, rfl⟩ := trodAll_nil r2
  obtain rfl : args = #[v0, v1, v2] := by cases args; simp_all
  obtain ⟨rfl, rfl⟩ := trodVars_none hV
  obtain ⟨a0, len0, cap0, rfl⟩ := okWide_slice Try.underlying32 (hval 0 32 v0 rfl rfl)
  have k0 := h0
  have lt0 : ∀ x ∈ p0, x.block < W.heap.size := by obtain ⟨m, hm⟩ := k0; exact DataW.trod_lt m _ _ _ hm
  obtain ⟨z0, w0⟩ : ∃ zs, IsRow .i64 W a0 len0 cap0 zs := by
    obtain ⟨fuel, hf⟩ := h0
    rcases open_ints Try.underlying32 Try.underlying3 (by kernel_rfl) hf with ⟨hcs, _⟩ | ⟨x, l, c, zs, hcs, _, hl, hm, hz, _, hcell, hwz⟩
    · simp [Value.cells] at hcs
      obtain ⟨rfl, rfl, rfl⟩ := hcs
      exact ⟨[], .inl ⟨rfl, rfl, rfl, rfl⟩⟩
    · simp [Value.cells] at hcs
      obtain ⟨rfl, rfl, rfl⟩ := hcs
      exact ⟨zs, .inr ⟨_, rfl, hl, hm, by simpa using hz, hcell, hwz⟩⟩
  obtain ⟨a1, len1, cap1, rfl⟩ := okWide_slice Try.underlying33 (hval 1 33 v1 rfl rfl)
  have k1 := h1
  have lt1 : ∀ x ∈ p1, x.block < W.heap.size := by obtain ⟨m, hm⟩ := k1; exact DataW.trod_lt m _ _ _ hm
  have w1 : IsNest W a1 len1 cap1 := by
    obtain ⟨fuel, hf⟩ := h1
    exact nest_of hf
  obtain ⟨cy, rfl, rfl, rfl⟩ := open_bool Try.underlying4 (hval 2 4 v2 rfl rfl) h2
  clear hA0 hval0
  refine (walk a0 len0 cap0 z0 a1 len1 cap1 cy W w0 w1).mono fun e W' ⟨he, bel⟩ => ?_
  subst he
  exact ⟨_, rfl, _, _, _, [], _, [], hW', trodAll_mk1 (shut_bool Try.underlying4 _), (trodAll_cons_mk (Below.trod laidOut (by kernel_rfl) (of_decide_eq_true (by kernel_rfl)) k0 bel lt0) (trodAll_cons_mk (Below.trod laidOut (by kernel_rfl) (of_decide_eq_true (by kernel_rfl)) k1 bel lt1) (trodAll_cons_mk (shut_bool Try.underlying4 cy) trodAll_mk0))), rfl, bel.frame _, fun h => by cases h⟩

theorem over : Rows.fnKnownPlacesForcedAdjacencyRow.holds Try.pinned (OpenSpec.ofChange Rows.fnKnownPlacesForcedAdjacencySpec) :=
  OpenClaim.holds_of_wide 5 Try.f5 rfl rfl rfl rfl rfl rfl rfl ⟨rfl, rfl, rfl, rfl, rfl⟩ rfl rfl rfl rfl rfl (by kernel_rfl) Try.func5 (by kernel_rfl)
    (of_decide_eq_true (by kernel_rfl)) (by unfold Func.isWrapper; first | (rw [if_pos (by decide +kernel)]; kernel_rfl) | (rw [if_neg (by decide +kernel)]; exact ⟨rfl, rfl⟩))
    (fun os started H enc _ => lifted os started H enc)

theorem proved : Rows.FnKnownPlacesForcedAdjacencySaid := over
end Go.Proofs.Qxb6605219a.fnKnownPlacesForcedAdjacency
