import Derived.Test.Qxb6605262aRows
import Derived.WalkKit
import Derived.ProofKit
import Derived.OpenShut
import Derived.ShutString
import Derived.ChangeOld
import Derived.Below
import Derived.Lib.SmallJoins
import Derived.Test.Qxb6605262aThenEx
namespace Go.Proofs.Qxb6605262a
open Go.ChangeShapes Go.WideShapes Go.ChangeAt Go.RowKit
open Go.ChangeMaps (open_string shut_string)
set_option linter.unusedVariables false
set_option maxRecDepth 100000

theorem cells61 : Try.prog.cellsOf 61 = 4 := by kernel_rfl
theorem cells58 : Try.prog.cellsOf 58 = 3 := by kernel_rfl
theorem cells3 : Try.prog.cellsOf 3 = 1 := by kernel_rfl
theorem cells5 : Try.prog.cellsOf 5 = 1 := by kernel_rfl
theorem cells26 : Try.prog.cellsOf 26 = 1 := by kernel_rfl
theorem cells9 : Try.prog.cellsOf 9 = 1 := by kernel_rfl

theorem asg_trod {H : Type} {enc : TypeId × Value → H} {W : World} {base fuel : Nat} {sp : Nat → Bool} {held : Bool} {cs : List Value} {x : DataW H × List MemPlace} (h : DataW.trod enc Try.prog W base sp held fuel 61 cs = some x) :
    ∃ A : Asg, cs = [.int .i64 A.c, .int .u8 A.v.t, .int .u64 A.v.m, .string A.v.s] := by
  obtain ⟨y0, y1, y2, y3, n, _, hl, h0, h1, h2, h3⟩ := Go.Joins.trod_struct4 Try.underlying61 h
  rw [cells61] at hl
  match cs, hl with
  | [c0, c1, c2, c3], _ =>
    simp only [cells3, cells5, cells26, cells9] at h0 h1 h2 h3
    obtain ⟨z0, e0, _⟩ := DataW.trod_int Try.underlying3 h0
    obtain ⟨z1, e1, _⟩ := DataW.trod_int Try.underlying5 h1
    obtain ⟨z2, e2, _⟩ := DataW.trod_int Try.underlying26 h2
    obtain ⟨z3, e3, _⟩ := DataW.trod_string Try.underlying9 h3
    simp at e0 e1 e2 e3
    exact ⟨⟨z0, z1, z2, z3⟩, by rw [e0, e1, e2, e3]⟩

theorem sla_trod {H : Type} {enc : TypeId × Value → H} {W : World} {base fuel : Nat} {sp : Nat → Bool} {held : Bool} {a : Option Addr} {len cap : Nat} {x : DataW H × List MemPlace} (h : DataW.trod enc Try.prog W base sp held fuel 35 [.slice a len cap] = some x) :
    (∃ A, SlA W a len cap A) ∧ len ≤ 9223372036854775807 := by
  rcases Go.Deep.open_slice Try.underlying35 h with ⟨hcs, _⟩ | ⟨y, l, c, m, n, D, Pl, hcs, _, hl, hm, hmm, _, hx⟩
  · simp at hcs
    obtain ⟨rfl, rfl, rfl⟩ := hcs
    exact ⟨⟨fun _ => nulA, Nat.le_refl _, fun _ => ⟨rfl, rfl⟩, .inl rfl⟩, by omega⟩
  · simp at hcs
    obtain ⟨rfl, rfl, rfl⟩ := hcs
    unfold maxLen at hm
    refine ⟨?_, by omega⟩
    by_cases h0 : len = 0
    · exact ⟨fun _ => nulA, hl, (fun hh => by cases hh), .inl h0⟩
    · have hlm : len ≤ m := by rw [hmm]; split <;> omega
      obtain ⟨b, off, spot⟩ := y
      have hspot : spot = none := by
        obtain ⟨cs, h1, h2⟩ := hx 0 (by omega)
        obtain ⟨A, rfl⟩ := asg_trod h2
        rw [cells61] at h1
        obtain ⟨_, _, h3⟩ := World.cells?_some h1
        simpa [Addr.add] using World.cell?_spot (h3 0 (by omega))
      subst hspot
      have hex : ∀ i, i < len → ∃ A : Asg, Four W b (off + i * 4) A := fun i hi => by
        obtain ⟨cs, h1, h2⟩ := hx i (by omega)
        obtain ⟨A, rfl⟩ := asg_trod h2
        rw [cells61] at h1
        obtain ⟨_, _, h3⟩ := World.cells?_some h1
        have c0 := h3 0 (by omega)
        have c1 := h3 1 (by omega)
        have c2 := h3 2 (by omega)
        have c3 := h3 3 (by omega)
        rw [Addr.add_lit, Addr.add_lit] at c0 c1 c2 c3
        exact ⟨A, c0, c1, c2, c3⟩
      refine ⟨fun i => if hi : i < len then (hex i hi).choose else nulA, hl, (fun hh => by cases hh), .inr ⟨b, off, rfl, fun i hi => ?_⟩⟩
      rw [dif_pos hi]
      exact (hex i hi).choose_spec
end Go.Proofs.Qxb6605262a
