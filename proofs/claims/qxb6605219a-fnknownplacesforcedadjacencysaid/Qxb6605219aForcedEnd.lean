import Derived.Test.Qxb6605219aForcedLem
namespace Go.Proofs.Qxb6605219a
open Go.RowKit
set_option linter.unusedVariables false

theorem hasBit_has (b n v wd z : Nat) (X : Nat → Nat) (w : World) (hr : w.rowIs b 40 (n * wd) (fun i => .int .u64 ((X i : Nat) : Int))) (hN : n * wd ≤ 262144) (hw : n ≤ 64 * wd) (hX : ∀ i, X i < 18446744073709551616) (hv : v < n) (hz : z < n) (hn : n ≤ 4096) :
    Calls Try.prog 17 #[.slice (some ⟨b, 0, none⟩) (n * wd) (n * wd), .int .i64 (v : Nat), .int .i64 (wd : Nat), .int .i64 (z : Nat)] w fun e w' => e = .returned (.bool (has X wd v z)) ∧ w = w' :=
  hasBit_any b (n * wd) v wd z X w (by omega) hr (idx_lt hv (by omega)) (hX _) (by omega)

section
variable {n np : Nat} {o L pos : Nat → Nat} {q : Nat → Nat → Nat} {wd : Nat} {kn : Nat → Bool} {XA XD : Nat → Nat}

theorem kn_one_true (g : Gr n np o L q pos) (hD : DescT n np L q pos wd 0 XD) (hk : ∀ k, 1 ≤ k → k ≤ n → (kn k = true ↔ KN n np o L q pos k)) (hn : 1 ≤ n) (h : ∀ z, z < n → z = o 0 ∨ has XD wd (o 0) z = true) : kn 1 = true := by
  rw [hk 1 (Nat.le_refl _) hn, g.want_one hn]
  intro z hz
  rcases h z hz with e | e
  · exact .inl e
  · exact .inr ((descT_all g hD (g.o_lt 0 hn) hz).1 e)

theorem kn_one_false (g : Gr n np o L q pos) (hD : DescT n np L q pos wd 0 XD) (hk : ∀ k, 1 ≤ k → k ≤ n → (kn k = true ↔ KN n np o L q pos k)) (hn : 1 ≤ n) {z : Nat} (hz : z < n) (h1 : z ≠ o 0) (h2 : has XD wd (o 0) z = false) : kn 1 = false := by
  cases h : kn 1
  · rfl
  · rw [hk 1 (Nat.le_refl _) hn, g.want_one hn] at h
    rcases h z hz with e | e
    · exact absurd e h1
    · rw [(descT_all g hD (g.o_lt 0 hn) hz).2 e] at h2; cases h2

theorem kn_more_true (g : Gr n np o L q pos) (hA : AncT n np L q pos wd n XA) (hD : DescT n np L q pos wd 0 XD) (hk : ∀ k, 1 ≤ k → k ≤ n → (kn k = true ↔ KN n np o L q pos k)) {j : Nat} (hn : j + 2 ≤ n) (h0 : has XA wd (o (j + 1)) (o j) = true)
    (h : ∀ z, z < n → z = o j ∨ z = o (j + 1) ∨ has XA wd (o j) z = true ∨ has XD wd (o (j + 1)) z = true) : kn (j + 2) = true := by
  have h1 := g.o_lt j (by omega)
  have h2 := g.o_lt (j + 1) (by omega)
  rw [hk (j + 2) (by omega) hn, g.want_more (by omega) hn]
  refine ⟨(ancT_all g hA h2 h1).1 h0, fun z hz => ?_⟩
  rcases h z hz with e | e | e | e
  · exact .inl e
  · exact .inr (.inl e)
  · exact .inr (.inr (.inl ((ancT_all g hA h1 hz).1 e)))
  · exact .inr (.inr (.inr ((descT_all g hD h2 hz).1 e)))

theorem kn_more_false0 (g : Gr n np o L q pos) (hA : AncT n np L q pos wd n XA) (hk : ∀ k, 1 ≤ k → k ≤ n → (kn k = true ↔ KN n np o L q pos k)) {j : Nat} (hn : j + 2 ≤ n) (h0 : has XA wd (o (j + 1)) (o j) = false) : kn (j + 2) = false := by
  have h1 := g.o_lt j (by omega)
  have h2 := g.o_lt (j + 1) (by omega)
  cases h : kn (j + 2)
  · rfl
  · rw [hk (j + 2) (by omega) hn, g.want_more (by omega) hn] at h
    rw [(ancT_all g hA h2 h1).2 h.1] at h0; cases h0

theorem kn_more_false (g : Gr n np o L q pos) (hA : AncT n np L q pos wd n XA) (hD : DescT n np L q pos wd 0 XD) (hk : ∀ k, 1 ≤ k → k ≤ n → (kn k = true ↔ KN n np o L q pos k)) {j : Nat} (hn : j + 2 ≤ n) {z : Nat} (hz : z < n)
    (e1 : z ≠ o j) (e2 : z ≠ o (j + 1)) (e3 : has XA wd (o j) z = false) (e4 : has XD wd (o (j + 1)) z = false) : kn (j + 2) = false := by
  have h1 := g.o_lt j (by omega)
  have h2 := g.o_lt (j + 1) (by omega)
  cases h : kn (j + 2)
  · rfl
  · rw [hk (j + 2) (by omega) hn, g.want_more (by omega) hn] at h
    rcases h.2 z hz with e | e | e | e
    · exact absurd e e1
    · exact absurd e e2
    · rw [(ancT_all g hA h1 hz).2 e] at e3; cases e3
    · rw [(descT_all g hD h2 hz).2 e] at e4; cases e4
end
end Go.Proofs.Qxb6605219a
