import Derived.Test.Qxb6605262aDecode
import Derived.Deep.Cut
import Derived.Deep.CutRange
namespace Go.Proofs.Qxb6605262a
open Go.RowKit
set_option linter.unusedVariables false

theorem ownsRow_base {w : World} {B base : Nat} {e : TypeId} {size : Nat} {v : Value} {n : Nat} {xs : List Value} (h : w.ownsRow B e size v n xs) (hb : base ≤ B) : w.ownsRow base e size v n xs := by
  refine ⟨h.1, ?_⟩
  rcases h.2 with h2 | ⟨g, cap, cur, hv, hg, r⟩
  · exact .inl h2
  · exact .inr ⟨g, cap, cur, hv, by omega, r⟩

theorem grown_none {w w' : World} {row : Option Nat} (h : w.grownBy w' none) : w.grownBy w' row := ⟨h.os, h.tape, h.output, h.size, fun k hk _ => h.block k hk (by simp)⟩

/-- An append to a row that the call owns: it stays in its block, or moves to a new one. -/
theorem append_step {P : Program} (w : World) {ops : Array Oper} {rest : List Oper} {o : Oper} {a : Act} {Q : Exit → Act → World → Prop}
    (hg : o.guard = none) (s x : Operand) (t : TypeId) (hop : o.op = Op.call { callee := Callee.builtin Builtin.append, args := #[s, x], argTypes := #[t, t] })
    (base : Nat) (e : TypeId) (i : TypeInfo) (z : Value) (size bytes : Nat) (h1 : P.underlying t = some (.slice e)) (h2 : P.info? e = some i) (h3 : i.zero = some z) (h4 : i.size = size) (h5 : i.bytes = bytes) (h6 : z.cells.size = size) (h7 : 0 < size)
    (v : Value) (n : Nat) (xs : List Value) (hs : a.eval s = v) (hown : w.ownsRow base e size v n xs) (hbase : base ≤ w.heap.size)
    (ad : Addr) (m c : Nat) (news : List Value) (hx : a.eval x = .slice (some ad) m c) (hn : news.length = m * size) (hc : ∀ j u, news[j]? = some u → w.cell? (ad.add j) = some u) (h1c : ∀ u ∈ news, u.oneCell' = true)
    (hm : 0 < m) (b1 : n + m ≤ maxLen) (b2 : (n + m) * bytes ≤ 140737488355328)
    (hK : ∀ v' w', w'.ownsRow base e size v' (n + m) (xs ++ news) → w.grownBy w' v.ownBlock → (∀ k, v'.ownBlock = some k → v.ownBlock = some k ∨ w.heap.size ≤ k) → wpList P ops Q rest (a.put o.dst v') w') :
    wpList P ops Q (o :: rest) a w := by
  rcases hown.2 with ⟨hv, h0⟩ | ⟨g, cap, cur, hv, hbg, hcur, hcap, hmax, hsz, htake⟩
  · have hs' : a.eval s = .slice none n 0 := by rw [hs, hv, h0]
    have hx0 : xs = [] := List.eq_nil_of_length_eq_zero (by rw [hown.1, h0]; simp)
    refine wpList_append_grows w hg s x t hop e i z size bytes h1 h2 h3 h4 h5 h6 h7 none n 0 xs hs' (fun _ => ⟨h0, rfl⟩) hown.1 (fun b hb => by cases hb) ad m c news hx hn hc h1c (by omega) b1 b2 ?_
    intro v' w' ho hgr
    exact hK v' w' (ownsRow_base ho hbase) (grown_none hgr) (fun k hk => .inr (ho.lt k hk).1)
  · have hs' : a.eval s = .slice (some ⟨g, 0, none⟩) n cap := by rw [hs, hv]
    by_cases hfit : n + m ≤ cap
    · refine wpList_append_fits w hg s x t hop base e i size h1 h2 h4 g n cap xs hs' (by rw [← hv]; exact hown) ad m c news hx hn hc h1c hfit ?_
      intro w' ho hgr
      refine hK _ w' ho (by rw [hv]; exact hgr) (fun k hk => .inl ?_)
      rw [hv]; exact hk
    · refine wpList_append_grows w hg s x t hop e i z size bytes h1 h2 h3 h4 h5 h6 h7 (some ⟨g, 0, none⟩) n cap xs hs' (fun hh => by cases hh) hown.1 (fun b hb => ?_) ad m c news hx hn hc h1c (by omega) b1 b2 ?_
      · cases hb
        exact hown.cells (g := g) (by rw [hv]; rfl)
      · intro v' w' ho hgr
        exact hK v' w' (ownsRow_base ho hbase) (grown_none hgr) (fun k hk => .inr (ho.lt k hk).1)

/-- From w to w' only v0's own block and new blocks have turned; v lies in that block or in a new one. -/
structure Grow (w w' : World) (v0 v : Value) : Prop where
  grown : w.grownBy w' v0.ownBlock
  own : ∀ k, v.ownBlock = some k → v0.ownBlock = some k ∨ w.heap.size ≤ k

theorem Grow.refl (w : World) (v : Value) : Grow w w v v := ⟨World.grownBy.refl _ _, fun k hk => .inl hk⟩

theorem Grow.step {w w1 w2 : World} {v0 v v' : Value} {o : Obj} (h : Grow w w1 v0 v) (hg : (w1.alloc o).grownBy w2 v.ownBlock) (ho : ∀ k, v'.ownBlock = some k → v.ownBlock = some k ∨ w1.heap.size + 1 ≤ k) : Grow w w2 v0 v' := by
  have hs := h.grown.size
  refine ⟨⟨hg.os.trans h.grown.os, hg.tape.trans h.grown.tape, hg.output.trans h.grown.output, ?_, fun k hk hne => ?_⟩, fun k hk => ?_⟩
  · have := hg.size
    rw [World.size_alloc] at this
    omega
  · have h1 : some k ≠ v.ownBlock := fun e => by
      rcases h.own k e.symm with e2 | e2
      · exact hne e2.symm
      · omega
    rw [hg.block k (by rw [World.size_alloc]; omega) h1, Below.heap_alloc _ _ _ (by omega)]
    exact h.grown.block k hk hne
  · rcases ho k hk with e | e
    · exact h.own k e
    · exact .inr (by omega)

def bvals (bs : List Nat) : List Value := bs.map fun b => Value.int .u8 ((b : Nat) : Int)

theorem bvals_append (a b : List Nat) : bvals (a ++ b) = bvals a ++ bvals b := List.map_append

theorem Try.info5 : (Try.prog.info? 5).map (fun i => (i.zero, i.size, i.bytes)) = some (some (.int .u8 0), 1, 1) := by kernel_rfl

theorem one_new (w : World) (x : Value) (t : TypeId) : ∀ j u, [x][j]? = some u → (w.alloc (.cells #[x] t)).cell? ((⟨w.heap.size, 0, none⟩ : Addr).add j) = some u := by
  intro j u hj
  match j, hj with
  | 0, hj => simp at hj; subst hj; simp [Addr.add]
  | j + 1, hj => simp at hj

theorem own_snoc {w : World} {base : Nat} {v : Value} {xs done : List Nat} {b : Nat} (h : w.ownsRow base 5 1 v (xs.length + done.length + 1) (bvals (xs ++ done) ++ [.int .u8 ((b : Nat) : Int)])) :
    w.ownsRow base 5 1 v (xs ++ (done ++ [b])).length (bvals (xs ++ (done ++ [b]))) := by
  rw [← List.append_assoc, bvals_append, List.length_append, List.length_append]
  exact h

theorem or128 {c : Nat} (h : c < 18446744073709551616) : bits BinOp.or IntKind.u8 ((c : Int) % 256) 128 = ((c % 128 + 128 : Nat) : Int) := by
  have e : (c : Int) % 256 = ((c % 256 : Nat) : Int) := by omega
  rw [e]
  show IntKind.u8.wrap ((BitVec.ofInt 8 ((c % 256 : Nat) : Int) ||| BitVec.ofInt 8 (128 : Int)).toNat : Int) = _
  have e1 : BitVec.ofInt 8 ((c % 256 : Nat) : Int) = BitVec.ofNat 8 (c % 256) := BitVec.ofInt_natCast 8 _
  have e2 : BitVec.ofInt 8 (128 : Int) = BitVec.ofNat 8 128 := rfl
  rw [e1, e2, BitVec.toNat_or, BitVec.toNat_ofNat, BitVec.toNat_ofNat]
  have e3 : c % 256 % 2 ^ 8 = c % 256 := by omega
  have e4 : 128 % 2 ^ 8 = 128 := by omega
  rw [e3, e4]
  have key : ∀ m : Fin 256, (m.val ||| 128) = m.val % 128 + 128 := by decide +kernel
  have := key ⟨c % 256, by omega⟩
  simp only at this
  rw [this, IntKind.wrap_u8]
  omega

set_option maxHeartbeats 800000 in
set_option maxRecDepth 100000 in
theorem app_any (v0 : Value) (xs : List Nat) (x : Int) (base : Nat) (w : World) (hown : w.ownsRow base 5 1 v0 xs.length (bvals xs)) (hbase : base ≤ w.heap.size) (hx : xs.length ≤ 2000000) (h1 : -9223372036854775808 ≤ x) (h2 : x ≤ 9223372036854775807) :
    Calls Try.prog 31 #[v0, .int .i64 x] w fun e w' => ∃ v', e = .returned v' ∧ w'.ownsRow base 5 1 v' (xs ++ enc 8 (zig x)).length (bvals (xs ++ enc 8 (zig x))) ∧ Grow w w' v0 v' := by
  obtain ⟨i0, hi, hz0, hz1, hz2⟩ := info_parts Try.info5
  have hzl := zig_lt h1 h2
  obtain ⟨u, hu⟩ : ∃ u, u = zig x := ⟨_, rfl⟩
  rw [← hu] at hzl ⊢
  have HU : Hid (u = zig x) := hu
  clear hu
  go_enter Try.func31, Try.ntmps31
  go_upto_region 1 with fail
  go_cut [5] from 6 to 12 (fun s5 wx => s5 = .int .u64 (u : Nat) ∧ w = wx)
  case first =>
    by_cases hneg : x < 0
    · have hz := zig_neg hneg h1
      rw [← HU.out] at hz
      go_wp2_with fail
      go_meet
      go_light
      exact ⟨rfl, rfl⟩
    · have hpos : 0 ≤ x := by omega
      have hz := zig_pos hpos h2
      rw [← HU.out] at hz
      clear hneg
      go_wp2_with fail
      go_meet
      go_light
      exact ⟨rfl, rfl⟩
  case rest =>
    obtain ⟨rfl, rfl⟩ := hcut
    go_wp2
    go_loopg [0, 5, 13] 8 (fun gh s0 s5 s13 wr => ∃ (i u' : Nat) (done : List Nat) (vb : Value), i ≤ 8 ∧ gh = 8 - i ∧ vb = s0 ∧ s5 = .int .u64 (u' : Nat) ∧ s13 = .int .i64 (i : Nat) ∧ u' < 18446744073709551616 ∧ done.length ≤ i ∧ done ++ enc (8 - i) u' = enc 8 u ∧
      wr.ownsRow base 5 1 vb (xs ++ done).length (bvals (xs ++ done)) ∧ Grow w wr v0 vb)
    case atStart => exact ⟨0, u, [], v0, by omega, rfl, rfl, rfl, rfl, hzl, Nat.le_refl _, rfl, by simpa using hown, Grow.refl w v0⟩
    case round =>
      obtain ⟨i, u', done, vb, hi8, rfl, rfl, rfl, rfl, hu', hdl, hdone, hown', hgr⟩ := hrel
      have HD : Hid (done ++ enc (8 - i) u' = enc 8 u) := hdone
      have hlen : (xs ++ done).length ≤ 2000008 := by rw [List.length_append]; omega
      have hb : base ≤ wr.heap.size := Nat.le_trans hbase hgr.grown.size
      clear hdone
      by_cases hlt : i < 8
      · obtain ⟨f, hf⟩ : ∃ f, 8 - i = f + 1 := ⟨7 - i, by omega⟩
        have HF : Hid (8 - i = f + 1) := hf
        clear hf
        have hiz : (i : Int) < 8 := by omega
        by_cases hs : u' < 128
        · have hsz : (u' : Int) < 128 := by omega
          go_wp2_with (at_builtin; refine append_step _ rfl _ _ 22 rfl base 5 i0 (.int .u8 0) 1 1 Try.underlying22 hi hz0 hz1 hz2 rfl (by decide) _ _ _ rfl (hown'.alloc _) ?c1 ⟨wr.heap.size, 0, none⟩ 1 1 [.int .u8 (u' : Nat)] rfl rfl ?c2 ?c3 (by decide) ?c4 ?c5 ?_)
          case c1 => simp; omega
          case c2 => exact one_new _ _ _
          case c3 => intro u hu; simp at hu; subst hu; rfl
          case c4 => unfold maxLen; omega
          case c5 => omega
          intro v' w' ho hg' hown2
          go_wp2
          go_ret
          refine ⟨v', rfl, ?_, hgr.step hg' hown2⟩
          have e2 := HD.out
          rw [HF.out, enc, if_pos hs] at e2
          rw [← e2]
          exact own_snoc ho
        · have hsz : ¬ (u' : Int) < 128 := by omega
          have hor := or128 hu'
          obtain ⟨bb, hbb⟩ : ∃ bb, bb = u' % 128 + 128 := ⟨_, rfl⟩
          rw [← hbb] at hor
          have HB : Hid (bb = u' % 128 + 128) := hbb
          have HS : Hid (¬ u' < 128) := hs
          clear hbb hs
          go_wp2_with (at_builtin; refine append_step _ rfl _ _ 22 rfl base 5 i0 (.int .u8 0) 1 1 Try.underlying22 hi hz0 hz1 hz2 rfl (by decide) _ _ _ rfl (hown'.alloc _) ?d1 ⟨wr.heap.size, 0, none⟩ 1 1 [.int .u8 (bb : Nat)] rfl rfl ?d2 ?d3 (by decide) ?d4 ?d5 ?_)
          case d1 => first | omega | (simp; omega)
          case d3 => first | rfl | (intro u hu; simp at hu; subst hu; rfl)
          case d4 => unfold maxLen; omega
          case d5 => omega
          intro v' w' ho hg' hown2
          have hgr' := hgr.step hg' hown2
          have ho' := own_snoc ho
          clear hg' hown2 ho hown' hgr
          go_wp2
          go_roundg (8 - (i + 1))
          case measure => go_light; omega
          case rel =>
            go_light
            refine ⟨i + 1, u' / 128, done ++ [bb], v', by omega, rfl, rfl, by go_num, by go_num, by omega, by simp; omega, ?_, ho', hgr'⟩
            have e2 := HD.out
            rw [HF.out, enc, if_neg HS.out, ← HB.out] at e2
            rw [← e2, show 8 - (i + 1) = f by have := HF.out; omega]
            simp
      · have e : i = 8 := by omega
        subst e
        have hiz : ¬ (8 : Int) < 8 := by omega
        have hwr : (u' : Int) % 256 = ((u' % 256 : Nat) : Int) := by omega
        obtain ⟨bb, hbb⟩ : ∃ bb, bb = u' % 256 := ⟨_, rfl⟩
        rw [← hbb] at hwr
        have HB : Hid (bb = u' % 256) := hbb
        clear hbb
        go_wp2_with (at_builtin; refine append_step _ rfl _ _ 22 rfl base 5 i0 (.int .u8 0) 1 1 Try.underlying22 hi hz0 hz1 hz2 rfl (by decide) _ _ _ rfl (hown'.alloc _) ?e1 ⟨wr.heap.size, 0, none⟩ 1 1 [.int .u8 (bb : Nat)] rfl rfl ?e2 ?e3 (by decide) ?e4 ?e5 ?_)
        case e1 => first | omega | (simp; omega)
        case e3 => first | rfl | (intro u hu; simp at hu; subst hu; rfl)
        case e4 => unfold maxLen; omega
        case e5 => omega
        intro v' w' ho hg' hown2
        go_wp2
        go_ret
        refine ⟨v', rfl, ?_, hgr.step hg' hown2⟩
        have e2 := HD.out
        rw [Nat.sub_self, enc, ← HB.out] at e2
        rw [← e2]
        exact own_snoc ho

theorem zzapp_any (v0 : Value) (xs : List Nat) (x : Int) (base : Nat) (w : World) (hown : w.ownsRow base 5 1 v0 xs.length (bvals xs)) (hbase : base ≤ w.heap.size) (hx : xs.length ≤ 2000000) (h1 : -9223372036854775808 ≤ x) (h2 : x ≤ 9223372036854775807) :
    Calls Try.prog 9 #[v0, .int .i64 x] w fun e w' => ∃ v', e = .returned v' ∧ w'.ownsRow base 5 1 v' (xs ++ enc 8 (zig x)).length (bvals (xs ++ enc 8 (zig x))) ∧ Grow w w' v0 v' := by
  go_enter Try.func9, Try.ntmps9
  go_wp2_with fail
  refine (app_any v0 xs x base w hown hbase hx h1 h2).mono ?_
  rintro e w1 ⟨v', rfl, h⟩
  go_wp2
  go_ret
  exact ⟨v', rfl, h⟩
end Go.Proofs.Qxb6605262a
