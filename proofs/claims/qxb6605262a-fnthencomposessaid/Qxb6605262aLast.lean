import Derived.Test.Qxb6605262aRead
namespace Go.Proofs.Qxb6605262a
open Go.RowKit
set_option linter.unusedVariables false

/-! ### Plain: insert into an ascending list -/

def ins (x : Nat) : List Nat → List Nat
  | [] => [x]
  | y :: t => if y < x then y :: ins x t else if y = x then y :: t else x :: y :: t

theorem ins_here : ∀ (xs : List Nat) (x j : Nat), (∀ i, i < j → xs.getD i 0 < x) → j < xs.length → xs.getD j 0 = x → ins x xs = xs
  | [], x, j, _, h, _ => by simp at h
  | y :: t, x, 0, _, _, h => by
    have h' : y = x := by simpa using h
    subst h'
    simp [ins]
  | y :: t, x, j + 1, h1, h2, h3 => by
    have h0 : y < x := by simpa using h1 0 (by omega)
    rw [ins, if_pos h0, ins_here t x j (fun i hi => by simpa using h1 (i + 1) (by omega)) (by simpa using h2) (by simpa using h3)]

theorem ins_new : ∀ (xs : List Nat) (x j : Nat), (∀ i, i < j → xs.getD i 0 < x) → j ≤ xs.length → (j < xs.length → x < xs.getD j 0) → ins x xs = xs.take j ++ x :: xs.drop j
  | [], x, j, _, h, _ => by simp [ins]
  | y :: t, x, 0, _, _, h => by
    have h' : x < y := by simpa using h (by simp)
    simp only [ins, if_neg (show ¬ y < x by omega), if_neg (show ¬ y = x by omega)]
    simp
  | y :: t, x, j + 1, h1, h2, h3 => by
    have h0 : y < x := by simpa using h1 0 (by omega)
    rw [ins, if_pos h0, ins_new t x j (fun i hi => by simpa using h1 (i + 1) (by omega)) (by simpa using h2) (fun hj => by simpa using h3 (by simpa using hj))]
    simp

theorem ins_above : ∀ (xs : List Nat) (x : Nat), (∀ y ∈ xs, x < y) → ins x xs = x :: xs
  | [], x, _ => rfl
  | y :: t, x, h => by
    have := h y (by simp)
    rw [ins, if_neg (by omega), if_neg (by omega)]

theorem ins_filter (p : Nat → Bool) (x : Nat) : ∀ (m s : Nat), s ≤ x → x < s + m → ins x ((List.range' s m).filter p) = (List.range' s m).filter (fun i => if i = x then true else p i)
  | 0, s, h1, h2 => by omega
  | m + 1, s, h1, h2 => by
    rw [List.range'_succ]
    by_cases e : s = x
    · subst e
      have hab : ∀ y ∈ (List.range' (s + 1) m).filter p, s < y := fun y hy => by
        have := (List.mem_filter.1 hy).1
        rw [List.mem_range'_1] at this
        omega
      have heq : (List.range' (s + 1) m).filter (fun i => if i = s then true else p i) = (List.range' (s + 1) m).filter p := by
        apply List.filter_congr
        intro i hi
        rw [List.mem_range'_1] at hi
        rw [if_neg (by omega)]
      rw [List.filter_cons, List.filter_cons, heq]
      simp only [if_true]
      by_cases hp : p s = true
      · rw [if_pos hp, ins, if_neg (by omega), if_pos rfl]
      · rw [if_neg hp, ins_above _ _ hab]
    · have ih := ins_filter p x m (s + 1) (by omega) (by omega)
      rw [List.filter_cons, List.filter_cons]
      simp only [if_neg e]
      by_cases hp : p s = true
      · rw [if_pos hp, if_pos hp, ins, if_pos (by omega), ih]
      · rw [if_neg hp, if_neg hp, ih]

/-- The columns that the first k assignments set, ascending. -/
def colsL (C : Nat → Asg) (k m : Nat) : List Nat := (List.range m).filter (setF C k)

theorem colsL_zero (C : Nat → Asg) (m : Nat) : colsL C 0 m = [] := by
  unfold colsL
  rw [List.filter_eq_nil_iff]
  intro a _
  simp [setF, lastV]

theorem colsL_step {C : Nat → Asg} {k m j : Nat} (h : (C k).c = (j : Int)) (hj : j < m) : colsL C (k + 1) m = ins j (colsL C k m) := by
  unfold colsL
  rw [List.range_eq_range', ins_filter _ _ _ _ (by omega) (by omega)]
  apply List.filter_congr
  intro i _
  rw [setF_step h]

theorem colsL_len (C : Nat → Asg) (k m : Nat) : (colsL C k m).length ≤ m := by
  unfold colsL
  have := List.length_filter_le (setF C k) (List.range m)
  simpa using this

theorem colsL_lt {C : Nat → Asg} {k m i : Nat} (h : i < (colsL C k m).length) : (colsL C k m).getD i 0 < m := by
  have h1 : (colsL C k m).getD i 0 ∈ colsL C k m := by
    rw [List.getD_eq_getElem?_getD, List.getElem?_eq_getElem h]
    exact List.getElem_mem h
  unfold colsL at h1
  exact List.mem_range.1 (List.mem_filter.1 h1).1

/-- What lastWins has gathered behind k columns. -/
def outL (drop : Bool) (F : Nat → Val) (cols : List Nat) (k : Nat) : List Asg := (cols.take k).filterMap fun j => if (drop && (F j).t == 0) then none else some ⟨(j : Int), F j⟩

theorem outL_len (drop : Bool) (F : Nat → Val) (cols : List Nat) (k : Nat) : (outL drop F cols k).length ≤ k := by
  unfold outL
  have h := List.length_filterMap_le (fun j => if (drop && (F j).t == 0) then none else some (⟨(j : Int), F j⟩ : Asg)) (cols.take k)
  have h2 := List.length_take_le k cols
  omega

theorem outL_no {drop : Bool} {F : Nat → Val} {cols : List Nat} {k : Nat} (hk : k < cols.length) (h : (drop && (F (cols.getD k 0)).t == 0) = true) : outL drop F cols (k + 1) = outL drop F cols k := by
  unfold outL
  rw [List.take_succ_eq_append_getElem hk, List.filterMap_append]
  have e : cols.getD k 0 = cols[k] := by simp [hk]
  rw [e] at h
  simp only [List.filterMap_cons, List.filterMap_nil, h, if_true, List.append_nil]
theorem outL_yes {drop : Bool} {F : Nat → Val} {cols : List Nat} {k : Nat} (hk : k < cols.length) (h : (drop && (F (cols.getD k 0)).t == 0) = false) : outL drop F cols (k + 1) = outL drop F cols k ++ [⟨((cols.getD k 0 : Nat) : Int), F (cols.getD k 0)⟩] := by
  unfold outL
  rw [List.take_succ_eq_append_getElem hk, List.filterMap_append]
  have e : cols.getD k 0 = cols[k] := by simp [hk]
  rw [e] at h ⊢
  simp only [List.filterMap_cons, List.filterMap_nil, h, Bool.false_eq_true, if_false]

theorem filterMap_filter_eq {α β : Type} (p : α → Bool) (f g : α → Option β) : ∀ l : List α, (∀ a ∈ l, (if p a then f a else none) = g a) → (l.filter p).filterMap f = l.filterMap g
  | [], _ => rfl
  | a :: l, h => by
    have ih := filterMap_filter_eq p f g l (fun b hb => h b (by simp [hb]))
    have ha := h a (by simp)
    rw [List.filter_cons]
    cases hp : p a
    · rw [hp] at ha
      simp only [Bool.false_eq_true, if_false] at ha ⊢
      rw [List.filterMap_cons, ← ha]
      exact ih
    · rw [hp] at ha
      simp only [if_true] at ha ⊢
      rw [List.filterMap_cons, List.filterMap_cons, ha, ih]

/-- THE PLAIN LAW: d.then(next) sets what lastWins says. -/
theorem then_is_last (d1w : Bool) (A1 : Nat → Asg) (n1 : Nat) (A2 : Nat → Asg) (n2 m : Nat) :
    thenL d1w A1 n1 A2 n2 m = outL d1w (valF (cat A1 n1 A2) (n1 + n2)) (colsL (cat A1 n1 A2) (n1 + n2) m) (colsL (cat A1 n1 A2) (n1 + n2) m).length := by
  unfold thenL outL
  rw [List.take_length]
  unfold colsL
  cases d1w
  · simp only [Bool.false_eq_true, if_false, Bool.false_and]
    unfold keepS
    exact (filterMap_filter_eq _ _ _ _ (fun a _ => rfl)).symm
  · simp only [if_true, Bool.true_and]
    unfold keepN
    refine (filterMap_filter_eq _ _ _ _ (fun a _ => ?_)).symm
    by_cases hs : setF (cat A1 n1 A2) (n1 + n2) a = true
    · rw [if_pos hs]
    · rw [if_neg hs]
      have hn : lastV (cat A1 n1 A2) (n1 + n2) a = none := by
        unfold setF at hs
        simpa using hs
      have hv : valF (cat A1 n1 A2) (n1 + n2) a = nul := by unfold valF; rw [hn]; rfl
      rw [hv]
      rfl

/-! ### Owned rows of ints -/

def nvals (xs : List Nat) : List Value := xs.map fun j => Value.int .i64 ((j : Nat) : Int)

theorem nvals_get {xs : List Nat} {i : Nat} (h : i < xs.length) : (nvals xs)[i]? = some (.int .i64 ((xs.getD i 0 : Nat) : Int)) := by
  simp [nvals, h]

theorem own_row {w : World} {base n : Nat} {v : Value} {xs : List Value} (h : w.ownsRow base 3 1 v n xs) (hn : 0 < n) :
    ∃ g cap f, v = .slice (some ⟨g, 0, none⟩) n cap ∧ base ≤ g ∧ n ≤ cap ∧ cap ≤ maxLen ∧ w.rowIs g 3 cap f ∧ ∀ i, i < n → xs[i]? = some (f i) := by
  rcases h.2 with ⟨_, h0⟩ | ⟨g, cap, cur, hv, hbg, hcur, hcap, hmax, hsz, htake⟩
  · omega
  · refine ⟨g, cap, fun i => cur.getD i (.bool false), hv, hbg, hcap, hmax, ⟨cur, hcur, by omega, fun i hi => ?_⟩, fun i hi => ?_⟩
    · show cur[i]? = some (cur.getD i _)
      rw [Array.getD_eq_getD_getElem?, Array.getElem?_eq_getElem (by omega)]; rfl
    · show xs[i]? = some (cur.getD i _)
      rw [← htake, List.getElem?_take_of_lt (by omega), Array.getElem?_toList, Array.getD_eq_getD_getElem?, Array.getElem?_eq_getElem (by omega)]; rfl

theorem row_own {w : World} {base n g cap : Nat} {f : Nat → Value} {xs : List Value} (h : w.rowIs g 3 cap f) (hb : base ≤ g) (hn : n ≤ cap) (hm : cap ≤ maxLen) (hl : xs.length = n) (hx : ∀ i, i < n → xs[i]? = some (f i)) :
    w.ownsRow base 3 1 (.slice (some ⟨g, 0, none⟩) n cap) n xs := by
  obtain ⟨c, hc, hs, hf⟩ := h
  refine ⟨by omega, .inr ⟨g, cap, c, rfl, hb, hc, hn, hm, by omega, ?_⟩⟩
  apply List.ext_getElem?
  intro i
  by_cases hi : i < n
  · rw [List.getElem?_take_of_lt (by omega), Array.getElem?_toList, hf i (by omega), hx i hi]
  · rw [List.getElem?_eq_none (by rw [List.length_take]; omega), List.getElem?_eq_none (by omega)]

/-- While insertSorted moves the tail up by one. -/
def shift (f : Nat → Value) (n i : Nat) : Nat → Value := fun p => if i < p ∧ p ≤ n then f (p - 1) else f p

theorem shift_step (f : Nat → Value) (n i p : Nat) (h : i + 1 ≤ n) : shift f n i p = if p = i + 1 then f i else shift f n (i + 1) p := by
  unfold shift
  by_cases e : p = i + 1
  · subst e; rw [if_pos (by omega), if_pos rfl]; rfl
  · rw [if_neg e]
    by_cases h2 : i + 1 < p ∧ p ≤ n
    · rw [if_pos (by omega), if_pos h2]
    · rw [if_neg (by omega), if_neg h2]

theorem ins_at {xs : List Nat} {x j i : Nat} (hj : j ≤ xs.length) (hi : i ≤ xs.length) (f : Nat → Value) (hf : ∀ p, p < xs.length → f p = .int .i64 ((xs.getD p 0 : Nat) : Int)) :
    (nvals (xs.take j ++ x :: xs.drop j))[i]? = some (if i = j then .int .i64 (x : Int) else shift f xs.length j i) := by
  unfold nvals shift
  rw [List.getElem?_map]
  by_cases h1 : i < j
  · rw [List.getElem?_append_left (by rw [List.length_take]; omega), List.getElem?_take_of_lt h1, if_neg (by omega), if_neg (by omega), hf i (by omega)]
    simp [show i < xs.length by omega]
  · rw [List.getElem?_append_right (by rw [List.length_take]; omega), List.length_take, Nat.min_eq_left hj]
    by_cases h2 : i = j
    · subst h2; simp
    · rw [if_neg h2, if_pos (by omega), hf (i - 1) (by omega)]
      obtain ⟨d, hd⟩ : ∃ d, i - j = d + 1 := ⟨i - j - 1, by omega⟩
      rw [hd, List.getElem?_cons_succ, List.getElem?_drop]
      rw [show j + d = i - 1 by omega]
      simp [show i - 1 < xs.length by omega]

theorem own_open {w : World} {base : Nat} {v : Value} {xs : List Nat} (h : w.ownsRow base 3 1 v xs.length (nvals xs)) :
    ∃ a cap g, v = .slice a xs.length cap ∧ (0 < xs.length → a = some ⟨g, 0, none⟩) ∧ ∀ p, p < xs.length → w.cell? ⟨g, p, none⟩ = some (.int .i64 ((xs.getD p 0 : Nat) : Int)) := by
  rcases h.2 with ⟨hv, h0⟩ | ⟨g, cap, cur, hv, _⟩
  · exact ⟨none, 0, 0, by rw [hv, h0], fun hh => by omega, fun p hp => by omega⟩
  · refine ⟨some ⟨g, 0, none⟩, cap, g, hv, fun _ => rfl, fun p hp => ?_⟩
    have := h.cells (g := g) (by rw [hv]; rfl) p _ (nvals_get hp)
    rw [Addr.add_lit, Nat.zero_add] at this
    exact this

theorem ins_len_new {xs : List Nat} {x j : Nat} (hj : j ≤ xs.length) : (xs.take j ++ x :: xs.drop j).length = xs.length + 1 := by
  rw [List.length_append, List.length_take, List.length_cons, List.length_drop]; omega

/-- While the tail moves. -/
structure Moving (w0 wr : World) (g cap : Nat) (f : Nat → Value) : Prop where
  below : Below w0.heap.size w0 wr
  row : wr.rowIs g 3 cap f
  lo : w0.heap.size ≤ g

theorem Moving.put {w0 wr : World} {g cap : Nat} {f f' : Nat → Value} (h : Moving w0 wr g cap f) (i : Nat) (u : Value) (hf : ∀ p, f' p = if p = i then u else f p) : Moving w0 (wr.setCell ⟨g, i, none⟩ u) g cap f' :=
  ⟨h.below.setCell h.lo _, (h.row.set i u).congr (fun p _ => (hf p).symm), h.lo⟩

theorem moving_start {w0 w w1 : World} {v v' : Value} {o : Obj} {xs : List Nat} (hB : Below w0.heap.size w0 w) (hown : w.ownsRow w0.heap.size 3 1 v xs.length (nvals xs)) (hg : (w.alloc o).grownBy w1 v.ownBlock) (ho : w1.ownsRow w0.heap.size 3 1 v' (xs.length + 1) (nvals xs ++ [.int .i64 0])) :
    ∃ g cap f, v' = .slice (some ⟨g, 0, none⟩) (xs.length + 1) cap ∧ xs.length + 1 ≤ cap ∧ cap ≤ maxLen ∧ (∀ p, p < xs.length → f p = .int .i64 ((xs.getD p 0 : Nat) : Int)) ∧ Moving w0 w1 g cap f := by
  obtain ⟨g, cap, f, hv, hbg, hcap, hmax, hrow, hf⟩ := own_row ho (by omega)
  have hs := hB.size
  refine ⟨g, cap, f, hv, hcap, hmax, fun p hp => ?_, ⟨?_, hrow, hbg⟩⟩
  · have := hf p (by omega)
    rw [List.getElem?_append_left (by unfold nvals; simp; omega), nvals_get hp] at this
    exact (Option.some.inj this).symm
  · have h1 := hB.alloc hs o
    refine h1.trans ⟨hg.os, hg.tape, hg.output, hg.size, fun k hk => hg.block k (by rw [World.size_alloc]; omega) (fun e => by have := (hown.lt k e.symm).1; omega)⟩

theorem moved {w0 wr : World} {g cap n k x : Nat} {f : Nat → Value} {xs : List Nat} (hM : Moving w0 wr g cap (shift f n k)) (hn : n = xs.length) (hcap : n + 1 ≤ cap) (hmax : cap ≤ maxLen) (hk : k ≤ n) (hf : ∀ p, p < n → f p = .int .i64 ((xs.getD p 0 : Nat) : Int)) (he : ins x xs = xs.take k ++ x :: xs.drop k) :
    ((wr.setCell ⟨g, k, none⟩ (.int .i64 (x : Int)))).ownsRow w0.heap.size 3 1 (.slice (some ⟨g, 0, none⟩) (n + 1) cap) (ins x xs).length (nvals (ins x xs)) ∧ Below w0.heap.size w0 (wr.setCell ⟨g, k, none⟩ (.int .i64 (x : Int))) := by
  subst hn
  have hM2 := hM.put k (.int .i64 (x : Int)) (f' := fun p => if p = k then .int .i64 (x : Int) else shift f xs.length k p) (fun p => rfl)
  refine ⟨?_, hM2.below⟩
  rw [he, ins_len_new hk]
  exact row_own hM2.row hM2.lo hcap hmax (by unfold nvals; rw [List.length_map, ins_len_new hk]) (fun i hi => ins_at hk (by omega) f hf)

set_option maxHeartbeats 1600000 in
set_option maxRecDepth 100000 in
theorem insert_any (w0 : World) (v : Value) (xs : List Nat) (x : Nat) (w : World) (hB : Below w0.heap.size w0 w) (hown : w.ownsRow w0.heap.size 3 1 v xs.length (nvals xs)) (hl : xs.length ≤ 1048576) :
    Calls Try.prog 38 #[v, .int .i64 (x : Nat)] w fun e w' => ∃ v', e = .returned v' ∧ w'.ownsRow w0.heap.size 3 1 v' (ins x xs).length (nvals (ins x xs)) ∧ Below w0.heap.size w0 w' := by
  obtain ⟨i0, hi, hz0, hz1, hz2⟩ := info_parts Try.info3
  obtain ⟨a, cap, g, rfl, ha, hc⟩ := own_open hown
  obtain ⟨n, hn⟩ : ∃ n, n = xs.length := ⟨_, rfl⟩
  rw [← hn] at hown hl ha hc ⊢
  have HN : Hid (n = xs.length) := hn
  clear hn
  go_enter Try.func38, Try.ntmps38
  go_wp2
  go_loopg [5] n (fun gh i wr => ∃ k : Nat, k ≤ n ∧ gh = n - k ∧ i = .int .i64 (k : Nat) ∧ w = wr ∧ ∀ p, p < k → xs.getD p 0 < x)
  case atStart => exact ⟨0, Nat.zero_le _, rfl, rfl, rfl, fun p hp => by omega⟩
  case round =>
    obtain ⟨k, hk, rfl, rfl, rfl, hall⟩ := hrel
    have HA : Hid (∀ p, p < k → xs.getD p 0 < x) := hall
    clear hall
    have hways : (k < n ∧ xs.getD k 0 < x) ∨ (k < n ∧ xs.getD k 0 = x) ∨ (k < n → x < xs.getD k 0) := by omega
    rcases hways with ⟨hlt, hx⟩ | ⟨hlt, hx⟩ | hx
    · obtain rfl := ha (by omega)
      have e0 := hc k hlt
      have hkz : (k : Int) < (n : Int) := by omega
      have hxz : ((xs.getD k 0 : Nat) : Int) < (x : Int) := by omega
      clear hc ha
      go_wp2
      go_roundg (n - (k + 1))
      case measure => go_light; omega
      case rel =>
        go_light
        refine ⟨k + 1, by omega, rfl, by go_num, rfl, fun p hp => ?_⟩
        by_cases e : p = k
        · subst e; exact hx
        · exact HA.out p (by omega)
    · obtain rfl := ha (by omega)
      have e0 := hc k hlt
      have hkz : (k : Int) < (n : Int) := by omega
      rw [hx] at e0
      clear hc ha
      go_wp2
      go_ret
      have e := ins_here xs x k HA.out (by have := HN.out; omega) hx
      exact ⟨_, rfl, by rw [e, ← HN.out]; exact hown, hB⟩
    · have HI : Hid (ins x xs = xs.take k ++ x :: xs.drop k) := ins_new xs x k HA.out (by have := HN.out; omega) (fun hh => hx (by have := HN.out; omega))
      have hbs := hB.size
      have hown2 : w.ownsRow w0.heap.size 3 1 (.slice a n cap) xs.length (nvals xs) := by rw [← HN.out]; exact hown
      have hgo : k = n ∨ (k < n ∧ x < xs.getD k 0) := by omega
      rcases hgo with e | ⟨hlt, hx2⟩
      · subst e
        have hkz : ¬ (k : Int) < (k : Int) := by omega
        go_wp2_with (at_builtin; refine append_step _ rfl _ _ 63 rfl w0.heap.size 3 i0 (.int .i64 0) 1 8 Try.underlying63 hi hz0 hz1 hz2 rfl (by decide) _ _ _ rfl (hown.alloc _) ?c1 ⟨w.heap.size, 0, none⟩ 1 1 [.int .i64 0] rfl rfl ?c2 ?c3 (by decide) ?c4 ?c5 ?_)
        case c1 => first | omega | (simp; omega)
        case c3 => first | rfl | (intro u hu; simp at hu; subst hu; rfl)
        case c4 => unfold maxLen; omega
        case c5 => omega
        intro v' w' ho hg' hown3
        rw [HN.out] at ho
        obtain ⟨g', cap', f, hv', hcap, hmax, hf, hM0⟩ := moving_start hB hown2 hg' ho
        rw [← HN.out] at hv' hcap hf
        subst hv'
        clear ho hg' hown3 hown hown2 hB hx hi hz0 hz1 hz2 hc ha
        go_wp2
        go_loopg [6] (k - k) (fun gh i wr => ∃ q : Nat, k ≤ q ∧ q ≤ k ∧ gh = q - k ∧ i = .int .i64 (q : Nat) ∧ Moving w0 wr g' cap' (shift f k q))
        case atStart => exact ⟨k, hk, Nat.le_refl _, rfl, by go_num, ⟨hM0.below, hM0.row.congr (fun p _ => by unfold shift; rw [if_neg (by omega)]), hM0.lo⟩⟩
        case round =>
          clear hM0
          obtain ⟨q, hkq, hqn, rfl, rfl, hM⟩ := hrel
          have e2 : q = k := by omega
          subst e2
          have c1 := hM.row.cell (i := q) (by omega)
          have c2 := hM.row.frozen q
          go_wp2
          go_ret
          obtain ⟨m1, m2⟩ := moved hM HN.out hcap hmax hk hf HI.out
          exact ⟨_, rfl, m1, m2⟩
      · obtain rfl := ha (by omega)
        have e0 := hc k hlt
        have hkz : (k : Int) < (n : Int) := by omega
        obtain ⟨y, hy⟩ : ∃ y, y = xs.getD k 0 := ⟨_, rfl⟩
        rw [← hy] at e0 hx2 hx
        have hxz : ¬ (y : Int) < (x : Int) := by omega
        have hxe : ((y : Int) == (x : Int)) = false := beq_eq_false_iff_ne.2 (by omega)
        clear hy
        clear hc ha
        go_wp2_with (at_builtin; refine append_step _ rfl _ _ 63 rfl w0.heap.size 3 i0 (.int .i64 0) 1 8 Try.underlying63 hi hz0 hz1 hz2 rfl (by decide) _ _ _ rfl (hown.alloc _) ?c1 ⟨w.heap.size, 0, none⟩ 1 1 [.int .i64 0] rfl rfl ?c2 ?c3 (by decide) ?c4 ?c5 ?_)
        case c1 => first | omega | (simp; omega)
        case c3 => first | rfl | (intro u hu; simp at hu; subst hu; rfl)
        case c4 => unfold maxLen; omega
        case c5 => omega
        intro v' w' ho hg' hown3
        rw [HN.out] at ho
        obtain ⟨g', cap', f, hv', hcap, hmax, hf, hM0⟩ := moving_start hB hown2 hg' ho
        rw [← HN.out] at hv' hcap hf
        subst hv'
        clear ho hg' hown3 hown hown2 hB e0 hx hx2 hxz hxe hi hz0 hz1 hz2 hkz hlt
        go_wp2
        go_loopg [6] (n - k) (fun gh i wr => ∃ q : Nat, k ≤ q ∧ q ≤ n ∧ gh = q - k ∧ i = .int .i64 (q : Nat) ∧ Moving w0 wr g' cap' (shift f n q))
        case atStart => exact ⟨n, hk, Nat.le_refl _, rfl, by go_num, ⟨hM0.below, hM0.row.congr (fun p _ => by unfold shift; rw [if_neg (by omega)]), hM0.lo⟩⟩
        case round =>
          clear hM0
          obtain ⟨q, hkq, hqn, rfl, rfl, hM⟩ := hrel
          by_cases hgt : k < q
          · obtain ⟨r, rfl⟩ : ∃ r, q = r + 1 := ⟨q - 1, by omega⟩
            have c0 : wr.cell? ⟨g', r, none⟩ = some (f r) := by
              have := hM.row.cell (i := r) (by omega)
              rw [this]; unfold shift; rw [if_neg (by omega)]
            have hfr := hf r (by omega)
            rw [hfr] at c0
            have c1 := hM.row.cell (i := r + 1) (by omega)
            have c2 := hM.row.frozen (r + 1)
            have hM2 := hM.put (r + 1) (.int .i64 ((xs.getD r 0 : Nat) : Int)) (f' := shift f n r) (fun p => by rw [← hfr]; exact shift_step f n r p hqn)
            go_wp2
            go_roundg (r - k)
            case measure => go_light; omega
            case rel => go_light; exact ⟨r, by omega, by omega, rfl, by go_num, hM2⟩
          · have e2 : q = k := by omega
            subst e2
            have c1 := hM.row.cell (i := q) (by omega)
            have c2 := hM.row.frozen q
            go_wp2
            go_ret
            obtain ⟨m1, m2⟩ := moved hM HN.out hcap hmax hk hf HI.out
            exact ⟨_, rfl, m1, m2⟩
end Go.Proofs.Qxb6605262a
