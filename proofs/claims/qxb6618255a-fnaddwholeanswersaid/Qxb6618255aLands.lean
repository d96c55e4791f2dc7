import Derived.Test.Qxb6618255aNext
import Derived.Laws.CopyOwn
import Derived.Deep.OwnRows
import Derived.OwnWalk
namespace Go.Proofs.Qxb6618255a
open Go.RowKit

theorem Try.info5 : (Try.prog.info? 5).map (fun i => (i.zero, i.size, i.bytes)) = some (some (.int .u8 0), 1, 1) := by kernel_rfl
theorem Try.size5 : (Try.prog.info? 5).map (·.size) = some 1 := by kernel_rfl

/-- The bytes as cells. -/
def cellsOf (zs : List Int) (n : Nat) : List Value := (zs.take n).map (Value.int .u8)

theorem short_no (a : Option Addr) (n c : Nat) (x y : Int) (hn : 1048576 < n) (w : World) :
    Calls Try.prog 3 #[.slice a n c, .int .i64 x, .int .i64 y] w fun e w' => e = .returned (.bool true) ∧ Below w.heap.size w w' := by
  go_enter Try.func3, Try.ntmps3
  go_wp2_with (go_at_call 7; refine (bytes7_no _ _ _ _ _ hn _).mono ?_; rintro e w' ⟨rfl, rfl⟩)
  go_ret
  exact ⟨rfl, Below.refl _ _⟩

theorem pos_no (a : Option Addr) (n c : Nat) (x y : Int) (hn : n ≤ 1048576) (hx : x < 0 ∨ (n : Int) < x) (w : World) :
    Calls Try.prog 3 #[.slice a n c, .int .i64 x, .int .i64 y] w fun e w' => e = .returned (.bool true) ∧ Below w.heap.size w w' := by
  rcases hx with h | h
  · go_enter Try.func3, Try.ntmps3
    go_wp2_with (go_at_call 7; refine (bytes7_yes _ _ _ _ _ hn _).mono ?_; rintro e w' ⟨rfl, rfl⟩)
    go_ret
    exact ⟨rfl, Below.refl _ _⟩
  · have h' : ¬ x < 0 := by omega
    go_enter Try.func3, Try.ntmps3
    go_wp2_with (go_at_call 7; refine (bytes7_yes _ _ _ _ _ hn _).mono ?_; rintro e w' ⟨rfl, rfl⟩)
    go_ret
    exact ⟨rfl, Below.refl _ _⟩

theorem k_no (a : Option Addr) (n c p : Nat) (y : Int) (hn : n ≤ 1048576) (hp : p ≤ n) (hy : y < p ∨ (n : Int) < y) (w : World) :
    Calls Try.prog 3 #[.slice a n c, .int .i64 p, .int .i64 y] w fun e w' => e = .returned (.bool true) ∧ Below w.heap.size w w' := by
  rcases hy with h | h
  · go_enter Try.func3, Try.ntmps3
    go_wp2_with (go_at_call 7; refine (bytes7_yes _ _ _ _ _ hn _).mono ?_; rintro e w' ⟨rfl, rfl⟩)
    go_ret
    exact ⟨rfl, Below.refl _ _⟩
  · have h' : ¬ y < p := by omega
    go_enter Try.func3, Try.ntmps3
    go_wp2_with (go_at_call 7; refine (bytes7_yes _ _ _ _ _ hn _).mono ?_; rintro e w' ⟨rfl, rfl⟩)
    go_ret
    exact ⟨rfl, Below.refl _ _⟩

theorem cellsOf_len {zs : List Int} {n : Nat} (h : n ≤ zs.length) : (cellsOf zs n).length = n := by simp [cellsOf]; omega
theorem cellsOf_get {zs : List Int} {n j : Nat} {v : Value} (hv : (cellsOf zs n)[j]? = some v) : j < zs.length ∧ v = .int .u8 (zs.getD j 0) := by
  simp only [cellsOf, List.getElem?_map, Option.map_eq_some_iff] at hv
  obtain ⟨x, hx, rfl⟩ := hv
  rw [List.getElem?_take] at hx
  split at hx
  · have := (List.getElem?_eq_some_iff.1 hx).1
    exact ⟨this, by simp [List.getD, hx]⟩
  · cases hx

/-- Behind 'make' and 'copy' the new row holds the old one's bytes. -/
theorem holds_copied {w2 : World} {g n : Nat} {zs : List Int} (hz : n ≤ zs.length) (h : w2.heap[g]? = some (.cells (splice (madeCells #[.int .u8 0] n).toList 0 (cellsOf zs n)).toArray 5 (0, 0))) :
    Holds w2 (some ⟨g, 0, none⟩) n (fun i => zs.getD i 0) := by
  have hl := cellsOf_len hz
  have hlt : g < w2.heap.size := (Array.getElem?_eq_some_iff.1 h).1
  refine .inr ⟨g, 0, rfl, hlt, fun i hi => ?_⟩
  simp only [World.cell?, h]
  have e : (cellsOf zs n)[i]? = some (.int .u8 (zs.getD i 0)) := by
    simp only [cellsOf, List.getElem?_map, List.getElem?_take, hi, if_true]
    simp [List.getD, show i < zs.length by omega]
  have e2 : (splice (madeCells #[.int .u8 0] n).toList 0 (cellsOf zs n))[i]? = some (.int .u8 (zs.getD i 0)) := by
    unfold splice
    rw [List.take_zero, List.nil_append, List.getElem?_append_left (by omega)]
    exact e
  simpa using e2

theorem Holds.below {w w' : World} {a : Option Addr} {n : Nat} {f : Nat → Int} (h : Holds w a n f) (hb : Below w.heap.size w w') : Holds w' a n f := by
  rcases h with h | ⟨b, off, h1, h2, h3⟩
  · exact .inl h
  · exact .inr ⟨b, off, h1, Nat.lt_of_lt_of_le h2 hb.size, fun i hi => (hb.cell (p := ⟨b, off + i, none⟩) h2).trans (h3 i hi)⟩
theorem Holds.cells {w : World} {g n : Nat} {f : Nat → Int} (h : Holds w (some ⟨g, 0, none⟩) n f) : ∀ i, i < n → w.cell? ⟨g, i, none⟩ = some (.int .u8 (f i)) := by
  intro i hi
  rcases h with h | ⟨b, off, h1, h2, h3⟩
  · omega
  · obtain ⟨rfl, rfl⟩ : g = b ∧ 0 = off := by simpa using h1
    simpa using h3 i hi
theorem Holds.less {w : World} {a : Option Addr} {n m : Nat} {f : Nat → Int} (h : Holds w a n f) (hm : m ≤ n) : Holds w a m f := by
  rcases h with h | ⟨b, off, h1, h2, h3⟩
  · exact .inl (by omega)
  · exact .inr ⟨b, off, h1, h2, fun i hi => h3 i (by omega)⟩

theorem belowChain {g : Nat} {w w2 w3 : World} (h : Below g w w2) (hg : g ≤ w.heap.size) (k : Below w2.heap.size w2 w3) : Below g w w3 := h.trans (k.mono (Nat.le_trans hg h.size))
theorem block_add (x : Addr) (j : Nat) : (x.add j).block = x.block := by unfold Addr.add; split <;> rfl

/-! ### The plain law -/
theorem Lands.one {f : Nat → Int} {n p q r : Nat} (h : Lands f n p q) (k : Lands f n p r) : q = r := by
  obtain ⟨a1, a2, a3, a4⟩ := h
  obtain ⟨b1, b2, b3, b4⟩ := k
  rcases Nat.lt_trichotomy q r with h | h | h
  · have := b3 q a1 h; rw [a4 (by omega)] at this; cases this
  · exact h
  · have := a3 r b1 h; rw [b4 (by omega)] at this; cases this
/-- White space up to the cut, then on from there. -/
theorem Lands.join {f : Nat → Int} {n p k q : Nat} (h : Lands f k p k) (h2 : Lands f n k q) : Lands f n p q := by
  obtain ⟨a1, a2, a3, a4⟩ := h
  obtain ⟨b1, b2, b3, b4⟩ := h2
  exact ⟨by omega, b2, fun i x y => if e : i < k then a3 i x e else b3 i (by omega) y, b4⟩
/-- A byte met ahead of the cut is met without the cut. -/
theorem Lands.more {f : Nat → Int} {n p k q : Nat} (h : Lands f k p q) (hq : q < k) (hk : k ≤ n) : Lands f n p q := by
  obtain ⟨a1, a2, a3, a4⟩ := h
  exact ⟨a1, by omega, a3, fun _ => a4 hq⟩

set_option maxHeartbeats 400000 in
theorem lands_some (x : Addr) (n c p k : Nat) (zs : List Int) (hn : n ≤ 1048576) (hp : p ≤ n) (hk1 : p ≤ k) (hk2 : k ≤ n) (w : World)
    (hnc : n ≤ c) (hz : zs.length = c) (hcell : ∀ i, i < zs.length → w.cell? (x.add i) = some (.int .u8 (zs.getD i 0))) (hlt : 0 < zs.length → x.block < w.heap.size) :
    Calls Try.prog 3 #[.slice (some x) n c, .int .i64 p, .int .i64 k] w fun e w' => e = .returned (.bool true) ∧ Below w.heap.size w w' := by
  have hnil := fun (w : World) => run_neq_slice_nil_any (P := Try.prog) w 22 5 (some x) n c 0 0 Try.underlying22
  have hmk := run_make_row' (P := Try.prog) 22 5 (.int .u8 0) 1 Try.underlying22 Try.info5 rfl .i64 .i64 n (by omega) (by omega)
  have t1 : True := trivial
  go_enter Try.func3, Try.ntmps3
  go_wp2_with (first
    | (go_at_call 7; refine (bytes7_yes _ _ _ _ _ hn _).mono ?_; rintro e w1 ⟨rfl, hw1⟩; subst w1)
    | (have _t := t1; refine wpList_copy_splice (by rfl) (.tmp 45) (.tmp 46) 22 22 (by rfl) 5 Try.underlying22 Try.size5 _ _ n n n c (by rfl) (by rfl) w.heap.size 0 (madeCells #[.int .u8 0] n).toList 5 ?hg (cellsOf zs n) ?hl ?hpos ?hfit ?h1 w.heap.size w ?hb ?hBg ?next; clear t1 _t))
  case hg => simpa using heap_alloc_new w _
  case hl => rw [cellsOf_len (by omega)]; simp
  case hpos =>
    intro h
    try refine ⟨rfl, ?_⟩
    try refine ⟨x, rfl, ?_⟩
    intro j v hv
    obtain ⟨hj, rfl⟩ := cellsOf_get hv
    rw [World.cell?_alloc_lt _ _ _ (by rw [block_add]; exact hlt (by omega))]
    exact hcell j hj
  case hfit => simp [cellsOf_len (show n ≤ zs.length by omega), size_madeCells]
  case h1 => exact ints_oneCell .u8 _
  case hb => exact (Below.refl _ _).alloc (Nat.le_refl _) _
  case hBg => exact Nat.le_refl _
  case next =>
    intro w2 hg2 hb2
    have hh := holds_copied (by omega) hg2.out
    clear hg2 hcell hlt hmk hnil
    generalize (fun i => zs.getD i 0) = f at hh
    generalize hg : w.heap.size = g at *
    go_wp2_with fail
    refine (zznext (some ⟨g, 0, none⟩) n n p f w2 hn hp hh).mono ?_
    rintro e w3 ⟨q, hl, rfl, hb3⟩
    obtain ⟨l1, l2, l3, l4⟩ := id hl
    have hh3 := hh.below hb3
    have hc3 := hh3.cells
    have b1 : decide (q < p) = false := decide_eq_false (by omega)
    have b2 : decide (n < q) = false := decide_eq_false (by omega)
    go_wp2_with fail
    go_loop [10] (fun i => ∃ j : Nat, p ≤ j ∧ j ≤ q ∧ i = .int .i64 j) (fun i => q - (intOf i).toNat)
    case atStart => exact ⟨p, Nat.le_refl _, l1, rfl⟩
    case round =>
      obtain ⟨j, hj1, hj2, rfl⟩ := hrel
      by_cases hjq : j < q
      · have cj := hc3 j (by omega)
        have sj := l3 j hj1 hjq
        clear hc3 l3 l4
        go_wp2_with (go_at_call 9; refine (isJSONSpace_any _ _).mono ?_; rintro e w4 ⟨rfl, hw4⟩; subst w4)
        go_round
        case rel => exact ⟨j + 1, by omega, by omega, by go_num⟩
        case measure => simp [intOf]; omega
      · have tq : q < n → (tok f n q != f q) = false := fun h => by rw [tok_in h]; simp
        have te : ¬ q < n → (tok f n q != 0) = false := fun h => by rw [tok_end h]; simp
        have cq := hc3 q
        clear hc3 l3
        by_cases hqn : q < n
        all_goals
          first
          | (have cq' := cq hqn; have sq := l4 hqn; have tq' := tq hqn)
          | (have te' := te hqn)
          clear cq l4 tq te
          go_wp2_with (go_at_call 9; refine (isJSONSpace_any _ _).mono ?_; rintro e w4 ⟨rfl, hw4⟩; subst w4)
          refine (zznext (some ⟨g, 0, none⟩) k n p f _ (by omega) hk1 (hh3.less hk2)).mono ?_
          rintro e w4 ⟨q1, hl1, rfl, hb4⟩
          have hh4 := hh3.below hb4
          go_wp2_with fail
          refine (zznext (some ⟨g, 0, none⟩) n n k f _ hn hk2 hh4).mono ?_
          rintro e w5 ⟨q2, hl2, rfl, hb5⟩
          have hbel := belowChain (belowChain (belowChain hb2 (Nat.le_of_eq hg.symm) hb3) (Nat.le_of_eq hg.symm) hb4) (Nat.le_of_eq hg.symm) hb5
          by_cases he : q1 = k
          · subst he
            obtain rfl := hl.one (hl1.join hl2)
            go_wp2
            go_ret
            exact ⟨rfl, hg ▸ hbel⟩
          · have hq1 : q1 < k := by have := hl1.2.1; omega
            obtain rfl := hl.one (hl1.more hq1 hk2)
            have tk : (tok f n q == tok f k q) = true := by rw [tok_in hq1, tok_in (by omega)]; simp
            have he' : ((q : Int) == (k : Int)) = false := by simp; omega
            clear he
            go_wp2
            go_ret
            exact ⟨rfl, hg ▸ hbel⟩

theorem Lands.nought {f : Nat → Int} {q : Nat} (h : Lands f 0 0 q) : q = 0 := by have := h.2.1; omega

set_option maxHeartbeats 400000 in
theorem lands_nil (w : World) :
    Calls Try.prog 3 #[.slice none 0 0, .int .i64 0, .int .i64 0] w fun e w' => e = .returned (.bool true) ∧ Below w.heap.size w w' := by
  have hnil := fun (w : World) => run_neq_slice_nil_any (P := Try.prog) w 22 5 none 0 0 0 0 Try.underlying22
  have hh (w : World) : Holds w none 0 (fun _ => 0) := .inl rfl
  have tk : tok (fun _ => 0) 0 0 = 0 := rfl
  go_enter Try.func3, Try.ntmps3
  go_wp2_with (go_at_call 7; refine (bytes7_yes _ _ _ _ _ (by omega) _).mono ?_; rintro e w1 ⟨rfl, hw1⟩; subst w1)
  refine (zznext none 0 0 0 (fun _ => 0) w (by omega) (by omega) (hh _)).mono ?_
  rintro e w3 ⟨q, hl, rfl, hb3⟩
  obtain rfl := hl.nought
  rw [tk]
  go_wp2_with fail
  refine wp_loop_rounds 1 ?_
  rw [rounds_succ]
  go_wp2_with fail
  refine (zznext none 0 0 0 (fun _ => 0) _ (by omega) (by omega) (hh _)).mono ?_
  rintro e w4 ⟨q, hl4, rfl, hb4⟩
  obtain rfl := hl4.nought
  rw [tk]
  go_wp2_with fail
  refine (zznext none 0 0 0 (fun _ => 0) _ (by omega) (by omega) (hh _)).mono ?_
  rintro e w5 ⟨q, hl5, rfl, hb5⟩
  obtain rfl := hl5.nought
  rw [tk]
  go_wp2
  go_ret
  refine ⟨?_, belowChain (belowChain hb3 (Nat.le_refl _) hb4) (Nat.le_refl _) hb5⟩
  simp
end Go.Proofs.Qxb6618255a
