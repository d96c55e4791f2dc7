/-
  FnFieldInsertShifts, walked; its plain law.
-/
import Derived.Test.Qxb6618338aStrs
namespace Go.Proofs.Qxb6618338a
open Go.RowKit

theorem Try.info9 : (Try.prog.info? 9).map (fun i => (i.zero, i.size, i.bytes)) = some (some (.string ByteArray.empty), 1, 16) := by kernel_rfl
theorem Try.size9 : (Try.prog.info? 9).map (·.size) = some 1 := by kernel_rfl

/-! ### The plain law -/
/-- ss with x put in at p. -/
def insAt (ss : List ByteArray) (p : Nat) (x : ByteArray) : List ByteArray := ss.take p ++ x :: ss.drop p
theorem insAt_len {ss : List ByteArray} {p : Nat} {x : ByteArray} (h : p ≤ ss.length) : (insAt ss p x).length = ss.length + 1 := by simp [insAt]; omega
theorem insAt_lo {ss : List ByteArray} {p i : Nat} {x : ByteArray} (h : p ≤ ss.length) (hi : i < p) : strAt (insAt ss p x) i = strAt ss i := by
  simp [strAt, insAt, List.getElem?_append, show i < ss.length by omega, show i < min p ss.length by omega]
theorem insAt_at {ss : List ByteArray} {p : Nat} {x : ByteArray} (h : p ≤ ss.length) : strAt (insAt ss p x) p = x := by
  simp [strAt, insAt, List.getElem?_append, show ¬ p < min p ss.length by omega, show p - min p ss.length = 0 by omega]
theorem insAt_hi {ss : List ByteArray} {p i : Nat} {x : ByteArray} (h : p ≤ ss.length) (hi : p ≤ i) : strAt (insAt ss p x) (i + 1) = strAt ss i := by
  have e : i + 1 - min p ss.length = (i - p) + 1 := by omega
  simp only [strAt, insAt, List.getD, List.getElem?_append, List.length_take]
  rw [if_neg (by omega), e, List.getElem?_cons_succ, List.getElem?_drop, show p + (i - p) = i by omega]

theorem fld_ins {ss : List ByteArray} {p : Nat} {x : ByteArray} {n : Int} (h : p ≤ ss.length) :
    (n < 3 → fld (insAt ss p x) n = fld ss n) ∧ (¬ n < 3 → n - 3 < p → fld (insAt ss p x) n = fld ss n) ∧ (¬ n < 3 → n - 3 = p → fld (insAt ss p x) n = x) ∧ (¬ n < 3 → (p : Int) < n - 3 → fld (insAt ss p x) n = fld ss (n - 1)) := by
  refine ⟨fun h3 => ?_, fun h3 h4 => ?_, fun h3 h4 => ?_, fun h3 h4 => ?_⟩
  · rw [fld_lo h3, fld_lo h3]
  · rw [fld_in h3, fld_in h3, insAt_lo h (by omega)]
  · rw [fld_in h3, show (n - 3).toNat = p by omega, insAt_at h]
  · rw [fld_in h3, fld_in (by omega), show (n - 3).toNat = (n - 1 - 3).toNat + 1 by omega, insAt_hi h (by omega)]

/-! ### a row of strings that is being filled by append -/
/-- The first k of J, as cells. -/
def strTo (J : List ByteArray) (k : Nat) : List Value := (J.take k).map Value.string
theorem take_str {J : List ByteArray} {k : Nat} (h : k < J.length) : strTo J (k + 1) = strTo J k ++ [Value.string (strAt J k)] := by
  unfold strTo
  rw [List.take_succ_eq_append_getElem h, List.map_append]
  simp [strAt, h]

/-- The value: the first k of J, in a row of the call's own at the head of block g, with room for N; nothing below g has turned since w3. -/
def Fill (w3 wr : World) (g N : Nat) (J : List ByteArray) (k : Nat) : Prop :=
  wr.ownsRow g 9 1 (.slice (some ⟨g, 0, none⟩) k N) k (strTo J k) ∧ Below g w3 wr
theorem Fill.step {w3 wr w1 : World} {g N k : Nat} {J : List ByteArray} {o : Obj} (h : Fill w3 wr g N J k) (hk : k < J.length) (h1 : w1.ownsRow g 9 1 (.slice (some ⟨g, 0, none⟩) (k + 1) N) (k + 1) (strTo J k ++ [Value.string (strAt J k)])) (hg : (wr.alloc o).grownBy w1 (some g)) :
    Fill w3 w1 g N J (k + 1) := by
  have hlt : g < wr.heap.size := by
    have := h.1.lt g rfl
    exact this.2
  refine ⟨by rw [take_str hk]; exact h1, ?_⟩
  have hb : Below g w3 (wr.alloc o) := h.2.alloc (by omega) o
  exact hb.grown hg (by simp; omega) (fun k hk => by simp at hk; omega)
theorem Fill.strs {w3 wr : World} {g N : Nat} {J : List ByteArray} {k : Nat} (h : Fill w3 wr g N J k) (hk : k = J.length) : Strs wr wr.heap.size (.slice (some ⟨g, 0, none⟩) k N) J := by
  subst hk
  refine ⟨_, _, rfl, fun _ => ⟨g, 0, rfl, (h.1.lt g rfl).2, fun i hi => ?_⟩⟩
  rw [Nat.zero_add, h.1.cellAt i (by omega)]
  simp [strTo, strAt, hi]

/-! ### the copy of an argument -/
def strCells (ss : List ByteArray) : List Value := ss.map Value.string
theorem strs_copied {w2 : World} {g : Nat} {ss : List ByteArray} (h : w2.heap[g]? = some (.cells (splice (madeCells #[.string ByteArray.empty] ss.length).toList 0 (strCells ss)).toArray 9 (0, 0))) :
    Strs w2 w2.heap.size (.slice (some ⟨g, 0, none⟩) ss.length ss.length) ss := by
  have hlt : g < w2.heap.size := (Array.getElem?_eq_some_iff.1 h).1
  refine ⟨_, _, rfl, fun _ => ⟨g, 0, rfl, hlt, fun i hi => ?_⟩⟩
  have e2 : (splice (madeCells #[.string ByteArray.empty] ss.length).toList 0 (strCells ss))[i]? = some (.string (strAt ss i)) := by
    unfold splice
    rw [List.take_zero, List.nil_append, List.getElem?_append_left (by simpa [strCells] using hi)]
    simp [strCells, strAt, hi]
  simp only [World.cell?, h]
  simpa using e2
theorem belowChain {g : Nat} {w w2 w3 : World} (h : Below g w w2) (hg : g ≤ w.heap.size) (k : Below w2.heap.size w2 w3) : Below g w w3 := h.trans (k.mono (Nat.le_trans hg h.size))

theorem one_str (S : ByteArray) : ∀ u ∈ [Value.string S], u.oneCell' = true := by
  intro u hu
  obtain rfl : u = .string S := by simpa using hu
  rfl
theorem strs_eq {w w3 : World} {v : Value} {ss : List ByteArray} (h : Strs w w.heap.size v ss) (e : w3 = w) : Strs w3 w3.heap.size v ss := by rw [e]; exact h
theorem room_top (w : World) (M : Nat) (v : Value) (ss : List ByteArray) (hv : Strs w M v ss) : Calls Try.prog 6 #[v, .int .i64 1048576] w fun e w' => RoomSays 1048576 w w' e := by
  have h := room_any w M 1048576 v ss hv (Nat.le_refl _)
  rw [show ((1048576 : Nat) : Int) = 1048576 by omega] at h
  exact h

set_option maxHeartbeats 4000000 in
theorem insert_law (w : World) (v : Value) (ss : List ByteArray) (p n : Int) (x : ByteArray) (hv : Strs w w.heap.size v ss) (hn0 : -9223372036854775808 ≤ n) (hn : n ≤ 9223372036854775807) :
    Calls Try.prog 3 #[v, .int .i64 p, .string x, .int .i64 n] w fun e w' => e = .returned (.bool true) ∧ Below w.heap.size w w' := by
  obtain ⟨a, c, rfl⟩ := hv.form
  have hnil := fun (w : World) => run_neq_slice_nil_any (P := Try.prog) w 22 9 a ss.length c 0 0 Try.underlying22
  by_cases hA : a.isNone = true
  focus
    go_enter Try.func3, Try.ntmps3
    go_wp2_with fail
    refine (bytes5_any w _ _ ss p n x hv).mono ?_
    rintro e w1 ⟨b, rfl, hw1, hb⟩
    subst w1
    cases b
    · clear hb
      go_wp2
      go_ret
      exact ⟨rfl, Below.refl _ _⟩
    obtain ⟨hl1, hx1⟩ := hb rfl
    clear hb
    by_cases hl2 : 65536 < ss.length
    · go_wp2
      go_ret
      exact ⟨rfl, Below.refl _ _⟩
    have b1 : decide ((65536 : Int) < (ss.length : Int)) = false := decide_eq_false (by omega)
    have b2 : decide ((1048576 : Int) < (x.size : Int)) = false := decide_eq_false (by omega)
    have hb2 := Below.refl w.heap.size w
    have hs2 := hv
    go_wp2_with fail
    clear hA hnil hv
  rotate_left
  focus
    obtain ⟨xa, rfl⟩ : ∃ xa, a = some xa := by cases a with | none => simp at hA | some xa => exact ⟨xa, rfl⟩
    go_enter Try.func3, Try.ntmps3
    go_wp2_with fail
    refine (bytes5_any w _ _ ss p n x hv).mono ?_
    rintro e w1 ⟨b, rfl, hw1, hb⟩
    subst w1
    cases b
    · clear hb
      go_wp2
      go_ret
      exact ⟨rfl, Below.refl _ _⟩
    obtain ⟨hl1, hx1⟩ := hb rfl
    clear hb
    by_cases hl2 : 65536 < ss.length
    · go_wp2
      go_ret
      exact ⟨rfl, Below.refl _ _⟩
    have b1 : decide ((65536 : Int) < (ss.length : Int)) = false := decide_eq_false (by omega)
    have b2 : decide ((1048576 : Int) < (x.size : Int)) = false := decide_eq_false (by omega)
    have hmk := run_make_row' (P := Try.prog) 22 9 (.string ByteArray.empty) 16 Try.underlying22 Try.info9 rfl .i64 .i64 ss.length (by omega) (by omega)
    have t1 : True := trivial
    go_wp2_with (have _t := t1; refine wpList_copy_splice (by rfl) (.tmp 35) (.tmp 36) 22 22 (by rfl) 9 Try.underlying22 Try.size9 (some ⟨w.heap.size, 0, none⟩) (some xa) ss.length ss.length ss.length c (by simp [Act.eval]) (by simp [Act.eval]) w.heap.size 0 (madeCells #[.string ByteArray.empty] ss.length).toList 9 ?hg (strCells ss) ?hl ?hpos ?hfit ?h1 w.heap.size w ?hb ?hBg ?next; clear t1 _t)
    case hg => simpa using heap_alloc_new w _
    case hl => simp [strCells]
    case hpos =>
      intro h
      have h0 : 0 < ss.length := by simpa [strCells] using h
      obtain ⟨b, o, e, hM, hc⟩ := hv.at h0
      obtain rfl := Option.some.inj e
      try refine ⟨rfl, ?_⟩
      try refine ⟨_, rfl, ?_⟩
      intro j v hv'
      have hj : j < ss.length := by simpa [strCells] using (List.getElem?_eq_some_iff.1 hv').1
      rw [Addr.add_lit, World.cell?_alloc_lt _ _ _ hM, hc j hj]
      simpa [strCells, strAt, hj] using hv'
    case hfit => simp [strCells, size_madeCells]
    case h1 =>
      intro u hu
      obtain ⟨_, _, rfl⟩ := List.mem_map.1 hu
      rfl
    case hb => exact (Below.refl _ _).alloc (Nat.le_refl _) _
    case hBg => exact Nat.le_refl _
    intro w2 hg2 hb2
    have hs2 := strs_copied hg2.out
    clear hg2 hmk hnil hv hA
    generalize (some { block := w.heap.size, off := 0 } : Option Addr) = A at hs2 ⊢
    go_wp2_with fail
  all_goals
    refine (room_top _ _ _ ss hs2).mono ?_
    rintro e w3 ⟨r, rfl, hr0, hr1, hw3⟩
    have hb3 : Below w.heap.size w w3 := by rw [hw3]; exact hb2
    have hs3 := strs_eq hs2 hw3
    clear hw3 hs2 hb2
    by_cases hr2 : r < 0
    · go_wp2
      go_ret
      exact ⟨rfl, hb3⟩
    by_cases hr3 : r < (x.size : Int)
    · go_wp2
      go_ret
      exact ⟨rfl, hb3⟩
    by_cases hp0 : p < 0
    · go_wp2
      go_ret
      exact ⟨rfl, hb3⟩
    by_cases hp1 : (ss.length : Int) < p
    · go_wp2
      go_ret
      exact ⟨rfl, hb3⟩
    obtain ⟨q, rfl⟩ := Int.eq_ofNat_of_zero_le (show 0 ≤ p by omega)
    have hq : q ≤ ss.length := by omega
    have b3 : decide (r < 0) = false := decide_eq_false hr2
    have b4 : decide (r < (x.size : Int)) = false := decide_eq_false hr3
    have b5 : decide ((q : Int) < 0) = false := decide_eq_false (by omega)
    have b6 : decide (ss.length < q) = false := decide_eq_false (by omega)
    obtain ⟨i0, hi, hz0, hz1, hz2⟩ := info_parts Try.info9
    go_wp2_with (at_make; refine wpList_make_own _ rfl _ _ 22 rfl w3.heap.size 9 i0 (.string ByteArray.empty) 1 Try.underlying22 hi hz0 hz1 .i64 .i64 _ (ss.length + 1) rfl rfl (by omega) (by rw [hz2]; omega) (by unfold maxLen; omega) (Nat.le_refl _) ?_)
    intro w4 hown hgr
    have hF0 : Fill w3 w4 w3.heap.size (ss.length + 1) (insAt ss q x) 0 := ⟨by simpa [strTo] using hown, (Below.refl _ _).grown hgr (Nat.le_refl _) (by simp)⟩
    have hJl := insAt_len (x := x) hq
    clear hown hgr
    generalize hg : w3.heap.size = g at *
    have HL : Hid ((insAt ss q x).length = ss.length + 1) := hJl
    have Hlo : Hid (∀ i, i < q → strAt (insAt ss q x) i = strAt ss i) := fun i h => insAt_lo hq h
    have Hat : Hid (strAt (insAt ss q x) q = x) := insAt_at hq
    have Hhi : Hid (∀ i, q ≤ i → strAt (insAt ss q x) (i + 1) = strAt ss i) := fun i h => insAt_hi hq h
    have HFd := fld_ins (x := x) (n := n) hq
    have HFd1 : Hid (n < 3 → fld (insAt ss q x) n = fld ss n) := HFd.1
    have HFd2 : Hid (¬ n < 3 → n - 3 < q → fld (insAt ss q x) n = fld ss n) := HFd.2.1
    have HFd3 : Hid (¬ n < 3 → n - 3 = q → fld (insAt ss q x) n = x) := HFd.2.2.1
    have HFd4 : Hid (¬ n < 3 → (q : Int) < n - 3 → fld (insAt ss q x) n = fld ss (n - 1)) := HFd.2.2.2
    clear hJl b1 b2 b3 b4 b5 b6 hr0 hr1 hr2 hr3 HFd
    generalize insAt ss q x = J at *
    go_wp2_with fail
    go_loopw [11, 12] (fun v i wr => ∃ k : Nat, k ≤ q ∧ i = .int .i64 k ∧ v = .slice (some ⟨g, 0, none⟩) k (ss.length + 1) ∧ Fill w3 wr g (ss.length + 1) J k) (fun _ i _ => q - (intOf i).toNat)
    case atStart => exact ⟨0, by omega, rfl, rfl, hF0⟩
    clear hF0
    obtain ⟨k, hk, rfl, rfl, hF⟩ := hrel
    by_cases hkq : k < q
    · obtain ⟨b, o, rfl, _, hc⟩ := (hs3.below hF.2).at (by omega)
      have hu := hc k (by omega)
      rw [← Hlo.out k hkq] at hu
      have hkJ : k < J.length := by rw [HL.out]; omega
      have hstep := fun w5 => @Fill.step w3 wr w5 g (ss.length + 1) k J (.cells #[.string (strAt J k)] 9) hF hkJ
      have HS : Hid (∀ w5, _) := hstep
      generalize strAt J k = S at *
      clear hc hkJ hstep
      go_wp2_with (at_builtin; refine wpList_append_fits _ rfl (.tmp 66) (.tmp 71) 22 rfl g 9 i0 1 Try.underlying22 hi hz1 g k (ss.length + 1) _ rfl (hF.1.alloc _) ⟨wr.heap.size, 0, none⟩ 1 1 [.string S] rfl rfl (cell_one_new _ _ _) (one_str S) (by omega) ?_)
      intro w5 hown5 hgr5
      have hF5 := HS.out w5 hown5 hgr5
      clear hown5 hgr5 HS
      go_wp2_with fail
      go_roundw
      case rel => exact ⟨k + 1, by omega, by go_num, rfl, hF5⟩
      case measure => simp [intOf]; omega
    obtain rfl : q = k := by omega
    have hqJ : q < J.length := by rw [HL.out]; omega
    have hstep := fun w5 => @Fill.step w3 wr w5 g (ss.length + 1) q J (.cells #[.string (strAt J q)] 9) hF hqJ
    rw [Hat.out] at hstep
    have HS : Hid (∀ w5, _) := hstep
    clear hstep hqJ
    obtain ⟨wo, rfl⟩ : ∃ wo : World, wo = wr := ⟨_, rfl⟩
    go_wp2_with (at_builtin; refine wpList_append_fits _ rfl (.tmp 73) (.tmp 75) 22 rfl g 9 i0 1 Try.underlying22 hi hz1 g q (ss.length + 1) _ rfl (hF.1.alloc _) ⟨wo.heap.size, 0, none⟩ 1 1 [.string x] rfl rfl (cell_one_new _ _ _) (one_str x) (by omega) ?_)
    intro w5 hown5 hgr5
    have hF5 := HS.out w5 hown5 hgr5
    clear hown5 hgr5 HS hF
    go_wp2_with fail
    go_loopw [11, 13] (fun v i wr => ∃ t : Nat, q ≤ t ∧ t ≤ ss.length ∧ i = .int .i64 t ∧ v = .slice (some ⟨g, 0, none⟩) (t + 1) (ss.length + 1) ∧ Fill w3 wr g (ss.length + 1) J (t + 1)) (fun _ i _ => ss.length - (intOf i).toNat)
    case atStart => exact ⟨q, by omega, by omega, rfl, rfl, hF5⟩
    clear hF5
    obtain ⟨t, ht1, ht2, rfl, rfl, hF⟩ := hrel
    by_cases htn : t < ss.length
    · obtain ⟨b, o, rfl, _, hc⟩ := (hs3.below hF.2).at (by omega)
      have hu := hc t htn
      rw [← Hhi.out t ht1] at hu
      have htJ : t + 1 < J.length := by rw [HL.out]; omega
      have hstep := fun w5 => @Fill.step w3 wr w5 g (ss.length + 1) (t + 1) J (.cells #[.string (strAt J (t + 1))] 9) hF htJ
      have HS : Hid (∀ w5, _) := hstep
      generalize strAt J (t + 1) = S at *
      clear hc htJ hstep
      go_wp2_with (at_builtin; refine wpList_append_fits _ rfl (.tmp 84) (.tmp 89) 22 rfl g 9 i0 1 Try.underlying22 hi hz1 g (t + 1) (ss.length + 1) _ rfl (hF.1.alloc _) ⟨wr.heap.size, 0, none⟩ 1 1 [.string S] rfl rfl (cell_one_new _ _ _) (one_str S) (by omega) ?_)
      intro w5 hown5 hgr5
      have hF6 := HS.out w5 hown5 hgr5
      clear hown5 hgr5 HS
      go_wp2_with fail
      go_roundw
      case rel => exact ⟨t + 1, by omega, by omega, by go_num, rfl, hF6⟩
      case measure => simp [intOf]; omega
    obtain rfl : t = ss.length := by omega
    have hJs := hF.strs HL.out.symm
    have hs4 := hs3.below hF.2
    have hBf : Below w.heap.size w wr := hb3.trans (hF.2.mono (by rw [← hg]; exact hb3.size))
    have hJle : J.length ≤ 1048576 := by rw [HL.out]; omega
    clear hF hs3 hb3
    go_wp2_with fail
    refine (field_any _ _ _ J n hJs hJle hn).mono ?_
    rintro e w6 ⟨rfl, hw6⟩
    subst w6
    by_cases h3 : n < 3
    · have hE : ((fld J n).toList == (fld ss n).toList) = true := by rw [HFd1.out (by omega)]; simp
      generalize fld J n = G at *
      go_wp2_with fail
      refine (field_any _ _ _ ss n hs4 hl1 hn).mono ?_
      rintro e w6 ⟨rfl, hw6⟩
      subst w6
      generalize fld ss n = G2 at *
      go_wp2
      go_ret
      exact ⟨by simp, hBf⟩
    by_cases h4 : n - 3 < (q : Int)
    · have hE : ((fld J n).toList == (fld ss n).toList) = true := by rw [HFd2.out (by omega) (by omega)]; simp
      generalize fld J n = G at *
      go_wp2_with fail
      refine (field_any _ _ _ ss n hs4 hl1 hn).mono ?_
      rintro e w6 ⟨rfl, hw6⟩
      subst w6
      generalize fld ss n = G2 at *
      go_wp2
      go_ret
      exact ⟨by simp, hBf⟩
    by_cases h5 : n - 3 = (q : Int)
    · have hE : ((fld J n).toList == x.toList) = true := by rw [HFd3.out (by omega) (by omega)]; simp
      have h5' : (n - 3 == (q : Int)) = true := by simpa using h5
      clear h5
      generalize fld J n = G at *
      go_wp2
      go_ret
      exact ⟨by simp, hBf⟩
    · have hE : ((fld J n).toList == (fld ss (n - 1)).toList) = true := by rw [HFd4.out (by omega) (by omega)]; simp
      have h5' : (n - 3 == (q : Int)) = false := by simpa using h5
      clear h5
      generalize fld J n = G at *
      go_wp2_with fail
      refine (field_any _ _ _ ss (n - 1) hs4 hl1 (by omega)).mono ?_
      rintro e w6 ⟨rfl, hw6⟩
      subst w6
      generalize fld ss (n - 1) = G2 at *
      go_wp2
      go_ret
      exact ⟨by simp, hBf⟩
end Go.Proofs.Qxb6618338a
