/-
  FnFieldConcatSplits, walked; its plain law.
-/
import Derived.Test.Qxb6618338aInsert
namespace Go.Proofs.Qxb6618338a
open Go.RowKit

/-! ### The plain law -/
theorem app_lo {ss rs : List ByteArray} {i : Nat} (h : i < ss.length) : strAt (ss ++ rs) i = strAt ss i := by
  simp [strAt, List.getElem?_append, h]
theorem app_hi {ss rs : List ByteArray} {i : Nat} : strAt (ss ++ rs) (ss.length + i) = strAt rs i := by
  simp [strAt, List.getElem?_append_right]
theorem fld_app_lo {ss rs : List ByteArray} {n : Int} (h : n < 3 ∨ n - 3 < (ss.length : Int)) : fld (ss ++ rs) n = fld ss n := by
  by_cases h3 : n < 3
  · rw [fld_lo h3, fld_lo h3]
  · rw [fld_in h3, fld_in h3, app_lo (by omega)]
theorem fld_app_hi {ss rs : List ByteArray} {n : Int} (h3 : ¬ n < 3) (h4 : (ss.length : Int) ≤ n - 3) : fld (ss ++ rs) n = fld rs (n - ss.length) := by
  rw [fld_in h3, fld_in (by omega), show (n - 3).toNat = ss.length + (n - ss.length - 3).toNat by omega, app_hi]
theorem fld_app_at {ss rs : List ByteArray} : fld (ss ++ rs) ((ss.length : Int) + 3) = strAt rs 0 := by
  rw [fld_in (by omega), show ((ss.length : Int) + 3 - 3).toNat = ss.length + 0 by omega, app_hi]

/-- 'zzc := make([]string, len(s)); copy(zzc, s)', the copy's own step. -/
theorem wpList_copy_strs (w : World) {W : World} {ops : Array Oper} {rest : List Oper} {o : Oper} {a : Act} {Q : Exit → Act → World → Prop} (hgd : o.guard = none) (d s : Operand)
    (ho : o.op = .call { callee := .builtin .copy, args := #[d, s], argTypes := #[22, 22] }) (ss : List ByteArray) (hW : W = w.alloc (.cells (madeCells #[.string ByteArray.empty] ss.length) 9)) (M : Nat) (xa : Addr) (c : Nat) (hd : a.eval d = .slice (some ⟨w.heap.size, 0, none⟩) ss.length ss.length) (hs : a.eval s = .slice (some xa) ss.length c)
    (hv : Strs w M (.slice (some xa) ss.length c) ss) (hM : M ≤ w.heap.size)
    (h : ∀ w', Strs w' w'.heap.size (.slice (some ⟨w.heap.size, 0, none⟩) ss.length ss.length) ss → Below w.heap.size w w' → wpList Try.prog ops Q rest (a.put o.dst (goInt (strCells ss).length)) w') :
    wpList Try.prog ops Q (o :: rest) a W := by
  subst hW
  refine wpList_copy_splice hgd d s 22 22 ho 9 Try.underlying22 Try.size9 (some ⟨w.heap.size, 0, none⟩) (some xa) ss.length ss.length ss.length c hd hs w.heap.size 0 (madeCells #[.string ByteArray.empty] ss.length).toList 9 ?_ (strCells ss) ?_ ?_ ?_ ?_ w.heap.size w ?_ (Nat.le_refl _) ?_
  · simpa using heap_alloc_new w _
  · simp [strCells]
  · intro h
    have h0 : 0 < ss.length := by simpa [strCells] using h
    obtain ⟨b, o, e, hb, hc⟩ := hv.at h0
    obtain rfl := Option.some.inj e
    refine ⟨rfl, _, rfl, ?_⟩
    intro j v hv'
    have hj : j < ss.length := by simpa [strCells] using (List.getElem?_eq_some_iff.1 hv').1
    rw [Addr.add_lit, World.cell?_alloc_lt _ _ _ (show b < w.heap.size by omega), hc j hj]
    simpa [strCells, strAt, hj] using hv'
  · simp [strCells, size_madeCells]
  · intro u hu
    obtain ⟨_, _, rfl⟩ := List.mem_map.1 hu
    rfl
  · exact (Below.refl _ _).alloc (Nat.le_refl _) _
  · intro w2 hg2 hb2
    exact h w2 (strs_copied hg2.out) hb2

set_option maxHeartbeats 8000000 in
theorem concat_law (w : World) (v u : Value) (ss rs : List ByteArray) (n : Int) (hv : Strs w w.heap.size v ss) (hu : Strs w w.heap.size u rs) (hn0 : -9223372036854775808 ≤ n) (hn : n ≤ 9223372036854775807) :
    Calls Try.prog 4 #[v, u, .int .i64 n] w fun e w' => e = .returned (.bool true) ∧ Below w.heap.size w w' := by
  obtain ⟨a, c, rfl⟩ := hv.form
  obtain ⟨a', c', rfl⟩ := hu.form
  have hnil := fun (w : World) => run_neq_slice_nil_any (P := Try.prog) w 22 9 a ss.length c 0 0 Try.underlying22
  have hnil' := fun (w : World) => run_neq_slice_nil_any (P := Try.prog) w 22 9 a' rs.length c' 0 0 Try.underlying22
  go_enter Try.func4, Try.ntmps4
  go_wp2_with fail
  refine (bytes8_any w _ _ _ ss rs n hv hu).mono ?_
  rintro e w1 ⟨b, rfl, hw1, hb⟩
  subst w1
  cases b
  · clear hb
    go_wp2
    go_ret
    exact ⟨rfl, Below.refl _ _⟩
  obtain ⟨hl1, hl2⟩ := hb rfl
  clear hb
  by_cases hk1 : 65536 < ss.length
  · go_wp2
    go_ret
    exact ⟨rfl, Below.refl _ _⟩
  by_cases hk2 : 65536 < rs.length
  · go_wp2
    go_ret
    exact ⟨rfl, Below.refl _ _⟩
  have b1 : decide ((65536 : Int) < (ss.length : Int)) = false := decide_eq_false (by omega)
  have b2 : decide ((65536 : Int) < (rs.length : Int)) = false := decide_eq_false (by omega)
  have hmk := run_make_row' (P := Try.prog) 22 9 (.string ByteArray.empty) 16 Try.underlying22 Try.info9 rfl .i64 .i64 ss.length (by omega) (by omega)
  have hmk' := run_make_row' (P := Try.prog) 22 9 (.string ByteArray.empty) 16 Try.underlying22 Try.info9 rfl .i64 .i64 rs.length (by omega) (by omega)
  have hb0 := Below.refl w.heap.size w
  have HA : Hid (∀ (x : Option Addr), ¬ x.isNone = true → ∃ y, x = some y) := fun x h => by cases x with | none => simp at h | some y => exact ⟨y, rfl⟩
  by_cases hA : a.isNone = true
  focus
    by_cases hA' : a'.isNone = true
    focus
      go_wp2_with fail
      have hb3 := hb0
      have hs3 := hv
      have hr3 := hu
      clear hb0 hv hu hnil hnil' hA hA' hmk hmk' HA
    rotate_left
    focus
      obtain ⟨ya, rfl⟩ := HA.out _ hA'
      go_wp2_with (refine wpList_copy_strs w (by rfl) (.tmp 43) (.tmp 44) (by rfl) rs (by rfl) _ ya c' (by simp [Act.eval]) (by simp [Act.eval]) hu (Nat.le_refl _) ?_)
      intro w2 hr3 hb3
      have hs3 := (hv.below hb3).mono hb3.size
      generalize (some { block := w.heap.size, off := 0 } : Option Addr) = B at hr3 ⊢
      clear hb0 hv hu hnil hnil' hA hA' hmk hmk' HA
      go_wp2_with fail
    all_goals skip
  rotate_left
  rotate_left
  focus
    obtain ⟨xa, rfl⟩ := HA.out _ hA
    by_cases hA' : a'.isNone = true
    focus
      go_wp2_with (refine wpList_copy_strs w (by rfl) (.tmp 34) (.tmp 35) (by rfl) ss (by rfl) _ xa c (by simp [Act.eval]) (by simp [Act.eval]) hv (Nat.le_refl _) ?_)
      intro w2 hs3 hb3
      have hr3 := (hu.below hb3).mono hb3.size
      generalize (some { block := w.heap.size, off := 0 } : Option Addr) = A at hs3 ⊢
      go_wp2_with fail
      clear hb0 hv hu hnil hnil' hA hA' hmk hmk' HA
    rotate_left
    focus
      obtain ⟨ya, rfl⟩ := HA.out _ hA'
      go_wp2_with (refine wpList_copy_strs w (by rfl) (.tmp 34) (.tmp 35) (by rfl) ss (by rfl) _ xa c (by simp [Act.eval]) (by simp [Act.eval]) hv (Nat.le_refl _) ?_)
      intro w2 hs2 hb2
      have hu2 := hu.below hb2
      generalize (some { block := w.heap.size, off := 0 } : Option Addr) = A at hs2 ⊢
      go_wp2_with (refine wpList_copy_strs w2 (by rfl) (.tmp 43) (.tmp 44) (by rfl) rs (by rfl) _ ya c' (by simp [Act.eval]) (by simp [Act.eval]) hu2 hb2.size ?_)
      intro w3 hr3 hb4
      have hs3 := (hs2.below hb4).mono hb4.size
      have hb3 := belowChain hb2 (Nat.le_refl _) hb4
      generalize (some { block := w2.heap.size, off := 0 } : Option Addr) = B at hr3 ⊢
      clear hb0 hv hu hu2 hnil hnil' hA hA' hmk hmk' HA hs2 hb2 hb4
      go_wp2_with fail
  all_goals
    refine (room_top _ _ _ ss hs3).mono ?_
    rintro e w4 ⟨r, rfl, hr0, hr1, hw4⟩
    have hb4 : Below w.heap.size w w4 := by rw [hw4]; exact hb3
    have hs4 := strs_eq hs3 hw4
    have hr4 := strs_eq hr3 hw4
    clear hw4 hs3 hb3 hr3
    by_cases hr2 : r < 0
    · go_wp2
      go_ret
      exact ⟨rfl, hb4⟩
    obtain ⟨R, rfl⟩ := Int.eq_ofNat_of_zero_le (show 0 ≤ r by omega)
    have b3 : decide ((R : Int) < 0) = false := decide_eq_false hr2
    go_wp2_with fail
    refine (room_any _ _ R _ rs hr4 (by omega)).mono ?_
    rintro e w5 ⟨r2, rfl, hq0, hq1, hw5⟩
    subst w5
    by_cases hq2 : r2 < 0
    · go_wp2
      go_ret
      exact ⟨rfl, hb4⟩
    have b4 : decide (r2 < 0) = false := decide_eq_false hq2
    obtain ⟨i0, hi, hz0, hz1, hz2⟩ := info_parts Try.info9
    go_wp2_with (at_make; refine wpList_make_own _ rfl _ _ 22 rfl w4.heap.size 9 i0 (.string ByteArray.empty) 1 Try.underlying22 hi hz0 hz1 .i64 .i64 _ (ss.length + rs.length) rfl rfl (by omega) (by rw [hz2]; omega) (by unfold maxLen; omega) (Nat.le_refl _) ?_)
    intro w6 hown hgr
    have hF0 : Fill w4 w6 w4.heap.size (ss.length + rs.length) (ss ++ rs) 0 := ⟨by simpa [strTo] using hown, (Below.refl _ _).grown hgr (Nat.le_refl _) (by simp)⟩
    have HL : Hid ((ss ++ rs).length = ss.length + rs.length) := show _ = _ by simp
    have Hlo : Hid (∀ i, i < ss.length → strAt (ss ++ rs) i = strAt ss i) := fun i h => app_lo h
    have Hhi : Hid (∀ i, strAt (ss ++ rs) (ss.length + i) = strAt rs i) := fun i => app_hi
    have HF1 : Hid (n < 3 ∨ n - 3 < (ss.length : Int) → fld (ss ++ rs) n = fld ss n) := fld_app_lo
    have HF2 : Hid (¬ n < 3 → (ss.length : Int) ≤ n - 3 → fld (ss ++ rs) n = fld rs (n - ss.length)) := fld_app_hi
    have HF3 : Hid (fld (ss ++ rs) ((ss.length : Int) + 3) = strAt rs 0) := fld_app_at
    clear hown hgr b1 b2 b3 b4 hr0 hr1 hr2 hq0 hq1 hq2
    generalize hg : w4.heap.size = g at *
    generalize ss ++ rs = J at *
    go_wp2_with fail
    go_loopw [10, 11] (fun v i wr => ∃ k : Nat, k ≤ ss.length ∧ i = .int .i64 k ∧ v = .slice (some ⟨g, 0, none⟩) k (ss.length + rs.length) ∧ Fill w4 wr g (ss.length + rs.length) J k) (fun _ i _ => ss.length - (intOf i).toNat)
    case atStart => exact ⟨0, by omega, rfl, rfl, hF0⟩
    clear hF0
    obtain ⟨k, hk, rfl, rfl, hF⟩ := hrel
    by_cases hkq : k < ss.length
    · obtain ⟨b, o, rfl, _, hc⟩ := (hs4.below hF.2).at (by omega)
      have hu := hc k (by omega)
      rw [← Hlo.out k hkq] at hu
      have hkJ : k < J.length := by rw [HL.out]; omega
      have hstep := fun w5 => @Fill.step w4 wr w5 g (ss.length + rs.length) k J (.cells #[.string (strAt J k)] 9) hF hkJ
      have HS : Hid (∀ w5, _) := hstep
      generalize strAt J k = S at *
      clear hc hkJ hstep
      go_wp2_with (at_builtin; refine wpList_append_fits _ rfl (.tmp 67) (.tmp 72) 22 rfl g 9 i0 1 Try.underlying22 hi hz1 g k (ss.length + rs.length) _ rfl (hF.1.alloc _) ⟨wr.heap.size, 0, none⟩ 1 1 [.string S] rfl rfl (cell_one_new _ _ _) (one_str S) (by omega) ?_)
      intro w7 hown7 hgr7
      have hF7 := HS.out w7 hown7 hgr7
      clear hown7 hgr7 HS
      go_wp2_with fail
      go_roundw
      case rel => exact ⟨k + 1, by omega, by go_num, rfl, hF7⟩
      case measure => simp [intOf]; omega
    obtain rfl : k = ss.length := by omega
    obtain ⟨wo, rfl⟩ : ∃ wo : World, wo = wr := ⟨_, rfl⟩
    go_wp2_with fail
    go_loopw [10, 12] (fun v i wr => ∃ t : Nat, t ≤ rs.length ∧ i = .int .i64 t ∧ v = .slice (some ⟨g, 0, none⟩) (ss.length + t) (ss.length + rs.length) ∧ Fill w4 wr g (ss.length + rs.length) J (ss.length + t)) (fun _ i _ => rs.length - (intOf i).toNat)
    case atStart => exact ⟨0, by omega, rfl, rfl, hF⟩
    clear hF
    obtain ⟨t, ht2, rfl, rfl, hF⟩ := hrel
    by_cases htn : t < rs.length
    · obtain ⟨b, o, rfl, _, hc⟩ := (hr4.below hF.2).at (by omega)
      have hu := hc t htn
      rw [← Hhi.out t] at hu
      have htJ : ss.length + t < J.length := by rw [HL.out]; omega
      have hstep := fun w5 => @Fill.step w4 wr w5 g (ss.length + rs.length) (ss.length + t) J (.cells #[.string (strAt J (ss.length + t))] 9) hF htJ
      have HS : Hid (∀ w5, _) := hstep
      generalize strAt J (ss.length + t) = S at *
      clear hc htJ hstep
      go_wp2_with (at_builtin; refine wpList_append_fits _ rfl (.tmp 80) (.tmp 85) 22 rfl g 9 i0 1 Try.underlying22 hi hz1 g (ss.length + t) (ss.length + rs.length) _ rfl (hF.1.alloc _) ⟨wr.heap.size, 0, none⟩ 1 1 [.string S] rfl rfl (cell_one_new _ _ _) (one_str S) (by omega) ?_)
      intro w7 hown7 hgr7
      have hF7 := HS.out w7 hown7 hgr7
      clear hown7 hgr7 HS
      go_wp2_with fail
      go_roundw
      case rel => exact ⟨t + 1, by omega, by go_num, rfl, hF7⟩
      case measure => simp [intOf]; omega
    obtain rfl : t = rs.length := by omega
    have hJs := hF.strs HL.out.symm
    have hs5 := hs4.below hF.2
    have hr5 := hr4.below hF.2
    have hBf : Below w.heap.size w wr := hb4.trans (hF.2.mono (by rw [← hg]; exact hb4.size))
    have hJle : J.length ≤ 1048576 := by rw [HL.out]; omega
    clear hF hs4 hr4 hb4
    go_wp2_with fail
    refine (field_any _ _ _ J n hJs hJle hn).mono ?_
    rintro e w8 ⟨rfl, hw8⟩
    subst w8
    by_cases hrs : 0 < rs.length
    focus
      obtain ⟨b0, o0, eB, _, hc⟩ := hr5.at hrs
      subst eB
      have hc0 := hc 0 hrs
      rw [Nat.add_zero] at hc0
      have hE2 : ((fld J ((ss.length : Int) + 3)).toList == (strAt rs 0).toList) = true := by rw [HF3.out]; simp
      clear hc HF3
    rotate_left
    focus
      have hE2 : fld J ((ss.length : Int) + 3) = ByteArray.empty := by rw [HF3.out, strAt_end (by omega)]
      clear HF3
    all_goals
      clear Hlo Hhi hk hkq ht2 htn HL hi hz0 hz1 hz2
      by_cases h3 : n < 3
      focus
        have hE : ((fld J n).toList == (fld ss n).toList) = true := by rw [HF1.out (.inl (by omega))]; simp
        clear HF1 HF2
        generalize fld J n = G at *
        go_wp2_with fail
        refine (field_any _ _ _ ss n hs5 hl1 hn).mono ?_
        rintro e w8 ⟨rfl, hw8⟩
        subst w8
        generalize fld ss n = G2 at *
      rotate_left
      focus
        by_cases h4 : n - 3 < (ss.length : Int)
        focus
          have hE : ((fld J n).toList == (fld ss n).toList) = true := by rw [HF1.out (.inr (by omega))]; simp
          clear HF1 HF2
          generalize fld J n = G at *
          go_wp2_with fail
          refine (field_any _ _ _ ss n hs5 hl1 hn).mono ?_
          rintro e w8 ⟨rfl, hw8⟩
          subst w8
          generalize fld ss n = G2 at *
        rotate_left
        focus
          have hE : ((fld J n).toList == (fld rs (n - ss.length)).toList) = true := by rw [HF2.out (by omega) (by omega)]; simp
          clear HF1 HF2
          generalize fld J n = G at *
          go_wp2_with fail
          refine (field_any _ _ _ rs (n - ss.length) hr5 hl2 (by omega)).mono ?_
          rintro e w8 ⟨rfl, hw8⟩
          subst w8
          generalize fld rs (n - ss.length) = G2 at *
      all_goals
        go_wp2_with fail
        refine (field_any _ _ _ J ((ss.length : Int) + 3) hJs hJle (by omega)).mono ?_
        rintro e w9 ⟨rfl, hw9⟩
        subst w9
        generalize fld J ((ss.length : Int) + 3) = G3 at *
        clear hJs hs5 hr5 hJle
        first
          | subst hE2
          | skip
        go_wp2
        go_ret
        exact ⟨by simp, hBf⟩
end Go.Proofs.Qxb6618338a
