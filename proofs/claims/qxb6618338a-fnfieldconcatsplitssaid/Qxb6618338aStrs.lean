/-
  A SLICE OF STRINGS, TO BE READ; Field, zzRoom and the bounds on lengths, walked.
-/
import Derived.Test.Qxb6618338aRows
import Derived.WalkKit
import Derived.WalkSpells
import Derived.LoopTactic
import Derived.WalkSmall
import Derived.Laws.CopyOwn
import Derived.Deep.OwnRows
import Derived.OwnWalk
namespace Go.Proofs.Qxb6618338a
open Go.RowKit

/-- String i of ss; the empty one where there is none. -/
def strAt (ss : List ByteArray) (i : Nat) : ByteArray := ss.getD i ByteArray.empty
theorem strAt_end {ss : List ByteArray} {i : Nat} (h : ss.length ≤ i) : strAt ss i = ByteArray.empty := by
  unfold strAt
  rw [List.getD, List.getElem?_eq_none h]
  rfl

/-- THE VALUE v IS A SLICE OF THE STRINGS ss, below block M. -/
def Strs (w : World) (M : Nat) (v : Value) (ss : List ByteArray) : Prop :=
  ∃ a c, v = .slice a ss.length c ∧ (0 < ss.length → ∃ b o, a = some ⟨b, o, none⟩ ∧ b < M ∧ ∀ i, i < ss.length → w.cell? ⟨b, o + i, none⟩ = some (.string (strAt ss i)))
theorem Strs.below {w w' : World} {M : Nat} {v : Value} {ss : List ByteArray} (h : Strs w M v ss) (hb : Below M w w') : Strs w' M v ss := by
  obtain ⟨a, c, e, h⟩ := h
  refine ⟨a, c, e, fun hl => ?_⟩
  obtain ⟨b, o, ea, hM, h⟩ := h hl
  exact ⟨b, o, ea, hM, fun i hi => (hb.cell (p := ⟨b, o + i, none⟩) hM).trans (h i hi)⟩
theorem Strs.mono {w : World} {M M' : Nat} {v : Value} {ss : List ByteArray} (h : Strs w M v ss) (hM : M ≤ M') : Strs w M' v ss := by
  obtain ⟨a, c, e, h⟩ := h
  refine ⟨a, c, e, fun hl => ?_⟩
  obtain ⟨b, o, ea, hb, h⟩ := h hl
  exact ⟨b, o, ea, by omega, h⟩
theorem Strs.form {w : World} {M : Nat} {v : Value} {ss : List ByteArray} (h : Strs w M v ss) : ∃ a c, v = .slice a ss.length c := by
  obtain ⟨a, c, e, _⟩ := h
  exact ⟨a, c, e⟩
theorem Strs.at {w : World} {M : Nat} {a : Option Addr} {n c : Nat} {ss : List ByteArray} (h : Strs w M (.slice a n c) ss) (hl : 0 < ss.length) :
    ∃ b o, a = some ⟨b, o, none⟩ ∧ b < M ∧ ∀ i, i < ss.length → w.cell? ⟨b, o + i, none⟩ = some (.string (strAt ss i)) := by
  obtain ⟨a', c', e, h⟩ := h
  simp at e
  rw [e.1]
  exact h hl

/-! ### Field -/
/-- Field n of the line ss. -/
def fld (ss : List ByteArray) (n : Int) : ByteArray := if n < 3 then ByteArray.empty else strAt ss (n - 3).toNat
theorem fld_lo {ss : List ByteArray} {n : Int} (h : n < 3) : fld ss n = ByteArray.empty := by simp [fld, h]
theorem fld_hi {ss : List ByteArray} {n : Int} (h : ¬ n < 3) (h2 : (ss.length : Int) ≤ n - 3) : fld ss n = ByteArray.empty := by
  unfold fld
  rw [if_neg h, strAt_end (by omega)]
theorem fld_in {ss : List ByteArray} {n : Int} (h : ¬ n < 3) : fld ss n = strAt ss (n - 3).toNat := by simp [fld, h]

theorem field_any (w : World) (M : Nat) (v : Value) (ss : List ByteArray) (n : Int) (hv : Strs w M v ss) (hl : ss.length ≤ 1048576) (hn : n ≤ 9223372036854775807) :
    Calls Try.prog 7 #[v, .int .i64 n] w fun e w' => e = .returned (.string (fld ss n)) ∧ w' = w := by
  obtain ⟨a, c, rfl⟩ := hv.form
  by_cases h3 : n < 3
  · have HF : Hid (fld ss n = ByteArray.empty) := fld_lo (ss := ss) h3
    go_enter Try.func7, Try.ntmps7
    go_wp2
    go_ret
    exact ⟨by rw [HF.out]; rfl, rfl⟩
  · by_cases h4 : (ss.length : Int) ≤ n - 3
    · have HF : Hid (fld ss n = ByteArray.empty) := fld_hi h3 h4
      go_enter Try.func7, Try.ntmps7
      go_wp2
      go_ret
      exact ⟨by rw [HF.out]; rfl, rfl⟩
    · have hf := fld_in (ss := ss) h3
      obtain ⟨k, hk⟩ : ∃ k : Nat, n = (k : Int) + 3 := ⟨(n - 3).toNat, by omega⟩
      subst hk
      obtain ⟨b, o, rfl, _, hc⟩ := hv.at (by omega)
      have hcell := hc k (by omega)
      have e1 : ((k : Int) + 3 - 3).toNat = k := by omega
      rw [e1] at hf
      have HF : Hid (fld ss ((k : Int) + 3) = strAt ss k) := hf
      have i0 : (0 : Int) ≤ (k : Int) := by omega
      have i1 : (k : Int) < (ss.length : Int) := by omega
      have i2 : (k : Int) ≤ 1048576 := by omega
      have g3 : ¬ (k : Int) + 3 < 3 := by omega
      clear hf hc hv e1 hn h3 h4
      go_enter Try.func7, Try.ntmps7
      go_wp2
      go_ret
      exact ⟨by rw [HF.out]; rfl, rfl⟩

/-! ### zzRoom -/
/-- What zzRoom answers: at least -1, at most the room that it was given. -/
def RoomSays (R : Nat) (w w' : World) (e : Ending) : Prop := ∃ r : Int, e = .returned (.int .i64 r) ∧ -1 ≤ r ∧ r ≤ R ∧ w' = w

set_option maxHeartbeats 1000000 in
theorem room_any (w : World) (M R : Nat) (v : Value) (ss : List ByteArray) (hv : Strs w M v ss) (hR : R ≤ 1048576) :
    Calls Try.prog 6 #[v, .int .i64 R] w fun e w' => RoomSays R w w' e := by
  obtain ⟨a, c, rfl⟩ := hv.form
  have HN : Hid (RoomSays R w w (.returned (.int .i64 (-1)))) := ⟨-1, rfl, by omega, by omega, rfl⟩
  have i0 : (0 : Int) ≤ (R : Int) := by omega
  by_cases h1 : (R : Int) / 16 < (ss.length : Int)
  · clear hv
    go_enter Try.func6, Try.ntmps6
    go_wp2
    go_ret
    exact HN.out
  · have hl : ss.length ≤ 1048576 := by omega
    have h16 : 16 * (ss.length : Int) ≤ (R : Int) := by omega
    go_enter Try.func6, Try.ntmps6
    go_wp2
    go_loop [1, 5] (fun z i => ∃ (t : Nat) (r : Int), t ≤ ss.length ∧ 0 ≤ r ∧ r ≤ R ∧ z = .int .i64 r ∧ i = .int .i64 t) (fun _ i => ss.length - (intOf i).toNat)
    case atStart => exact ⟨0, _, by omega, by omega, by omega, rfl, rfl⟩
    case round =>
      obtain ⟨t, r, ht, hr0, hrR, rfl, rfl⟩ := hrel
      by_cases htn : t < ss.length
      · obtain ⟨b, o, rfl, _, hc⟩ := hv.at (by omega)
        have hu := hc t htn
        generalize strAt ss t = S at *
        clear hc hv
        by_cases hS : r < (S.size : Int)
        · go_wp2
          go_ret
          exact HN.out
        · go_wp2
          go_round
          case rel => exact ⟨t + 1, r - S.size, by omega, by omega, by omega, by go_num, by go_num⟩
          case measure => simp [intOf]; omega
      · have HF : Hid (RoomSays R w w (.returned (.int .i64 r))) := ⟨r, rfl, by omega, by omega, rfl⟩
        clear hv
        go_wp2
        go_ret
        exact HF.out

/-! ### the bounds on lengths -/
/-- Some bool; where it says true, all is short. -/
def Says5 (ss : List ByteArray) (x : ByteArray) (w w' : World) (e : Ending) : Prop := ∃ b, e = .returned (.bool b) ∧ w' = w ∧ (b = true → ss.length ≤ 1048576 ∧ x.size ≤ 1048576)
def Says8 (ss rs : List ByteArray) (w w' : World) (e : Ending) : Prop := ∃ b, e = .returned (.bool b) ∧ w' = w ∧ (b = true → ss.length ≤ 1048576 ∧ rs.length ≤ 1048576)

set_option maxHeartbeats 1000000 in
theorem bytes5_any (w : World) (M : Nat) (v : Value) (ss : List ByteArray) (p n : Int) (x : ByteArray) (hv : Strs w M v ss) :
    Calls Try.prog 5 #[v, .int .i64 p, .string x, .int .i64 n] w fun e w' => Says5 ss x w w' e := by
  obtain ⟨a, c, rfl⟩ := hv.form
  have HN : Hid (Says5 ss x w w (.returned (.bool false))) := ⟨false, rfl, rfl, fun h => by cases h⟩
  by_cases hl1 : ss.length ≤ 1048576
  · go_enter Try.func5, Try.ntmps5
    go_wp2_with fail
    go_loop [9, 10] (fun z i => ∃ (t s : Nat), t ≤ ss.length ∧ s ≤ 1048576 ∧ z = .int .i64 s ∧ i = .int .i64 t) (fun _ i => ss.length - (intOf i).toNat)
    case atStart => exact ⟨0, ss.length, by omega, hl1, rfl, rfl⟩
    case round =>
      obtain ⟨t, s, ht, hs, rfl, rfl⟩ := hrel
      by_cases htn : t < ss.length
      · obtain ⟨b, o, rfl, _, hc⟩ := hv.at (by omega)
        have hu := hc t htn
        generalize strAt ss t = S at *
        clear hc hv
        by_cases hm1 : 1048576 < S.size
        · go_wp2
          go_ret
          exact HN.out
        · by_cases hm2 : 1048576 < s + S.size
          · go_wp2
            go_ret
            exact HN.out
          · go_wp2
            go_round
            case rel => exact ⟨t + 1, s + S.size, by omega, by omega, by go_num, by go_num⟩
            case measure => simp [intOf]; omega
      · clear hv
        by_cases hx1 : 1048576 < x.size
        · go_wp2
          go_ret
          exact HN.out
        · have HY : Hid (Says5 ss x w w (.returned (.bool true))) := ⟨true, rfl, rfl, fun _ => ⟨hl1, by omega⟩⟩
          by_cases hx2 : 1048576 < s + x.size
          · go_wp2
            go_ret
            exact HN.out
          · go_wp2
            go_ret
            exact HY.out
  · clear hv
    go_enter Try.func5, Try.ntmps5
    go_wp2
    go_ret
    exact HN.out

set_option maxHeartbeats 1000000 in
theorem bytes8_any (w : World) (M : Nat) (v u : Value) (ss rs : List ByteArray) (n : Int) (hv : Strs w M v ss) (hu : Strs w M u rs) :
    Calls Try.prog 8 #[v, u, .int .i64 n] w fun e w' => Says8 ss rs w w' e := by
  obtain ⟨a, c, rfl⟩ := hv.form
  obtain ⟨a', c', rfl⟩ := hu.form
  have HN : Hid (Says8 ss rs w w (.returned (.bool false))) := ⟨false, rfl, rfl, fun h => by cases h⟩
  by_cases hl1 : ss.length ≤ 1048576
  · go_enter Try.func8, Try.ntmps8
    go_wp2_with fail
    go_loop [7, 8] (fun z i => ∃ (t s : Nat), t ≤ ss.length ∧ s ≤ 1048576 ∧ z = .int .i64 s ∧ i = .int .i64 t) (fun _ i => ss.length - (intOf i).toNat)
    case atStart => exact ⟨0, ss.length, by omega, hl1, rfl, rfl⟩
    case round =>
      obtain ⟨t, s, ht, hs, rfl, rfl⟩ := hrel
      by_cases htn : t < ss.length
      · obtain ⟨b, o, rfl, _, hc⟩ := hv.at (by omega)
        have hcu := hc t htn
        generalize strAt ss t = S at *
        clear hc hv hu
        by_cases hm1 : 1048576 < S.size
        · go_wp2
          go_ret
          exact HN.out
        · by_cases hm2 : 1048576 < s + S.size
          · go_wp2
            go_ret
            exact HN.out
          · go_wp2
            go_round
            case rel => exact ⟨t + 1, s + S.size, by omega, by omega, by go_num, by go_num⟩
            case measure => simp [intOf]; omega
      · by_cases hl2 : rs.length ≤ 1048576
        · by_cases hsn : s + rs.length ≤ 1048576
          · clear hv
            go_wp2_with fail
            go_loop [7, 9] (fun z i => ∃ (t s : Nat), t ≤ rs.length ∧ s ≤ 1048576 ∧ z = .int .i64 s ∧ i = .int .i64 t) (fun _ i => rs.length - (intOf i).toNat)
            case atStart => exact ⟨0, s + rs.length, by omega, hsn, by go_num, rfl⟩
            case round =>
              obtain ⟨t2, s2, ht2, hs2, rfl, rfl⟩ := hrel
              by_cases htn2 : t2 < rs.length
              · obtain ⟨b, o, rfl, _, hc⟩ := hu.at (by omega)
                have hcu := hc t2 htn2
                generalize strAt rs t2 = S at *
                clear hc hu
                by_cases hm1 : 1048576 < S.size
                · go_wp2
                  go_ret
                  exact HN.out
                · by_cases hm2 : 1048576 < s2 + S.size
                  · go_wp2
                    go_ret
                    exact HN.out
                  · go_wp2
                    go_round
                    case rel => exact ⟨t2 + 1, s2 + S.size, by omega, by omega, by go_num, by go_num⟩
                    case measure => simp [intOf]; omega
              · have HY : Hid (Says8 ss rs w w (.returned (.bool true))) := ⟨true, rfl, rfl, fun _ => ⟨hl1, hl2⟩⟩
                clear hu
                go_wp2
                go_ret
                exact HY.out
          · clear hv hu
            go_wp2
            go_ret
            exact HN.out
        · clear hv hu
          go_wp2
          go_ret
          exact HN.out
  · clear hv hu
    go_enter Try.func8, Try.ntmps8
    go_wp2
    go_ret
    exact HN.out
end Go.Proofs.Qxb6618338a
