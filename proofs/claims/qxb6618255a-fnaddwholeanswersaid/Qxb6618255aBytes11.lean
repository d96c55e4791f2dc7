/-
  THE BOUND ON LENGTHS AHEAD OF FnAddWholeAnswer, walked.
-/
import Derived.Test.Qxb6618255aStrs
namespace Go.Proofs.Qxb6618255a
open Go.RowKit Go.Maps

/-- Some bool; where it says true, all is short. -/
def Says11 (ss ls : List (List UInt8)) (l : List UInt8) (w w' : World) (e : Ending) : Prop :=
  ∃ b, e = .returned (.bool b) ∧ w' = w ∧ (b = true → ss.length ≤ 1048576 ∧ ls.length ≤ 1048576 ∧ l.length ≤ 1048576 ∧ Short ss ∧ Short ls)

set_option maxHeartbeats 2000000 in
theorem bytes11_any (w : World) (M : Nat) (fr : Int) (v1 v2 v3 : Value) (ss ls : List (List UInt8)) (l : List UInt8) (h1 : Strs w M v1 ss) (h2 : NBs w M v2 ls) (h3 : NB w 0 M v3 l) :
    Calls Try.prog 11 #[.int .i64 fr, v1, v2, v3] w fun e w' => Says11 ss ls l w w' e := by
  obtain ⟨a1, c1, rfl⟩ := h1.form
  obtain ⟨a2, c2, rfl⟩ := h2.form
  obtain ⟨a3, c3, rfl⟩ := h3.form
  have hs1 := @short_of ss
  have hs2 := @short_of ls
  have H1 : ∀ i, i < ss.length → ∃ b o, a1 = some ⟨b, o, none⟩ ∧ w.cell? ⟨b, o + i, none⟩ = some (.string (strOf (nameAt ss i))) := fun i hi => by
    obtain ⟨b, o, e, h⟩ := h1.at (by omega)
    exact ⟨b, o, e, h i hi⟩
  have H2 := @NBs.at w M a2 ls.length c2 ls h2
  have HY : ss.length ≤ 1048576 → ls.length ≤ 1048576 → l.length ≤ 1048576 → Short ss → Short ls → Says11 ss ls l w w (.returned (.bool true)) := fun h1 h2 h3 h4 h5 => ⟨true, rfl, rfl, fun _ => ⟨h1, h2, h3, h4, h5⟩⟩
  generalize hn1 : ss.length = n1 at *
  generalize hn2 : ls.length = n2 at *
  generalize hn3 : l.length = n3 at *
  clear h1 h2 h3 hn1 hn2 hn3
  by_cases hl1 : n1 ≤ 1048576
  · go_enter Try.func11, Try.ntmps11
    go_wp2_with fail
    go_loop [9, 10] (fun z i => ∃ (t s : Nat), t ≤ n1 ∧ s ≤ 1048576 ∧ z = .int .i64 s ∧ i = .int .i64 t ∧ ∀ x, x < t → (nameAt ss x).length ≤ 1048576) (fun _ i => n1 - (intOf i).toNat)
    case atStart => exact ⟨0, n1, by omega, hl1, rfl, rfl, fun x h => absurd h (by omega)⟩
    case round =>
      obtain ⟨t, s, ht, hs, rfl, rfl, hx⟩ := hrel
      by_cases htn : t < n1
      · obtain ⟨b, o, rfl, hu⟩ := H1 t htn
        have hm : (strOf (nameAt ss t)).size = (nameAt ss t).length := strOf_size _
        generalize strOf (nameAt ss t) = S at *
        clear H1 H2 hs1 hs2 HY
        have HM : Hid (S.size = (nameAt ss t).length) := hm
        clear hm
        by_cases hm1 : 1048576 < S.size
        · go_wp2
          go_ret
          exact ⟨false, rfl, rfl, fun h => by cases h⟩
        · by_cases hm2 : 1048576 < s + S.size
          · go_wp2
            go_ret
            exact ⟨false, rfl, rfl, fun h => by cases h⟩
          · go_wp2
            go_round
            case rel => exact ⟨t + 1, s + S.size, by omega, by omega, by go_num, by go_num, fun x hx' => (if e : x = t then (by rw [e, ← HM.out]; omega) else hx x (by omega))⟩
            case measure => simp [intOf]; omega
      · obtain rfl : n1 = t := by omega
        have hS1 := hs1 hx
        by_cases hl2 : n2 ≤ 1048576
        · by_cases hsn : s + n2 ≤ 1048576
          · clear hs1 hx H1
            go_wp2_with fail
            go_loop [9, 11] (fun z i => ∃ (t s : Nat), t ≤ n2 ∧ s ≤ 1048576 ∧ z = .int .i64 s ∧ i = .int .i64 t ∧ ∀ x, x < t → (nameAt ls x).length ≤ 1048576) (fun _ i => n2 - (intOf i).toNat)
            case atStart => exact ⟨0, s + n2, by omega, hsn, by go_num, rfl, fun x h => absurd h (by omega)⟩
            case round =>
              obtain ⟨t, s, ht, hs, rfl, rfl, hx⟩ := hrel
              by_cases htn : t < n2
              · obtain ⟨b, o, rfl, hb, p, cp, hu, _⟩ := H2 t htn
                generalize hm : (nameAt ls t).length = m at *
                clear H2 hs2 HY
                have HM : Hid ((nameAt ls t).length = m) := hm
                clear hm
                by_cases hm1 : 1048576 < m
                · go_wp2
                  go_ret
                  exact ⟨false, rfl, rfl, fun h => by cases h⟩
                · by_cases hm2 : 1048576 < s + m
                  · go_wp2
                    go_ret
                    exact ⟨false, rfl, rfl, fun h => by cases h⟩
                  · go_wp2
                    go_round
                    case rel => exact ⟨t + 1, s + m, by omega, by omega, by go_num, by go_num, fun x hx' => (if e : x = t then (by rw [e, HM.out]; omega) else hx x (by omega))⟩
                    case measure => simp [intOf]; omega
              · obtain rfl : n2 = t := by omega
                have hS2 := hs2 hx
                clear hs2 hx H2
                by_cases hl3 : n3 ≤ 1048576
                · by_cases hsm : s + n3 ≤ 1048576
                  · have HZ : Hid (Says11 ss ls l w w (.returned (.bool true))) := HY hl1 hl2 hl3 hS1 hS2
                    clear HY hS1 hS2
                    go_wp2
                    go_ret
                    exact HZ.out
                  · clear HY hS1 hS2
                    go_wp2
                    go_ret
                    exact ⟨false, rfl, rfl, fun h => by cases h⟩
                · clear HY hS1 hS2
                  go_wp2
                  go_ret
                  exact ⟨false, rfl, rfl, fun h => by cases h⟩
          · clear hs1 hs2 hx HY H1 H2 hS1
            go_wp2
            go_ret
            exact ⟨false, rfl, rfl, fun h => by cases h⟩
        · clear hs1 hs2 hx HY H1 H2 hS1
          go_wp2
          go_ret
          exact ⟨false, rfl, rfl, fun h => by cases h⟩
  · clear hs1 hs2 HY H1 H2
    go_enter Try.func11, Try.ntmps11
    go_wp2
    go_ret
    exact ⟨false, rfl, rfl, fun h => by cases h⟩
end Go.Proofs.Qxb6618255a
