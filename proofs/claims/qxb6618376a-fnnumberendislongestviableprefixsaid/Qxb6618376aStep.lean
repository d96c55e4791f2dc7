/-
  'numStep', 'numAccepting', 'numRun', walked: the law's own automaton is the one of Auto.
-/
import Derived.Test.Qxb6618376aRows
import Derived.Test.Qxb6618376aAuto
import Derived.WalkKit
import Derived.WalkSpells
import Derived.LoopTactic
import Derived.WalkSmall
namespace Go.Proofs.Qxb6618376a
open Go.RowKit

theorem numAccepting_any (st : Int) (w : World) :
    Calls Try.prog 9 #[.int .i64 st] w fun e w' => e = .returned (.bool (acc st)) ∧ w' = w := by
  by_cases h1 : st = 2
  · subst h1
    go_enter Try.func9, Try.ntmps9
    go_wp2
    go_ret
    exact ⟨rfl, rfl⟩
  have e1 : (st == 2) = false := by simpa using h1
  by_cases h2 : st = 3
  · subst h2
    go_enter Try.func9, Try.ntmps9
    go_wp2
    go_ret
    exact ⟨rfl, rfl⟩
  have e2 : (st == 3) = false := by simpa using h2
  by_cases h3 : st = 5
  · subst h3
    go_enter Try.func9, Try.ntmps9
    go_wp2
    go_ret
    exact ⟨rfl, rfl⟩
  have e3 : (st == 5) = false := by simpa using h3
  clear h1 h2 h3
  go_enter Try.func9, Try.ntmps9
  go_wp2
  go_ret
  exact ⟨by simp [acc, e1, e2, e3], rfl⟩

set_option maxRecDepth 100000 in
set_option maxHeartbeats 1000000 in
theorem step0 (c : Int) (w : World) :
    Calls Try.prog 8 #[.int .i64 0, .int .u8 c] w fun e w' => e = .returned (.int .i64 (step 0 c)) ∧ w' = w := by
  by_cases h1 : 48 ≤ c
  · have e1 : decide (48 ≤ c) = true := by simpa using h1
    by_cases h2 : c ≤ 57
    · have e2 : decide (c ≤ 57) = true := by simpa using h2
      have e : dg c = true := by simp [dg, h1, h2]
      go_enter Try.func8, Try.ntmps8
      go_wp2
      all_goals go_ret
      all_goals (refine ⟨congrArg (fun x => Ending.returned (Value.int IntKind.i64 x)) (?_ : _ = _), rfl⟩; simp_all [step])
      all_goals omega
    · have e2 : decide (c ≤ 57) = false := by simpa using h2
      have e : dg c = false := by simp [dg, h1, h2]
      go_enter Try.func8, Try.ntmps8
      go_wp2
      all_goals go_ret
      all_goals (refine ⟨congrArg (fun x => Ending.returned (Value.int IntKind.i64 x)) (?_ : _ = _), rfl⟩; simp_all [step])
      all_goals omega
  · have e1 : decide (48 ≤ c) = false := by simpa using h1
    have e : dg c = false := by simp [dg, h1]
    go_enter Try.func8, Try.ntmps8
    go_wp2
    all_goals go_ret
    all_goals (refine ⟨congrArg (fun x => Ending.returned (Value.int IntKind.i64 x)) (?_ : _ = _), rfl⟩; simp_all [step])
    all_goals omega

set_option maxRecDepth 100000 in
set_option maxHeartbeats 1000000 in
theorem step1 (c : Int) (w : World) :
    Calls Try.prog 8 #[.int .i64 1, .int .u8 c] w fun e w' => e = .returned (.int .i64 (step 1 c)) ∧ w' = w := by
  by_cases h1 : 48 ≤ c
  · have e1 : decide (48 ≤ c) = true := by simpa using h1
    by_cases h2 : c ≤ 57
    · have e2 : decide (c ≤ 57) = true := by simpa using h2
      have e : dg c = true := by simp [dg, h1, h2]
      go_enter Try.func8, Try.ntmps8
      go_wp2
      all_goals go_ret
      all_goals (refine ⟨congrArg (fun x => Ending.returned (Value.int IntKind.i64 x)) (?_ : _ = _), rfl⟩; simp_all [step])
      all_goals omega
    · have e2 : decide (c ≤ 57) = false := by simpa using h2
      have e : dg c = false := by simp [dg, h1, h2]
      go_enter Try.func8, Try.ntmps8
      go_wp2
      all_goals go_ret
      all_goals (refine ⟨congrArg (fun x => Ending.returned (Value.int IntKind.i64 x)) (?_ : _ = _), rfl⟩; simp_all [step])
      all_goals omega
  · have e1 : decide (48 ≤ c) = false := by simpa using h1
    have e : dg c = false := by simp [dg, h1]
    go_enter Try.func8, Try.ntmps8
    go_wp2
    all_goals go_ret
    all_goals (refine ⟨congrArg (fun x => Ending.returned (Value.int IntKind.i64 x)) (?_ : _ = _), rfl⟩; simp_all [step])
    all_goals omega

set_option maxRecDepth 100000 in
set_option maxHeartbeats 1000000 in
theorem step2 (c : Int) (w : World) :
    Calls Try.prog 8 #[.int .i64 2, .int .u8 c] w fun e w' => e = .returned (.int .i64 (step 2 c)) ∧ w' = w := by
  by_cases h1 : 48 ≤ c
  · have e1 : decide (48 ≤ c) = true := by simpa using h1
    by_cases h2 : c ≤ 57
    · have e2 : decide (c ≤ 57) = true := by simpa using h2
      have e : dg c = true := by simp [dg, h1, h2]
      go_enter Try.func8, Try.ntmps8
      go_wp2
      all_goals go_ret
      all_goals (refine ⟨congrArg (fun x => Ending.returned (Value.int IntKind.i64 x)) (?_ : _ = _), rfl⟩; simp_all [step])
      all_goals omega
    · have e2 : decide (c ≤ 57) = false := by simpa using h2
      have e : dg c = false := by simp [dg, h1, h2]
      go_enter Try.func8, Try.ntmps8
      go_wp2
      all_goals go_ret
      all_goals (refine ⟨congrArg (fun x => Ending.returned (Value.int IntKind.i64 x)) (?_ : _ = _), rfl⟩; simp_all [step])
      all_goals omega
  · have e1 : decide (48 ≤ c) = false := by simpa using h1
    have e : dg c = false := by simp [dg, h1]
    go_enter Try.func8, Try.ntmps8
    go_wp2
    all_goals go_ret
    all_goals (refine ⟨congrArg (fun x => Ending.returned (Value.int IntKind.i64 x)) (?_ : _ = _), rfl⟩; simp_all [step])
    all_goals omega

set_option maxRecDepth 100000 in
set_option maxHeartbeats 1000000 in
theorem step3 (c : Int) (w : World) :
    Calls Try.prog 8 #[.int .i64 3, .int .u8 c] w fun e w' => e = .returned (.int .i64 (step 3 c)) ∧ w' = w := by
  by_cases h1 : 48 ≤ c
  · have e1 : decide (48 ≤ c) = true := by simpa using h1
    by_cases h2 : c ≤ 57
    · have e2 : decide (c ≤ 57) = true := by simpa using h2
      have e : dg c = true := by simp [dg, h1, h2]
      go_enter Try.func8, Try.ntmps8
      go_wp2
      all_goals go_ret
      all_goals (refine ⟨congrArg (fun x => Ending.returned (Value.int IntKind.i64 x)) (?_ : _ = _), rfl⟩; simp_all [step])
      all_goals omega
    · have e2 : decide (c ≤ 57) = false := by simpa using h2
      have e : dg c = false := by simp [dg, h1, h2]
      go_enter Try.func8, Try.ntmps8
      go_wp2
      all_goals go_ret
      all_goals (refine ⟨congrArg (fun x => Ending.returned (Value.int IntKind.i64 x)) (?_ : _ = _), rfl⟩; simp_all [step])
      all_goals omega
  · have e1 : decide (48 ≤ c) = false := by simpa using h1
    have e : dg c = false := by simp [dg, h1]
    go_enter Try.func8, Try.ntmps8
    go_wp2
    all_goals go_ret
    all_goals (refine ⟨congrArg (fun x => Ending.returned (Value.int IntKind.i64 x)) (?_ : _ = _), rfl⟩; simp_all [step])
    all_goals omega

set_option maxRecDepth 100000 in
set_option maxHeartbeats 1000000 in
theorem step4 (c : Int) (w : World) :
    Calls Try.prog 8 #[.int .i64 4, .int .u8 c] w fun e w' => e = .returned (.int .i64 (step 4 c)) ∧ w' = w := by
  by_cases h1 : 48 ≤ c
  · have e1 : decide (48 ≤ c) = true := by simpa using h1
    by_cases h2 : c ≤ 57
    · have e2 : decide (c ≤ 57) = true := by simpa using h2
      have e : dg c = true := by simp [dg, h1, h2]
      go_enter Try.func8, Try.ntmps8
      go_wp2
      all_goals go_ret
      all_goals (refine ⟨congrArg (fun x => Ending.returned (Value.int IntKind.i64 x)) (?_ : _ = _), rfl⟩; simp_all [step])
      all_goals omega
    · have e2 : decide (c ≤ 57) = false := by simpa using h2
      have e : dg c = false := by simp [dg, h1, h2]
      go_enter Try.func8, Try.ntmps8
      go_wp2
      all_goals go_ret
      all_goals (refine ⟨congrArg (fun x => Ending.returned (Value.int IntKind.i64 x)) (?_ : _ = _), rfl⟩; simp_all [step])
      all_goals omega
  · have e1 : decide (48 ≤ c) = false := by simpa using h1
    have e : dg c = false := by simp [dg, h1]
    go_enter Try.func8, Try.ntmps8
    go_wp2
    all_goals go_ret
    all_goals (refine ⟨congrArg (fun x => Ending.returned (Value.int IntKind.i64 x)) (?_ : _ = _), rfl⟩; simp_all [step])
    all_goals omega

set_option maxRecDepth 100000 in
set_option maxHeartbeats 1000000 in
theorem step5 (c : Int) (w : World) :
    Calls Try.prog 8 #[.int .i64 5, .int .u8 c] w fun e w' => e = .returned (.int .i64 (step 5 c)) ∧ w' = w := by
  by_cases h1 : 48 ≤ c
  · have e1 : decide (48 ≤ c) = true := by simpa using h1
    by_cases h2 : c ≤ 57
    · have e2 : decide (c ≤ 57) = true := by simpa using h2
      have e : dg c = true := by simp [dg, h1, h2]
      go_enter Try.func8, Try.ntmps8
      go_wp2
      all_goals go_ret
      all_goals (refine ⟨congrArg (fun x => Ending.returned (Value.int IntKind.i64 x)) (?_ : _ = _), rfl⟩; simp_all [step])
      all_goals omega
    · have e2 : decide (c ≤ 57) = false := by simpa using h2
      have e : dg c = false := by simp [dg, h1, h2]
      go_enter Try.func8, Try.ntmps8
      go_wp2
      all_goals go_ret
      all_goals (refine ⟨congrArg (fun x => Ending.returned (Value.int IntKind.i64 x)) (?_ : _ = _), rfl⟩; simp_all [step])
      all_goals omega
  · have e1 : decide (48 ≤ c) = false := by simpa using h1
    have e : dg c = false := by simp [dg, h1]
    go_enter Try.func8, Try.ntmps8
    go_wp2
    all_goals go_ret
    all_goals (refine ⟨congrArg (fun x => Ending.returned (Value.int IntKind.i64 x)) (?_ : _ = _), rfl⟩; simp_all [step])
    all_goals omega

set_option maxRecDepth 100000 in
set_option maxHeartbeats 1000000 in
theorem step6 (c : Int) (w : World) :
    Calls Try.prog 8 #[.int .i64 6, .int .u8 c] w fun e w' => e = .returned (.int .i64 (step 6 c)) ∧ w' = w := by
  by_cases h1 : 48 ≤ c
  · have e1 : decide (48 ≤ c) = true := by simpa using h1
    by_cases h2 : c ≤ 57
    · have e2 : decide (c ≤ 57) = true := by simpa using h2
      have e : dg c = true := by simp [dg, h1, h2]
      go_enter Try.func8, Try.ntmps8
      go_wp2
      all_goals go_ret
      all_goals (refine ⟨congrArg (fun x => Ending.returned (Value.int IntKind.i64 x)) (?_ : _ = _), rfl⟩; simp_all [step])
      all_goals omega
    · have e2 : decide (c ≤ 57) = false := by simpa using h2
      have e : dg c = false := by simp [dg, h1, h2]
      go_enter Try.func8, Try.ntmps8
      go_wp2
      all_goals go_ret
      all_goals (refine ⟨congrArg (fun x => Ending.returned (Value.int IntKind.i64 x)) (?_ : _ = _), rfl⟩; simp_all [step])
      all_goals omega
  · have e1 : decide (48 ≤ c) = false := by simpa using h1
    have e : dg c = false := by simp [dg, h1]
    go_enter Try.func8, Try.ntmps8
    go_wp2
    all_goals go_ret
    all_goals (refine ⟨congrArg (fun x => Ending.returned (Value.int IntKind.i64 x)) (?_ : _ = _), rfl⟩; simp_all [step])
    all_goals omega

set_option maxRecDepth 100000 in
set_option maxHeartbeats 1000000 in
theorem step7 (c : Int) (w : World) :
    Calls Try.prog 8 #[.int .i64 7, .int .u8 c] w fun e w' => e = .returned (.int .i64 (step 7 c)) ∧ w' = w := by
  by_cases h1 : 48 ≤ c
  · have e1 : decide (48 ≤ c) = true := by simpa using h1
    by_cases h2 : c ≤ 57
    · have e2 : decide (c ≤ 57) = true := by simpa using h2
      have e : dg c = true := by simp [dg, h1, h2]
      go_enter Try.func8, Try.ntmps8
      go_wp2
      all_goals go_ret
      all_goals (refine ⟨congrArg (fun x => Ending.returned (Value.int IntKind.i64 x)) (?_ : _ = _), rfl⟩; simp_all [step])
      all_goals omega
    · have e2 : decide (c ≤ 57) = false := by simpa using h2
      have e : dg c = false := by simp [dg, h1, h2]
      go_enter Try.func8, Try.ntmps8
      go_wp2
      all_goals go_ret
      all_goals (refine ⟨congrArg (fun x => Ending.returned (Value.int IntKind.i64 x)) (?_ : _ = _), rfl⟩; simp_all [step])
      all_goals omega
  · have e1 : decide (48 ≤ c) = false := by simpa using h1
    have e : dg c = false := by simp [dg, h1]
    go_enter Try.func8, Try.ntmps8
    go_wp2
    all_goals go_ret
    all_goals (refine ⟨congrArg (fun x => Ending.returned (Value.int IntKind.i64 x)) (?_ : _ = _), rfl⟩; simp_all [step])
    all_goals omega

set_option maxRecDepth 100000 in
set_option maxHeartbeats 1000000 in
theorem step8 (c : Int) (w : World) :
    Calls Try.prog 8 #[.int .i64 8, .int .u8 c] w fun e w' => e = .returned (.int .i64 (step 8 c)) ∧ w' = w := by
  by_cases h1 : 48 ≤ c
  · have e1 : decide (48 ≤ c) = true := by simpa using h1
    by_cases h2 : c ≤ 57
    · have e2 : decide (c ≤ 57) = true := by simpa using h2
      have e : dg c = true := by simp [dg, h1, h2]
      go_enter Try.func8, Try.ntmps8
      go_wp2
      all_goals go_ret
      all_goals (refine ⟨congrArg (fun x => Ending.returned (Value.int IntKind.i64 x)) (?_ : _ = _), rfl⟩; simp_all [step])
      all_goals omega
    · have e2 : decide (c ≤ 57) = false := by simpa using h2
      have e : dg c = false := by simp [dg, h1, h2]
      go_enter Try.func8, Try.ntmps8
      go_wp2
      all_goals go_ret
      all_goals (refine ⟨congrArg (fun x => Ending.returned (Value.int IntKind.i64 x)) (?_ : _ = _), rfl⟩; simp_all [step])
      all_goals omega
  · have e1 : decide (48 ≤ c) = false := by simpa using h1
    have e : dg c = false := by simp [dg, h1]
    go_enter Try.func8, Try.ntmps8
    go_wp2
    all_goals go_ret
    all_goals (refine ⟨congrArg (fun x => Ending.returned (Value.int IntKind.i64 x)) (?_ : _ = _), rfl⟩; simp_all [step])
    all_goals omega

theorem numStep_any (st c : Int) (h0 : 0 ≤ st) (h8 : st ≤ 8) (w : World) :
    Calls Try.prog 8 #[.int .i64 st, .int .u8 c] w fun e w' => e = .returned (.int .i64 (step st c)) ∧ w' = w := by
  have h : st = 0 ∨ st = 1 ∨ st = 2 ∨ st = 3 ∨ st = 4 ∨ st = 5 ∨ st = 6 ∨ st = 7 ∨ st = 8 := by omega
  rcases h with rfl | rfl | rfl | rfl | rfl | rfl | rfl | rfl | rfl
  · exact step0 c w
  · exact step1 c w
  · exact step2 c w
  · exact step3 c w
  · exact step4 c w
  · exact step5 c w
  · exact step6 c w
  · exact step7 c w
  · exact step8 c w

theorem step_le (st c : Int) : step st c ≤ 8 := by
  unfold step
  repeat' split
  all_goals omega
theorem run_le (f : Nat → Int) (off k : Nat) : run f off k ≤ 8 := by
  cases k
  · simp [run]
  · exact step_le _ _

set_option maxRecDepth 100000 in
set_option maxHeartbeats 800000 in
/-- The run over what the automaton can read ends in its state. -/
theorem numRun_any (S : ByteArray) (off r : Nat) (hr : r ≤ S.size) (ho : off ≤ r) (hn : S.size ≤ 1048576) (hlive : ∀ k, k ≤ r - off → 0 ≤ run (bt S) off k) (w : World) :
    Calls Try.prog 7 #[.string S, .int .i64 off, .int .i64 r] w fun e w' => e = .returned (.int .i64 (run (bt S) off (r - off))) ∧ w' = w := by
  have hl : Hid (∀ k, k ≤ r - off → 0 ≤ run (bt S) off k) := hlive
  clear hlive
  go_enter Try.func7, Try.ntmps7
  go_wp2
  go_loop [7, 8] (fun s i => ∃ k : Nat, off + k ≤ r ∧ s = .int .i64 (run (bt S) off k) ∧ i = .int .i64 ((off + k : Nat) : Int)) (fun _ i => r - (intOf i).toNat)
  case atStart => exact ⟨0, by omega, rfl, rfl⟩
  case round =>
    obtain ⟨k, hk, rfl, rfl⟩ := hrel
    have hrun : Hid (run (bt S) off (k + 1) = step (run (bt S) off k) (bt S (off + k))) := rfl
    have g0 := hl.out k (by omega)
    have g8 := run_le (bt S) off k
    by_cases hlt : off + k < r
    · have g1 := hl.out (k + 1) (by omega)
      have hb : decide (((off + k : Nat) : Int) < (r : Int)) = true := decide_eq_true (by omega)
      have hS : off + k < S.size := by omega
      have hbt : Hid (bt S (off + k) = ((S[off + k]'hS).toNat : Int)) := bt_in hS
      generalize hst : run (bt S) off k = st at *
      generalize hst' : run (bt S) off (k + 1) = st' at *
      have hst'' : Hid (run (bt S) off (k + 1) = st') := hst'
      have hs1 : Hid (step st ((S[off + k]'hS).toNat : Int) = st') := show _ = _ by rw [← hbt.out]; exact hrun.out.symm
      clear hst hst' hrun hbt
      generalize hj : off + k = j at *
      have i0 : (0 : Int) ≤ (j : Int) := by omega
      have i1 : (j : Int) < (S.size : Int) := by omega
      go_wp2_with (go_at_call 8; refine (numStep_any _ _ g0 g8 _).mono ?_; rintro e w1 ⟨rfl, hw1⟩; subst w1; rw [hs1.out])
      go_round
      case rel => exact ⟨k + 1, by omega, by rw [hst''.out], by go_num⟩
      case measure => simp [intOf]; omega
    · have hb : decide (((off + k : Nat) : Int) < (r : Int)) = false := decide_eq_false (by omega)
      have e : k = r - off := by omega
      clear hrun
      go_wp2
      go_ret
      exact ⟨rfl, rfl⟩
end Go.Proofs.Qxb6618376a
