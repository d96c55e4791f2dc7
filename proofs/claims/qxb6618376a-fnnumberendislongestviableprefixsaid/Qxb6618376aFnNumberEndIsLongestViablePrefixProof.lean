/-
  'Rows.FnNumberEndIsLongestViablePrefixSaid', proved. The frame is the given shell's; the walks are typed.
-/
import Derived.Test.Qxb6618376aRows
import Derived.Test.Qxb6618376aNum
import Derived.Test.Qxb6618376aStep
import Derived.WalkKit
import Derived.ProofKit
import Derived.OpenShut
import Derived.ShutString
namespace Go.Proofs.Qxb6618376a.fnNumberEndIsLongestViablePrefix
open Go.ChangeShapes Go.WideShapes Go.ChangeAt Go.RowKit
open Go.ChangeMaps (open_string shut_string)
set_option linter.unusedVariables false      -- a walk need not use every 'w<i>' (that an integer argument fits its kind)

theorem own : ownKnob Try.prog.godebug = none := by kernel_rfl

/-! ### STEP 1: THE WALK -/
theorem bytes_yes (s : ByteArray) (x : Int) (hn : s.size ≤ 1048576) (w : World) :
    Calls Try.prog 5 #[.string s, .int .i64 x] w fun e w' => e = .returned (.bool true) ∧ w' = w := by
  go_enter Try.func5, Try.ntmps5
  go_wp2
  go_ret
  exact ⟨rfl, rfl⟩
theorem bytes_no (s : ByteArray) (x : Int) (hn : 1048576 < s.size) (w : World) :
    Calls Try.prog 5 #[.string s, .int .i64 x] w fun e w' => e = .returned (.bool false) ∧ w' = w := by
  go_enter Try.func5, Try.ntmps5
  go_wp2
  go_ret
  exact ⟨rfl, rfl⟩

/-- A run that lives has lived. -/
theorem live {f : Nat → Int} {off n : Nat} (h : 0 ≤ run f off n) (k : Nat) (hk : k ≤ n) : 0 ≤ run f off k := by
  refine Classical.byContradiction fun hneg => ?_
  have := run_ge f off k
  have e := run_dead (show run f off k = -1 by omega) (n - k)
  rw [show k + (n - k) = n by omega] at e
  omega

set_option maxRecDepth 100000 in
set_option maxHeartbeats 800000 in
theorem behind (s : ByteArray) (off : Nat) (hn : s.size ≤ 1048576) (ho : s.size < off) (w : World) :
    Calls Try.prog 3 #[.string s, .int .i64 off] w fun e w' => e = .returned (.bool true) ∧ Grown w w' := by
  go_enter Try.func3, Try.ntmps3
  go_wp2_with (go_at_call 5; refine (bytes_yes _ _ hn _).mono ?_; rintro e w1 ⟨rfl, hw1⟩; subst w1)
  refine (zznumberEnd s off hn _).mono ?_
  rintro e w1 ⟨r, ok, hr, rfl, hw1⟩
  subst w1
  obtain ⟨rfl, rfl⟩ := hr.out (by omega)
  clear hr
  go_wp2
  go_ret
  exact ⟨by simp, Grown.refl _⟩

set_option maxRecDepth 100000 in
set_option maxHeartbeats 800000 in
theorem main (s : ByteArray) (off : Nat) (hn : s.size ≤ 1048576) (ho : off ≤ s.size) (w : World) :
    Calls Try.prog 3 #[.string s, .int .i64 off] w fun e w' => e = .returned (.bool true) ∧ Grown w w' := by
  go_enter Try.func3, Try.ntmps3
  go_wp2_with (go_at_call 5; refine (bytes_yes _ _ hn _).mono ?_; rintro e w1 ⟨rfl, hw1⟩; subst w1)
  refine (zznumberEnd s off hn _).mono ?_
  rintro e w1 ⟨r, ok, hr, rfl, hw1⟩
  subst w1
  have h1 := hr.le_off
  have h2 := hr.le ho
  obtain ⟨st, ⟨-, hst⟩, g0, hd, rfl⟩ := hr
  have g8 : st ≤ 8 := by rw [← hst]; exact run_le _ _ _
  have hl : Hid (∀ k, k ≤ r - off → 0 ≤ run (bt s) off k) := fun k hk => live (by rw [hst]; exact g0) k hk
  have hst' : Hid (run (bt s) off (r - off) = st) := hst
  have hd' : Hid (step st (bt s r) = -1) := hd
  clear hst hd
  have b1 : decide ((r : Int) < (off : Int)) = false := decide_eq_false (by omega)
  have b2 : decide ((s.size : Int) < (r : Int)) = false := decide_eq_false (by omega)
  go_wp2_with fail
  refine (numRun_any s off r h2 h1 hn hl.out _).mono ?_
  rintro e w1 ⟨rfl, hw1⟩
  subst w1
  rw [hst'.out]
  clear hst' hl
  have b3 : decide (st < 0) = false := decide_eq_false (by omega)
  generalize ha : acc st = A at *
  have ha' : Hid (acc st = A) := ha
  clear ha
  by_cases hlt : r < s.size
  · have i0 : (0 : Int) ≤ (r : Int) := by omega
    have i1 : (r : Int) < (s.size : Int) := by omega
    have hs1 : Hid (step st ((s[r]'hlt).toNat : Int) = -1) := show _ = _ by rw [← bt_in hlt]; exact hd'.out
    clear hd'
    go_wp2_with (first
      | (go_at_call 8; refine (numStep_any _ _ g0 g8 _).mono ?_; rintro e w1 ⟨rfl, hw1⟩; subst w1; rw [hs1.out])
      | (go_at_call 9; refine (numAccepting_any _ _).mono ?_; rintro e w1 ⟨rfl, hw1⟩; subst w1; rw [ha'.out]))
    go_ret
    exact ⟨by simp, Grown.refl _⟩
  · have b4 : decide ((r : Int) < (s.size : Int)) = false := decide_eq_false (by omega)
    clear hd'
    go_wp2_with (go_at_call 9; refine (numAccepting_any _ _).mono ?_; rintro e w1 ⟨rfl, hw1⟩; subst w1; rw [ha'.out])
    go_ret
    exact ⟨by simp, Grown.refl _⟩

set_option maxRecDepth 100000 in
theorem walk (a0 : ByteArray) (a1 : Int) (w0 : a0.size ≤ maxLen) (w1 : (Lit.int .i64 a1).wf = true) (w : World) :
    Calls Try.prog 3 #[.string a0, .int .i64 a1] w fun e w' => e = .returned (.bool true) ∧ Grown w w' := by
  by_cases hn : a0.size ≤ 1048576
  · by_cases h0 : a1 < 0
    · go_enter Try.func3, Try.ntmps3
      go_wp2_with (go_at_call 5; refine (bytes_yes _ _ hn _).mono ?_; rintro e w1 ⟨rfl, hw1⟩; subst w1)
      go_ret
      exact ⟨rfl, Grown.refl _⟩
    obtain ⟨off, rfl⟩ := Int.eq_ofNat_of_zero_le (show 0 ≤ a1 by omega)
    by_cases ho : off ≤ a0.size
    · exact main a0 off hn ho w
    · exact behind a0 off hn (by omega) w
  · have hn' : 1048576 < a0.size := by omega
    go_enter Try.func3, Try.ntmps3
    go_wp2_with (go_at_call 5; refine (bytes_no _ _ hn' _).mono ?_; rintro e w1 ⟨rfl, hw1⟩; subst w1)
    go_ret
    exact ⟨rfl, Grown.refl _⟩

/-! ### The row's step (as the shell has it) -/
set_option maxRecDepth 100000 in
theorem lifted (os : Os) (started : os.Started) (H : Type) (enc : TypeId × Value → H) :
    ReturnsInHanded {} Try.checked os 3 .any (Rows.fnNumberEndIsLongestViablePrefixSpec.pre6 enc Try.prog Try.f3 Rows.fnNumberEndIsLongestViablePrefixRow.domain false) (Rows.fnNumberEndIsLongestViablePrefixSpec.post enc Try.prog Try.f3 false true false false) := by
  refine returnsInHanded_of_change (C := Try.checked) own started (by kernel_rfl) Try.func3
    (ChangeSpec.witness6 (enc := enc) (C := Try.checked) false ⟨#[], #[.string ByteArray.empty, .int .i64 0], []⟩ 8 (by kernel_rfl) (by kernel_rfl) (by kernel_rfl) (by kernel_rfl)) ?_
  intro W base args ds gs before hval0 hW hcnd _
  have hval : ∀ (j : Nat) t v, Try.f3.params[j]? = some t → args[j]? = some v → Value.okWide Try.prog W .any base t v := hval0
  have hW' := hW
  obtain ⟨p, q, hA0, hV, rfl, hfz, hnd⟩ := hW
  have hA : DataW.TrodAll enc Try.prog W 0 (fun _ => true) true Try.f3.params.toList args.toList ds p := hA0
  rw [Try.params3] at hA hval
  obtain ⟨v0, vs0, d0, ds0, p0, q0, hargs, rfl, rfl, h0, r0⟩ := trodAll_cons hA
  obtain ⟨v1, vs1, d1, ds1, p1, q1, rfl, rfl, rfl, h1, r1⟩ := trodAll_cons r0
  obtain ⟨rfl, rfl, rfl⟩ := trodAll_nil r1
  obtain rfl : args = #[v0, v1] := by cases args; simp_all
  obtain ⟨rfl, rfl⟩ := trodVars_none hV
  obtain ⟨a0, rfl, rfl, rfl, w0⟩ := open_string Try.underlying9 (hval 0 9 v0 rfl rfl) h0
  obtain ⟨a1, rfl, rfl, rfl, w1⟩ := open_int Try.underlying3 (hval 1 3 v1 rfl rfl) h1
  clear hA0 hval0
  simp only [List.append_nil] at hW'
  refine (walk a0 a1 w0 w1 W).mono fun e W' ⟨he, hg⟩ => ?_
  subst he
  exact ⟨_, rfl, post_of_same (pa := []) (pv := []) hW' (fun _ _ _ => (trodAll_cons_mk (shut_bool Try.underlying4 _) trodAll_mk0)) (fun sp _ => (trodAll_cons_mk (shut_string Try.underlying9 w0) (trodAll_cons_mk (shut_int Try.underlying3 w1) trodAll_mk0))) (fun _ _ => rfl) rfl
    (hg.frame _) hg.2.1 (ok_one (by kernel_rfl) rfl (okWide_bool_mk Try.underlying4 _))⟩

theorem over : Rows.fnNumberEndIsLongestViablePrefixRow.holds Try.pinned (OpenSpec.ofChange Rows.fnNumberEndIsLongestViablePrefixSpec) :=
  OpenClaim.holds_of_wide 3 Try.f3 rfl rfl rfl rfl rfl rfl rfl ⟨rfl, rfl, rfl, rfl, rfl⟩ rfl rfl rfl rfl rfl (by kernel_rfl) Try.func3 (by kernel_rfl)
    (of_decide_eq_true (by kernel_rfl)) (by unfold Func.isWrapper; first | (rw [if_pos (by decide +kernel)]; kernel_rfl) | (rw [if_neg (by decide +kernel)]; exact ⟨rfl, rfl⟩))
    (fun os started H enc _ => lifted os started H enc)

/-- THE STATEMENT -/
theorem proved : Rows.FnNumberEndIsLongestViablePrefixSaid :=
  over

end Go.Proofs.Qxb6618376a.fnNumberEndIsLongestViablePrefix
