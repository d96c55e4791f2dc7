/-
  'Rows.FnNumberEndShiftsAndCutsSaid', proved. The frame is the given shell's; the walks are typed.
-/
import Derived.Test.Qxb6618376aRows
import Derived.Test.Qxb6618376aNum
import Derived.WalkKit
import Derived.ProofKit
import Derived.OpenShut
import Derived.ShutString
namespace Go.Proofs.Qxb6618376a.fnNumberEndShiftsAndCuts
open Go.ChangeShapes Go.WideShapes Go.ChangeAt Go.RowKit
open Go.ChangeMaps (open_string shut_string)
set_option linter.unusedVariables false      -- a walk need not use every 'w<i>' (that an integer argument fits its kind)

theorem own : ownKnob Try.prog.godebug = none := by kernel_rfl

/-! ### STEP 1: THE WALK -/
theorem bytes_yes (p s : ByteArray) (x : Int) (hn : p.size + s.size ≤ 1048576) (w : World) :
    Calls Try.prog 10 #[.string p, .string s, .int .i64 x] w fun e w' => e = .returned (.bool true) ∧ w' = w := by
  go_enter Try.func10, Try.ntmps10
  go_wp2
  go_ret
  exact ⟨rfl, rfl⟩
theorem bytes_no (p s : ByteArray) (x : Int) (hp : p.size ≤ maxLen) (hs : s.size ≤ maxLen) (hn : 1048576 < p.size + s.size) (w : World) :
    Calls Try.prog 10 #[.string p, .string s, .int .i64 x] w fun e w' => e = .returned (.bool false) ∧ w' = w := by
  by_cases h1 : 1048576 < p.size
  · go_enter Try.func10, Try.ntmps10
    go_wp2
    go_ret
    exact ⟨rfl, rfl⟩
  by_cases h2 : 1048576 < s.size
  · go_enter Try.func10, Try.ntmps10
    go_wp2
    go_ret
    exact ⟨rfl, rfl⟩
  go_enter Try.func10, Try.ntmps10
  go_wp2
  go_ret
  exact ⟨rfl, rfl⟩

theorem zzend_at (S : ByteArray) (off : Nat) (x : Int) (hx : x = off) (hn : S.size ≤ 1048576) (w : World) :
    Calls Try.prog 6 #[.string S, .int .i64 x] w fun e w' => ∃ (r : Nat) (ok : Bool), Ends (bt S) off r ok ∧ e = .returned (.tuple #[.int .i64 r, .bool ok]) ∧ w' = w := by
  subst hx; exact zznumberEnd S off hn w

set_option maxRecDepth 100000 in
set_option maxHeartbeats 800000 in
theorem main (p s : ByteArray) (off : Nat) (hn : p.size + s.size ≤ 1048576) (ho : off ≤ s.size) (w : World) :
    Calls Try.prog 4 #[.string p, .string s, .int .i64 off] w fun e w' => e = .returned (.bool true) ∧ Grown w w' := by
  go_enter Try.func4, Try.ntmps4
  go_wp2_with (go_at_call 10; refine (bytes_yes _ _ _ hn _).mono ?_; rintro e w1 ⟨rfl, hw1⟩; subst w1)
  refine (zznumberEnd s off (by omega) _).mono ?_
  rintro e w1 ⟨r, ok, hr, rfl, hw1⟩
  subst w1
  have h1 := hr.le_off
  have h2 := hr.le ho
  have hsz : (p ++ s).size = p.size + s.size := ByteArray.size_append
  have hsz2 : (s.extract 0 r).size = r := by rw [ByteArray.size_extract]; omega
  have k2 : Ends (bt (p ++ s)) (off + p.size) (r + p.size) ok := hr.shift (fun i => bt_append p s i)
  have k3 : Ends (bt (s.extract 0 r)) off r ok := hr.cut (fun i hi => by rw [bt_extract _ _ _ h2, if_pos hi]) (by rw [bt_extract _ _ _ h2, if_neg (by omega)])
  have hk2 : Hid (Ends (bt (p ++ s)) (off + p.size) (r + p.size) ok) := k2
  have hk3 : Hid (Ends (bt (s.extract 0 r)) off r ok) := k3
  have hle2 : Hid ((p ++ s).size ≤ 1048576) := show _ ≤ _ by omega
  have hle3 : Hid ((s.extract 0 r).size ≤ 1048576) := show _ ≤ _ by omega
  clear k2 k3 hr hsz hsz2
  have b1 : decide ((r : Int) < (off : Int)) = false := decide_eq_false (by omega)
  have b2 : decide ((s.size : Int) < (r : Int)) = false := decide_eq_false (by omega)
  go_wp2_with fail
  refine (zzend_at (p ++ s) (off + p.size) _ (by omega) hle2.out _).mono ?_
  rintro e w1 ⟨r2, ok2, hr2, rfl, hw1⟩
  subst w1
  obtain ⟨rfl, rfl⟩ := hk2.out.one hr2
  clear hr2 hk2
  go_wp2_with fail
  refine (zzend_at (s.extract 0 r) off _ (by omega) hle3.out _).mono ?_
  rintro e w1 ⟨r3, ok3, hr3, rfl, hw1⟩
  subst w1
  obtain ⟨rfl, rfl⟩ := hk3.out.one hr3
  clear hr3 hk3
  go_wp2
  go_ret
  exact ⟨by simp, Grown.refl _⟩

set_option maxRecDepth 100000 in
theorem walk (a0 : ByteArray) (a1 : ByteArray) (a2 : Int) (w0 : a0.size ≤ maxLen) (w1 : a1.size ≤ maxLen) (w2 : (Lit.int .i64 a2).wf = true) (w : World) :
    Calls Try.prog 4 #[.string a0, .string a1, .int .i64 a2] w fun e w' => e = .returned (.bool true) ∧ Grown w w' := by
  by_cases hn : a0.size + a1.size ≤ 1048576
  · by_cases h0 : a2 < 0
    · go_enter Try.func4, Try.ntmps4
      go_wp2_with (go_at_call 10; refine (bytes_yes _ _ _ hn _).mono ?_; rintro e w1 ⟨rfl, hw1⟩; subst w1)
      go_ret
      exact ⟨rfl, Grown.refl _⟩
    by_cases h1 : (a1.size : Int) < a2
    · go_enter Try.func4, Try.ntmps4
      go_wp2_with (go_at_call 10; refine (bytes_yes _ _ _ hn _).mono ?_; rintro e w1 ⟨rfl, hw1⟩; subst w1)
      go_ret
      exact ⟨rfl, Grown.refl _⟩
    obtain ⟨off, rfl⟩ := Int.eq_ofNat_of_zero_le (show 0 ≤ a2 by omega)
    exact main a0 a1 off hn (by omega) w
  · have hn' : 1048576 < a0.size + a1.size := by omega
    go_enter Try.func4, Try.ntmps4
    go_wp2_with (go_at_call 10; refine (bytes_no _ _ _ w0 w1 hn' _).mono ?_; rintro e w1 ⟨rfl, hw1⟩; subst w1)
    go_ret
    exact ⟨rfl, Grown.refl _⟩

/-! ### The row's step (as the shell has it) -/
set_option maxRecDepth 100000 in
theorem lifted (os : Os) (started : os.Started) (H : Type) (enc : TypeId × Value → H) :
    ReturnsInHanded {} Try.checked os 4 .any (Rows.fnNumberEndShiftsAndCutsSpec.pre6 enc Try.prog Try.f4 Rows.fnNumberEndShiftsAndCutsRow.domain false) (Rows.fnNumberEndShiftsAndCutsSpec.post enc Try.prog Try.f4 false true false false) := by
  refine returnsInHanded_of_change (C := Try.checked) own started (by kernel_rfl) Try.func4
    (ChangeSpec.witness6 (enc := enc) (C := Try.checked) false ⟨#[], #[.string ByteArray.empty, .string ByteArray.empty, .int .i64 0], []⟩ 8 (by kernel_rfl) (by kernel_rfl) (by kernel_rfl) (by kernel_rfl)) ?_
  intro W base args ds gs before hval0 hW hcnd _
  have hval : ∀ (j : Nat) t v, Try.f4.params[j]? = some t → args[j]? = some v → Value.okWide Try.prog W .any base t v := hval0
  have hW' := hW
  obtain ⟨p, q, hA0, hV, rfl, hfz, hnd⟩ := hW
  have hA : DataW.TrodAll enc Try.prog W 0 (fun _ => true) true Try.f4.params.toList args.toList ds p := hA0
  rw [Try.params4] at hA hval
  obtain ⟨v0, vs0, d0, ds0, p0, q0, hargs, rfl, rfl, h0, r0⟩ := trodAll_cons hA
  obtain ⟨v1, vs1, d1, ds1, p1, q1, rfl, rfl, rfl, h1, r1⟩ := trodAll_cons r0
  obtain ⟨v2, vs2, d2, ds2, p2, q2, rfl, rfl, rfl, h2, r2⟩ := trodAll_cons r1
  obtain ⟨rfl, rfl, rfl⟩ := trodAll_nil r2
  obtain rfl : args = #[v0, v1, v2] := by cases args; simp_all
  obtain ⟨rfl, rfl⟩ := trodVars_none hV
  obtain ⟨a0, rfl, rfl, rfl, w0⟩ := open_string Try.underlying9 (hval 0 9 v0 rfl rfl) h0
  obtain ⟨a1, rfl, rfl, rfl, w1⟩ := open_string Try.underlying9 (hval 1 9 v1 rfl rfl) h1
  obtain ⟨a2, rfl, rfl, rfl, w2⟩ := open_int Try.underlying3 (hval 2 3 v2 rfl rfl) h2
  clear hA0 hval0
  simp only [List.append_nil] at hW'
  refine (walk a0 a1 a2 w0 w1 w2 W).mono fun e W' ⟨he, hg⟩ => ?_
  subst he
  exact ⟨_, rfl, post_of_same (pa := []) (pv := []) hW' (fun _ _ _ => (trodAll_cons_mk (shut_bool Try.underlying4 _) trodAll_mk0)) (fun sp _ => (trodAll_cons_mk (shut_string Try.underlying9 w0) (trodAll_cons_mk (shut_string Try.underlying9 w1) (trodAll_cons_mk (shut_int Try.underlying3 w2) trodAll_mk0)))) (fun _ _ => rfl) rfl
    (hg.frame _) hg.2.1 (ok_one (by kernel_rfl) rfl (okWide_bool_mk Try.underlying4 _))⟩

theorem over : Rows.fnNumberEndShiftsAndCutsRow.holds Try.pinned (OpenSpec.ofChange Rows.fnNumberEndShiftsAndCutsSpec) :=
  OpenClaim.holds_of_wide 4 Try.f4 rfl rfl rfl rfl rfl rfl rfl ⟨rfl, rfl, rfl, rfl, rfl⟩ rfl rfl rfl rfl rfl (by kernel_rfl) Try.func4 (by kernel_rfl)
    (of_decide_eq_true (by kernel_rfl)) (by unfold Func.isWrapper; first | (rw [if_pos (by decide +kernel)]; kernel_rfl) | (rw [if_neg (by decide +kernel)]; exact ⟨rfl, rfl⟩))
    (fun os started H enc _ => lifted os started H enc)

/-- THE STATEMENT -/
theorem proved : Rows.FnNumberEndShiftsAndCutsSaid :=
  over

end Go.Proofs.Qxb6618376a.fnNumberEndShiftsAndCuts
