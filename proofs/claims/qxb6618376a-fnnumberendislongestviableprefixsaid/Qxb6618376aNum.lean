/-
  'isDigit', 'digits', 'numberEnd', 'ZZnumberEnd', walked: the answer is where the automaton's run ends.
-/
import Derived.Test.Qxb6618376aRows
import Derived.Test.Qxb6618376aAuto
import Derived.WalkKit
import Derived.WalkSpells
import Derived.LoopTactic
import Derived.WalkSmall
import Derived.Deep.Cut
import Derived.Deep.CutBlock
namespace Go.Proofs.Qxb6618376a
open Go.RowKit

theorem isDigit_any (c : Int) (w : World) :
    Calls Try.prog 12 #[.int .u8 c] w fun e w' => e = .returned (.bool (dg c)) ∧ w' = w := by
  by_cases h1 : 48 ≤ c
  · have e1 : decide (48 ≤ c) = true := by simpa using h1
    by_cases h2 : c ≤ 57
    · have e2 : decide (c ≤ 57) = true := by simpa using h2
      have e : dg c = true := by simp [dg, h1, h2]
      go_enter Try.func12, Try.ntmps12
      go_wp2
      go_ret
      exact ⟨by simp_all, rfl⟩
    · have e2 : decide (c ≤ 57) = false := by simpa using h2
      have e : dg c = false := by simp [dg, h1, h2]
      go_enter Try.func12, Try.ntmps12
      go_wp2
      go_ret
      exact ⟨by simp_all, rfl⟩
  · have e1 : decide (48 ≤ c) = false := by simpa using h1
    have e : dg c = false := by simp [dg, h1]
    go_enter Try.func12, Try.ntmps12
    go_wp2
    go_ret
    exact ⟨by simp_all, rfl⟩

theorem digs_step {f : Nat → Int} {p k : Nat} (h : ∀ i, p ≤ i → i < k → dg (f i) = true) (hk : dg (f k) = true) : ∀ i, p ≤ i → i < k + 1 → dg (f i) = true := by
  intro i a b
  by_cases e : i = k
  · rw [e]; exact hk
  · exact h i a (by omega)

set_option maxHeartbeats 400000 in
theorem digits_any (S : ByteArray) (p : Nat) (hn : S.size ≤ 1048576) (hp : p ≤ S.size) (w : World) :
    Calls Try.prog 13 #[.string S, .int .i64 p] w fun e w' => ∃ q : Nat, Digs (bt S) p q ∧ e = .returned (.int .i64 q) ∧ w' = w := by
  go_enter Try.func13, Try.ntmps13
  go_wp2
  go_loop [1] (fun i => ∃ k : Nat, p ≤ k ∧ k ≤ S.size ∧ (∀ i, p ≤ i → i < k → dg (bt S i) = true) ∧ i = .int .i64 k) (fun i => S.size - (intOf i).toNat)
  case atStart => exact ⟨p, Nat.le_refl _, hp, fun i h1 h2 => by omega, rfl⟩
  case round =>
    obtain ⟨k, hk1, hk2, hsp, rfl⟩ := hrel
    have hsp' : Hid (∀ i, p ≤ i → i < k → dg (bt S i) = true) := hsp
    clear hsp
    by_cases hlt : k < S.size
    · have i0 : (0 : Int) ≤ (k : Int) := by omega
      have i1 : (k : Int) < (S.size : Int) := by omega
      by_cases hd : dg (bt S k) = true
      · have hd' : dg ((S[k]'hlt).toNat : Int) = true := by rw [← bt_in hlt]; exact hd
        have hq : Hid (∀ i, p ≤ i → i < k + 1 → dg (bt S i) = true) := digs_step hsp'.out hd
        clear hd
        go_wp2_with (go_at_call 12; refine (isDigit_any _ _).mono ?_; rintro e w1 ⟨rfl, hw1⟩; subst w1)
        go_round
        case rel => exact ⟨k + 1, by omega, by omega, hq.out, by go_num⟩
        case measure => simp [intOf]; omega
      · have hd0 : dg (bt S k) = false := by simpa using hd
        have hd' : dg ((S[k]'hlt).toNat : Int) = false := by rw [← bt_in hlt]; exact hd0
        have hq : Hid (Digs (bt S) p k) := show Digs _ _ _ from ⟨hk1, hsp'.out, hd0⟩
        clear hd hd0
        go_wp2_with (go_at_call 12; refine (isDigit_any _ _).mono ?_; rintro e w1 ⟨rfl, hw1⟩; subst w1)
        go_ret
        exact ⟨k, hq.out, rfl, rfl⟩
    · have hb : decide ((k : Int) < (S.size : Int)) = false := decide_eq_false (by omega)
      have hq : Hid (Digs (bt S) p k) := show Digs _ _ _ from ⟨hk1, hsp'.out, by rw [bt_out hlt]; rfl⟩
      go_wp2
      go_ret
      exact ⟨k, hq.out, rfl, rfl⟩

/-- v holds the answer to p. -/
def Tst (v : Value) (p : Prop) : Prop := (v = .bool true ∧ p) ∨ (v = .bool false ∧ ¬ p)
theorem Tst.yes {p : Prop} (h : p) : Tst (.bool true) p := .inl ⟨rfl, h⟩
theorem Tst.no {p : Prop} (h : ¬ p) : Tst (.bool false) p := .inr ⟨rfl, h⟩
theorem digits_at (S : ByteArray) (p : Nat) (x : Int) (hx : x = p) (hn : S.size ≤ 1048576) (hp : p ≤ S.size) (w : World) :
    Calls Try.prog 13 #[.string S, .int .i64 x] w fun e w' => ∃ q : Nat, Digs (bt S) p q ∧ e = .returned (.int .i64 q) ∧ w' = w := by
  subst hx; exact digits_any S p hn hp w

/-- Behind the sign. -/
def P1 (S : ByteArray) (off i : Nat) : Prop := ∃ st : Int, At (bt S) off i st ∧ (st = 0 ∧ bt S i ≠ 45 ∨ st = 1)
/-- Behind the whole part. -/
def P2 (S : ByteArray) (off i : Nat) : Prop := ∃ st : Int, At (bt S) off i st ∧ (st = 2 ∨ st = 3 ∧ dg (bt S i) = false)
/-- Behind the fraction. -/
def P3 (S : ByteArray) (off i : Nat) : Prop := ∃ st : Int, At (bt S) off i st ∧ (st = 2 ∧ bt S i ≠ 46 ∨ st = 3 ∧ dg (bt S i) = false ∧ bt S i ≠ 46 ∨ st = 5 ∧ dg (bt S i) = false)
/-- Behind the exponent's letter and sign. -/
def P4 (S : ByteArray) (off i : Nat) : Prop := i ≤ S.size ∧ ∃ st : Int, At (bt S) off i st ∧ (st = 6 ∧ ¬ (bt S i = 43 ∨ bt S i = 45) ∨ st = 7)
/-- Behind the exponent. -/
def P5 (S : ByteArray) (off i : Nat) : Prop := Ends (bt S) off i true
/-- v is a place of this kind. -/
def Stg (P : Nat → Prop) (v : Value) : Prop := ∃ i : Nat, v = .int .i64 i ∧ P i
theorem Stg.here {P : Nat → Prop} {i : Nat} (h : P i) : Stg P (.int .i64 i) := ⟨i, rfl, h⟩
theorem Stg.after {P : Nat → Prop} {i : Nat} (h : P (i + 1)) : Stg P (.int .i64 ((i : Int) + 1)) := ⟨i + 1, by simp, h⟩

theorem p1_no {S : ByteArray} {off : Nat} (h : ¬ bt S off = 45) : P1 S off off := ⟨0, At.start _ _, .inl ⟨rfl, h⟩⟩
theorem p1_yes {S : ByteArray} {off : Nat} (h : bt S off = 45) : P1 S off (off + 1) := ⟨1, (At.start _ _).next (by simp [step, h]), .inr rfl⟩
theorem p1_zero {S : ByteArray} {off i : Nat} (h : P1 S off i) (h0 : bt S i = 48) : P2 S off (i + 1) := by
  obtain ⟨st, ha, hst⟩ := h
  refine ⟨2, ha.next ?_, .inl rfl⟩
  rcases hst with ⟨rfl, -⟩ | rfl <;> simp [step, h0]
theorem p1_digs {S : ByteArray} {off i q : Nat} (h : P1 S off i) (h0 : ¬ bt S i = 48) (hd : dg (bt S i) = true) (hq : Digs (bt S) i q) : P2 S off q := by
  obtain ⟨st, ha, hst⟩ := h
  refine ⟨3, ha.digs hq hd ?_ (fun c hc => by simp [step, hc]), .inr ⟨rfl, hq.2.2⟩⟩
  rcases hst with ⟨rfl, h45⟩ | rfl <;> simp [step, h0, hd]
  exact fun h => absurd h h45
theorem p1_end {S : ByteArray} {off i : Nat} (h : P1 S off i) (h0 : ¬ bt S i = 48) (hd : dg (bt S i) = false) : Ends (bt S) off i false := by
  obtain ⟨st, ha, hst⟩ := h
  refine ⟨st, ha, ?_, ?_, ?_⟩ <;> rcases hst with ⟨rfl, h45⟩ | rfl <;> simp_all [step, acc]
theorem p2_no {S : ByteArray} {off i : Nat} (h : P2 S off i) (hd : ¬ bt S i = 46) : P3 S off i := by
  obtain ⟨st, ha, hst⟩ := h
  refine ⟨st, ha, ?_⟩
  rcases hst with rfl | ⟨rfl, hst⟩
  · exact .inl ⟨rfl, hd⟩
  · exact .inr (.inl ⟨rfl, hst, hd⟩)
theorem p2_dot {S : ByteArray} {off i : Nat} (h : P2 S off i) (hd : bt S i = 46) : At (bt S) off (i + 1) 4 := by
  obtain ⟨st, ha, hst⟩ := h
  refine ha.next ?_
  have : dg 46 = false := rfl
  rcases hst with rfl | ⟨rfl, hst⟩ <;> simp [step, hd, this]
theorem p2_end {S : ByteArray} {off i : Nat} (h : P2 S off i) (hd : bt S i = 46) (hn : dg (bt S (i + 1)) = false) : Ends (bt S) off (i + 1) false :=
  ⟨4, p2_dot h hd, by omega, by simp [step, hn], rfl⟩
theorem p2_digs {S : ByteArray} {off i q : Nat} (h : P2 S off i) (hd : bt S i = 46) (hn : dg (bt S (i + 1)) = true) (hq : Digs (bt S) (i + 1) q) : P3 S off q :=
  ⟨5, (p2_dot h hd).digs hq hn (by simp [step, hn]) (fun c hc => by simp [step, hc]), .inr (.inr ⟨rfl, hq.2.2⟩)⟩
theorem p3_no {S : ByteArray} {off i : Nat} (h : P3 S off i) (he : ¬ (bt S i = 101 ∨ bt S i = 69)) : P5 S off i := by
  obtain ⟨st, ha, hst⟩ := h
  refine ⟨st, ha, ?_, ?_, ?_⟩ <;> rcases hst with ⟨rfl, h1⟩ | ⟨rfl, h1, h2⟩ | ⟨rfl, h1⟩ <;> simp_all [step, acc]
theorem p3_e {S : ByteArray} {off i : Nat} (h : P3 S off i) (he : bt S i = 101 ∨ bt S i = 69) : At (bt S) off (i + 1) 6 := by
  obtain ⟨st, ha, hst⟩ := h
  refine ha.next ?_
  have d1 : dg 101 = false := rfl
  have d2 : dg 69 = false := rfl
  rcases he with he | he <;> rcases hst with ⟨rfl, h1⟩ | ⟨rfl, h1, h2⟩ | ⟨rfl, h1⟩ <;> simp [step, he, d1, d2]
theorem p4_no {S : ByteArray} {off i : Nat} (h : P3 S off i) (he : bt S i = 101 ∨ bt S i = 69) (hi : i < S.size) (hs : ¬ (bt S (i + 1) = 43 ∨ bt S (i + 1) = 45)) : P4 S off (i + 1) :=
  ⟨by omega, 6, p3_e h he, .inl ⟨rfl, hs⟩⟩
theorem p4_yes {S : ByteArray} {off i : Nat} (h : P3 S off i) (he : bt S i = 101 ∨ bt S i = 69) (hi : i + 1 < S.size) (hs : bt S (i + 1) = 43 ∨ bt S (i + 1) = 45) : P4 S off (i + 1 + 1) :=
  ⟨by omega, 7, (p3_e h he).next (by simp [step, hs]), .inr rfl⟩
theorem p4_end {S : ByteArray} {off i : Nat} (h : P4 S off i) (hd : dg (bt S i) = false) : Ends (bt S) off i false := by
  obtain ⟨-, st, ha, hst⟩ := h
  refine ⟨st, ha, ?_, ?_, ?_⟩ <;> rcases hst with ⟨rfl, h1⟩ | rfl <;> simp_all [step, acc]
theorem p4_digs {S : ByteArray} {off i q : Nat} (h : P4 S off i) (hd : dg (bt S i) = true) (hq : Digs (bt S) i q) : P5 S off q := by
  obtain ⟨-, st, ha, hst⟩ := h
  have hq2 := hq.2.2
  refine ⟨8, ha.digs hq hd ?_ (fun c hc => by simp [step, hc]), by omega, by simp [step, hq2], rfl⟩
  rcases hst with ⟨rfl, h1⟩ | rfl <;> simp_all [step]

/-- What the walk wants to know of a byte that it reads. -/
theorem rd_yes {S : ByteArray} {i : Nat} {c : Int} (hlt : i < S.size) (h : bt S i = c) : (((S[i]'hlt).toNat : Int) == c) = true := by rw [← bt_in hlt]; simpa using h
theorem rd_no {S : ByteArray} {i : Nat} {c : Int} (hlt : i < S.size) (h : ¬ bt S i = c) : (((S[i]'hlt).toNat : Int) == c) = false := by rw [← bt_in hlt]; simpa using h
theorem rd_dg {S : ByteArray} {i : Nat} {b : Bool} (hlt : i < S.size) (h : dg (bt S i) = b) : dg ((S[i]'hlt).toNat : Int) = b := by rw [← bt_in hlt]; exact h
theorem dg_out {S : ByteArray} {i : Nat} (h : ¬ i < S.size) : dg (bt S i) = false := by rw [bt_out h]; rfl

set_option maxRecDepth 100000 in
set_option maxHeartbeats 2000000 in
theorem numberEnd_any (S : ByteArray) (off : Nat) (hn : S.size ≤ 1048576) (w : World) :
    Calls Try.prog 11 #[.string S, .int .i64 off] w fun e w' => ∃ (r : Nat) (ok : Bool), Ends (bt S) off r ok ∧ e = .returned (.tuple #[.int .i64 r, .bool ok]) ∧ w' = w := by
  go_enter Try.func11, Try.ntmps11
  go_upto_region 2 with fail
  go_cut [17] from 7 (fun v wc => Tst v (bt S off = 45) ∧ wc = w)
  case first =>
    by_cases hlt : off < S.size
    · have i0 : (0 : Int) ≤ (off : Int) := by omega
      have i1 : (off : Int) < (S.size : Int) := by omega
      by_cases hc : bt S off = 45
      · have hc' := rd_yes hlt hc
        have hq : Hid (bt S off = 45) := hc
        clear hc
        go_wp2
        go_meet
        exact ⟨Tst.yes hq, rfl⟩
      · have hc' := rd_no hlt hc
        have hq : Hid (¬ bt S off = 45) := hc
        clear hc
        go_wp2
        go_meet
        exact ⟨Tst.no hq, rfl⟩
    · have hb : decide ((off : Int) < (S.size : Int)) = false := decide_eq_false (by omega)
      have hq : Hid (¬ bt S off = 45) := show ¬ _ by rw [bt_out hlt]; decide
      go_wp2
      go_meet
      exact ⟨Tst.no hq, rfl⟩
  obtain ⟨h17, rfl⟩ := hcut
  go_upto_if 17 with fail
  go_cut [6] from 7 (fun v wd => Stg (P1 S off) v ∧ wd = wc)
  case first =>
    rcases h17 with ⟨rfl, hc⟩ | ⟨rfl, hc⟩
    · have hlt := bt_lt hc (by decide)
      have hq : Hid (bt S off = 45) := hc
      clear hc
      go_wp2
      go_meet
      exact ⟨Stg.after (p1_yes hq), rfl⟩
    · have hq : Hid (¬ bt S off = 45) := hc
      clear hc
      go_wp2
      go_meet
      exact ⟨Stg.here (p1_no hq), rfl⟩
  clear h17
  obtain ⟨⟨i, rfl, hp1⟩, rfl⟩ := hcut
  go_upto_block 0 with fail
  go_cut [6] from 7 (fun v wd => Stg (P2 S off) v ∧ wd = wc)
  case first =>
    by_cases hlt : i < S.size
    · have i0 : (0 : Int) ≤ (i : Int) := by omega
      have i1 : (i : Int) < (S.size : Int) := by omega
      by_cases hc : bt S i = 48
      · have hc' := rd_yes hlt hc
        have hq : Hid (bt S i = 48) := hc
        clear hc
        go_wp2
        go_meet
        exact ⟨Stg.after (p1_zero hp1 hq), rfl⟩
      have hc' := rd_no hlt hc
      have hq : Hid (¬ bt S i = 48) := hc
      clear hc
      by_cases hd : dg (bt S i) = true
      · have hd' := rd_dg hlt hd
        have hqd : Hid (dg (bt S i) = true) := hd
        clear hd
        go_wp2_with (first
          | (go_at_call 12; refine (isDigit_any _ _).mono ?_; rintro e w1 ⟨rfl, hw1⟩; subst w1)
          | (go_at_call 13; refine (digits_at S i i rfl hn (by omega) _).mono ?_; rintro e w1 ⟨q, hq1, rfl, hw1⟩; subst w1))
        go_meet
        exact ⟨Stg.here (p1_digs hp1 hq hqd hq1), rfl⟩
      · have hd0 : dg (bt S i) = false := by simpa using hd
        have hd' := rd_dg hlt hd0
        have hqd : Hid (dg (bt S i) = false) := hd0
        clear hd hd0
        go_wp2_with (go_at_call 12; refine (isDigit_any _ _).mono ?_; rintro e w1 ⟨rfl, hw1⟩; subst w1)
        go_ret2
        exact ⟨i, false, p1_end hp1 hq hqd, rfl, rfl⟩
    · have hb : decide ((i : Int) < (S.size : Int)) = false := decide_eq_false (by omega)
      have hq : Hid (¬ bt S i = 48) := show ¬ _ by rw [bt_out hlt]; decide
      have hqd : Hid (dg (bt S i) = false) := dg_out hlt
      go_wp2
      go_ret2
      exact ⟨i, false, p1_end hp1 hq hqd, rfl, rfl⟩
  clear hp1 i
  obtain ⟨⟨i, rfl, hp2⟩, rfl⟩ := hcut
  go_upto_region 9 with fail
  go_cut [57] from 7 (fun v wd => Tst v (bt S i = 46) ∧ wd = wc)
  case first =>
    by_cases hlt : i < S.size
    · have i0 : (0 : Int) ≤ (i : Int) := by omega
      have i1 : (i : Int) < (S.size : Int) := by omega
      by_cases hc : bt S i = 46
      · have hc' := rd_yes hlt hc
        have hq : Hid (bt S i = 46) := hc
        clear hc
        go_wp2
        go_meet
        exact ⟨Tst.yes hq, rfl⟩
      · have hc' := rd_no hlt hc
        have hq : Hid (¬ bt S i = 46) := hc
        clear hc
        go_wp2
        go_meet
        exact ⟨Tst.no hq, rfl⟩
    · have hb : decide ((i : Int) < (S.size : Int)) = false := decide_eq_false (by omega)
      have hq : Hid (¬ bt S i = 46) := show ¬ _ by rw [bt_out hlt]; decide
      go_wp2
      go_meet
      exact ⟨Tst.no hq, rfl⟩
  obtain ⟨h57, rfl⟩ := hcut
  go_upto_if 57 with fail
  go_cut [6] from 7 (fun v wd => Stg (P3 S off) v ∧ wd = wc)
  case first =>
    rcases h57 with ⟨rfl, hc⟩ | ⟨rfl, hc⟩
    · have hlt := bt_lt hc (by decide)
      have hq : Hid (bt S i = 46) := hc
      clear hc
      by_cases hlt2 : i + 1 < S.size
      · have i0 : (0 : Int) ≤ (i : Int) + 1 := by omega
        have i1 : (i : Int) + 1 < (S.size : Int) := by omega
        have ne : (((i : Int) + 1) == (S.size : Int)) = false := by simp; omega
        by_cases hd : dg (bt S (i + 1)) = true
        · have hd' := rd_dg hlt2 hd
          have hqd : Hid (dg (bt S (i + 1)) = true) := hd
          clear hd
          go_wp2_with (first
            | (go_at_call 12; refine (isDigit_any _ _).mono ?_; rintro e w1 ⟨rfl, hw1⟩; subst w1)
            | (go_at_call 13; refine (digits_at S (i + 1) _ (by omega) hn (by omega) _).mono ?_; rintro e w1 ⟨q, hq1, rfl, hw1⟩; subst w1))
          go_meet
          exact ⟨Stg.here (p2_digs hp2 hq hqd hq1), rfl⟩
        · have hd0 : dg (bt S (i + 1)) = false := by simpa using hd
          have hd' := rd_dg hlt2 hd0
          have hqd : Hid (dg (bt S (i + 1)) = false) := hd0
          clear hd hd0
          go_wp2_with (go_at_call 12; refine (isDigit_any _ _).mono ?_; rintro e w1 ⟨rfl, hw1⟩; subst w1)
          go_ret2
          exact ⟨i + 1, false, p2_end hp2 hq hqd, by simp, rfl⟩
      · have eq : (((i : Int) + 1) == (S.size : Int)) = true := by simp; omega
        have hqd : Hid (dg (bt S (i + 1)) = false) := dg_out hlt2
        go_wp2
        go_ret2
        refine ⟨i + 1, false, p2_end hp2 hq hqd, ?_, rfl⟩
        simp
    · have hq : Hid (¬ bt S i = 46) := hc
      clear hc
      go_wp2
      go_meet
      exact ⟨Stg.here (p2_no hp2 hq), rfl⟩
  clear h57 hp2 i
  obtain ⟨⟨i, rfl, hp3⟩, rfl⟩ := hcut
  go_upto_region 14 with fail
  go_cut [90] from 7 (fun v wd => Tst v (bt S i = 101 ∨ bt S i = 69) ∧ wd = wc)
  case first =>
    by_cases hlt : i < S.size
    · have i0 : (0 : Int) ≤ (i : Int) := by omega
      have i1 : (i : Int) < (S.size : Int) := by omega
      by_cases hc : bt S (i) = 101
      · have hc' := rd_yes hlt hc
        have hq : Hid (bt S (i) = 101 ∨ bt S (i) = 69) := Or.inl hc
        clear hc
        go_wp2
        go_meet
        exact ⟨Tst.yes hq, rfl⟩
      have hc' := rd_no hlt hc
      by_cases hd : bt S (i) = 69
      · have hd' := rd_yes hlt hd
        have hq : Hid (bt S (i) = 101 ∨ bt S (i) = 69) := Or.inr hd
        clear hc hd
        go_wp2
        go_meet
        exact ⟨Tst.yes hq, rfl⟩
      · have hd' := rd_no hlt hd
        have hq : Hid (¬ (bt S (i) = 101 ∨ bt S (i) = 69)) := not_or.2 ⟨hc, hd⟩
        clear hc hd
        go_wp2
        go_meet
        exact ⟨Tst.no hq, rfl⟩
    · have hb : decide ((i : Int) < (S.size : Int)) = false := decide_eq_false (by omega)
      have hq : Hid (¬ (bt S (i) = 101 ∨ bt S (i) = 69)) := show ¬ _ by rw [bt_out hlt]; decide
      go_wp2
      go_meet
      exact ⟨Tst.no hq, rfl⟩
  obtain ⟨h90, rfl⟩ := hcut
  go_upto_if 90 with fail
  go_cut [6] from 7 (fun v wd => Stg (P5 S off) v ∧ wd = wc)
  case first =>
    rcases h90 with ⟨rfl, hc⟩ | ⟨rfl, hc⟩
    · have hlt0 : i < S.size := by rcases hc with hc | hc <;> exact bt_lt hc (by decide)
      have hqe : Hid (bt S i = 101 ∨ bt S i = 69) := hc
      clear hc
      go_upto_region 16 with fail
      go_cut [108] from 7 (fun v wd => Tst v (bt S (i + 1) = 43 ∨ bt S (i + 1) = 45) ∧ wd = wc)
      case first =>
        by_cases hlt : i + 1 < S.size
        · have i0 : (0 : Int) ≤ (i : Int) + 1 := by omega
          have i1 : (i : Int) + 1 < (S.size : Int) := by omega
          by_cases hc : bt S (i + 1) = 43
          · have hc' := rd_yes hlt hc
            have hq : Hid (bt S (i + 1) = 43 ∨ bt S (i + 1) = 45) := Or.inl hc
            clear hc
            go_wp2
            go_meet
            exact ⟨Tst.yes hq, rfl⟩
          have hc' := rd_no hlt hc
          by_cases hd : bt S (i + 1) = 45
          · have hd' := rd_yes hlt hd
            have hq : Hid (bt S (i + 1) = 43 ∨ bt S (i + 1) = 45) := Or.inr hd
            clear hc hd
            go_wp2
            go_meet
            exact ⟨Tst.yes hq, rfl⟩
          · have hd' := rd_no hlt hd
            have hq : Hid (¬ (bt S (i + 1) = 43 ∨ bt S (i + 1) = 45)) := not_or.2 ⟨hc, hd⟩
            clear hc hd
            go_wp2
            go_meet
            exact ⟨Tst.no hq, rfl⟩
        · have hb : decide ((i : Int) + 1 < (S.size : Int)) = false := decide_eq_false (by omega)
          have hq : Hid (¬ (bt S (i + 1) = 43 ∨ bt S (i + 1) = 45)) := show ¬ _ by rw [bt_out hlt]; decide
          go_wp2
          go_meet
          exact ⟨Tst.no hq, rfl⟩
      obtain ⟨h108, rfl⟩ := hcut
      go_upto_if 108 with fail
      go_cut [6] from 7 (fun v wd => Stg (P4 S off) v ∧ wd = wc)
      case first =>
        rcases h108 with ⟨rfl, hc⟩ | ⟨rfl, hc⟩
        · have hlt : i + 1 < S.size := by rcases hc with hc | hc <;> exact bt_lt hc (by decide)
          have hq : Hid (bt S (i + 1) = 43 ∨ bt S (i + 1) = 45) := hc
          clear hc
          go_wp2
          go_meet
          exact ⟨⟨i + 1 + 1, by simp, p4_yes hp3 hqe hlt hq⟩, rfl⟩
        · have hq : Hid (¬ (bt S (i + 1) = 43 ∨ bt S (i + 1) = 45)) := hc
          clear hc
          go_wp2
          go_meet
          exact ⟨Stg.after (p4_no hp3 hqe hlt0 hq), rfl⟩
      clear h108 hqe hp3 hlt0 i
      obtain ⟨⟨i, rfl, hp4⟩, rfl⟩ := hcut
      have hle := hp4.1
      by_cases hlt : i < S.size
      · have i0 : (0 : Int) ≤ (i : Int) := by omega
        have i1 : (i : Int) < (S.size : Int) := by omega
        have ne : ((i : Int) == (S.size : Int)) = false := by simp; omega
        by_cases hd : dg (bt S i) = true
        · have hd' := rd_dg hlt hd
          have hqd : Hid (dg (bt S i) = true) := hd
          clear hd
          go_wp2_with (first
            | (go_at_call 12; refine (isDigit_any _ _).mono ?_; rintro e w1 ⟨rfl, hw1⟩; subst w1)
            | (go_at_call 13; refine (digits_at S i i rfl hn (by omega) _).mono ?_; rintro e w1 ⟨q, hq1, rfl, hw1⟩; subst w1))
          go_meet
          exact ⟨Stg.here (p4_digs hp4 hqd hq1), rfl⟩
        · have hd0 : dg (bt S i) = false := by simpa using hd
          have hd' := rd_dg hlt hd0
          have hqd : Hid (dg (bt S i) = false) := hd0
          clear hd hd0
          go_wp2_with (go_at_call 12; refine (isDigit_any _ _).mono ?_; rintro e w1 ⟨rfl, hw1⟩; subst w1)
          go_ret2
          exact ⟨i, false, p4_end hp4 hqd, rfl, rfl⟩
      · have eq : ((i : Int) == (S.size : Int)) = true := by simp; omega
        have hqd : Hid (dg (bt S i) = false) := dg_out hlt
        go_wp2
        go_ret2
        refine ⟨i, false, p4_end hp4 hqd, ?_, rfl⟩
        simp
    · have hq : Hid (¬ (bt S i = 101 ∨ bt S i = 69)) := hc
      clear hc
      go_wp2
      go_meet
      exact ⟨Stg.here (p3_no hp3 hq), rfl⟩
  clear h90 hp3 i
  obtain ⟨⟨i, rfl, hp5⟩, rfl⟩ := hcut
  go_wp2
  go_ret2
  exact ⟨i, true, hp5, rfl, rfl⟩

theorem zznumberEnd (S : ByteArray) (off : Nat) (hn : S.size ≤ 1048576) (w : World) :
    Calls Try.prog 6 #[.string S, .int .i64 off] w fun e w' => ∃ (r : Nat) (ok : Bool), Ends (bt S) off r ok ∧ e = .returned (.tuple #[.int .i64 r, .bool ok]) ∧ w' = w := by
  go_enter Try.func6, Try.ntmps6
  go_wp2_with (go_at_call 11; refine (numberEnd_any S off hn _).mono ?_; rintro e w1 ⟨r, ok, hr, rfl, hw1⟩; subst w1)
  go_ret2
  exact ⟨r, ok, hr, rfl, rfl⟩
end Go.Proofs.Qxb6618376a
