/-
  HOW MANY DIFFERENT NAMES: eqNames, distinctBytes, distinctStrings, strEqBytes, walked.
-/
import Derived.Test.Qxb6618255aScriptLaw
namespace Go.Proofs.Qxb6618255a
open Go.RowKit Go.Maps

/-! ### the plain count -/
/-- How many different names S has: the size of the set of them. -/
def dsz (S : List (List UInt8)) : Nat := Maps.size (setOf yes (keys S))
theorem dsz_nil : dsz [] = 0 := rfl
theorem has_keys (S : List (List UInt8)) (l : List UInt8) : Maps.has (setOf yes (keys S)) (.string l) = decide (l ∈ S) := by
  rw [has_setOf _ _ _ (keys_ok S)]
  rw [Bool.eq_iff_iff]
  simp only [List.any_eq_true, decide_eq_true_eq, keys, List.mem_map]
  constructor
  · rintro ⟨x, ⟨y, hy, rfl⟩, h⟩
    have := WideAt.sameKey_eq h
    simp at this
    rw [← this]
    exact hy
  · intro h
    exact ⟨_, ⟨l, h, rfl⟩, WideAt.sameKey_self (show WideAt.IsKeyLit (.string l) from trivial)⟩
theorem dsz_snoc (S : List (List UInt8)) (l : List UInt8) : dsz (S ++ [l]) = if l ∈ S then dsz S else dsz S + 1 := by
  unfold dsz
  rw [keys_snoc, setOf_snoc, size_put (tidy_setOf yes _ (keys_ok S)), has_keys]
  simp
theorem dsz_le (S : List (List UInt8)) : ∀ k, dsz (S.take k) ≤ k
  | 0 => by simp [dsz_nil]
  | k + 1 => by
    have ih := dsz_le S k
    by_cases h : k < S.length
    · rw [List.take_succ_eq_append_getElem h, dsz_snoc]
      split <;> omega
    · rw [List.take_of_length_le (by omega)]
      rw [List.take_of_length_le (by omega)] at ih
      omega
theorem dsz_take {S : List (List UInt8)} {k : Nat} (h : k < S.length) : dsz (S.take (k + 1)) = if nameAt S k ∈ S.take k then dsz (S.take k) else dsz (S.take k) + 1 := by
  have e : nameAt S k = S[k] := by simp [nameAt, h]
  rw [List.take_succ_eq_append_getElem h, dsz_snoc, e]

/-! ### a slice of names, to be read -/
def Rd (w : World) (v : Value) (ls : List (List UInt8)) : Prop :=
  ∃ a c, v = .slice a ls.length c ∧ (0 < ls.length → ∃ b o, a = some ⟨b, o, none⟩ ∧ ∀ i, i < ls.length → ∃ p cp, w.cell? ⟨b, o + i, none⟩ = some (.slice p (nameAt ls i).length cp) ∧ ∃ L M, NB w L M (.slice p (nameAt ls i).length cp) (nameAt ls i))
theorem NBs.rd {w : World} {M : Nat} {v : Value} {ls : List (List UInt8)} (h : NBs w M v ls) : Rd w v ls := by
  obtain ⟨a, c, e, h⟩ := h
  refine ⟨a, c, e, fun hl => ?_⟩
  obtain ⟨b, o, ea, _, h⟩ := h hl
  refine ⟨b, o, ea, fun i hi => ?_⟩
  obtain ⟨u, hu, hn⟩ := h i hi
  obtain ⟨p, cp, rfl⟩ := hn.form
  exact ⟨p, cp, hu, _, _, hn⟩
theorem Names.rd {w : World} {M : Nat} {v : Value} {ls : List (List UInt8)} (h : Names w M v ls) : Rd w v ls := by
  obtain ⟨a, c, e, _⟩ := h.form
  refine ⟨a, c, e, fun hl => ?_⟩
  obtain ⟨b, o, c', e', _, h⟩ := h.get hl
  rw [e] at e'
  simp at e'
  refine ⟨b, o, e'.1, fun i hi => ?_⟩
  obtain ⟨u, hu, hn⟩ := h i hi
  obtain ⟨p, cp, rfl⟩ := hn.form
  exact ⟨p, cp, hu, _, _, hn⟩
theorem Rd.form {w : World} {v : Value} {ls : List (List UInt8)} (h : Rd w v ls) : ∃ a c, v = .slice a ls.length c := by
  obtain ⟨a, c, e, _⟩ := h
  exact ⟨a, c, e⟩
theorem Rd.at {w : World} {a : Option Addr} {n c : Nat} {ls : List (List UInt8)} (h : Rd w (.slice a n c) ls) (hl : 0 < ls.length) :
    ∃ b o, a = some ⟨b, o, none⟩ ∧ ∀ i, i < ls.length → ∃ p cp, w.cell? ⟨b, o + i, none⟩ = some (.slice p (nameAt ls i).length cp) ∧ ∃ L M, NB w L M (.slice p (nameAt ls i).length cp) (nameAt ls i) := by
  obtain ⟨a', c', e, h⟩ := h
  simp at e
  rw [e.1]
  exact h hl
theorem Rd.drewN {w : World} {v : Value} {ls : List (List UInt8)} (h : Rd w v ls) (n : Nat) : Rd (w.drewN n) v ls := h

theorem eq_of_names {ls ks : List (List UInt8)} (hl : ls.length = ks.length) (h : ∀ i, i < ls.length → nameAt ls i = nameAt ks i) : ls = ks := by
  apply List.ext_getElem hl
  intro i h1 h2
  have e := h i h1
  simpa [nameAt, h1, h2] using e

set_option maxHeartbeats 1000000 in
/-- eqNames, where the two lists are the same. -/
theorem eqNames_yes (w : World) (v u : Value) (ls : List (List UInt8)) (hv : Rd w v ls) (hu : Rd w u ls) (hS : Short ls) (hl : ls.length ≤ 1048576) :
    Calls Try.prog 16 #[v, u] w fun e w' => e = .returned (.bool true) ∧ ∃ n, w' = w.drewN n := by
  obtain ⟨a1, c1, rfl⟩ := hv.form
  obtain ⟨a2, c2, rfl⟩ := hu.form
  go_enter Try.func16, Try.ntmps16
  go_wp2_with fail
  go_loopw [5] (fun i wr => ∃ j : Nat, j ≤ ls.length ∧ i = .int .i64 j ∧ Rd wr (.slice a1 ls.length c1) ls ∧ Rd wr (.slice a2 ls.length c2) ls ∧ ∃ q, wr = w.drewN q) (fun i _ => ls.length - (intOf i).toNat)
  case atStart => exact ⟨0, by omega, rfl, hv, hu, 0, rfl⟩
  case round =>
    obtain ⟨j, hj, rfl, hv, hu, hq⟩ := hrel
    by_cases hjn : j < ls.length
    · obtain ⟨b1, o1, rfl, h1⟩ := hv.at (by omega)
      obtain ⟨b2, o2, rfl, h2⟩ := hu.at (by omega)
      obtain ⟨p1, cp1, x1, L1, M1, y1⟩ := h1 j hjn
      obtain ⟨p2, cp2, x2, L2, M2, y2⟩ := h2 j hjn
      have i0 : (0 : Int) ≤ (j : Int) := by omega
      have i1 : (j : Int) < (ls.length : Int) := by omega
      have hly := hS j
      have hb : Hid ((nameAt ls j == nameAt ls j) = true) := show _ = _ by simp
      have Hq : Hid (∃ q, wr = w.drewN q) := hq
      clear h1 h2 hq
      go_wp2_with fail
      go_quiet ((go_at_call 18; exact Calls.quiet_of (eqBytes_is _ L1 M1 L2 M2 _ _ (nameAt ls j) (nameAt ls j) true hb (NB.drewN y1 _) (NB.drewN y2 _) hly)))
      go_wp2_with fail
      go_roundw
      case rel =>
        obtain ⟨q, hq⟩ := Hq.out
        exact ⟨j + 1, by omega, by go_num, hv, hu, _, by rw [hq, World.drewN_drewN]⟩
      case measure => simp [intOf]; omega
    · have Hq : Hid (∃ q, wr = w.drewN q) := hq
      clear hq
      go_wp2_with fail
      go_ret
      exact ⟨rfl, Hq.out⟩

set_option maxHeartbeats 2000000 in
theorem distinctBytes_any (w : World) (v : Value) (ls : List (List UInt8)) (hv : Rd w v ls) (hS : Short ls) (hl : ls.length ≤ 1048576) :
    Calls Try.prog 19 #[v] w fun e w' => e = .returned (.int .i64 (dsz ls)) ∧ ∃ n, w' = w.drewN n := by
  obtain ⟨a1, c1, rfl⟩ := hv.form
  go_enter Try.func19, Try.ntmps19
  go_wp2_with fail
  go_loopw [3, 4] (fun z i wr => ∃ j : Nat, j ≤ ls.length ∧ i = .int .i64 j ∧ z = .int .i64 (dsz (ls.take j)) ∧ Rd wr (.slice a1 ls.length c1) ls ∧ ∃ q, wr = w.drewN q) (fun _ i _ => ls.length - (intOf i).toNat)
  case atStart => exact ⟨0, by omega, rfl, rfl, hv, 0, rfl⟩
  clear hv
  case round =>
    obtain ⟨j, hj, rfl, rfl, hv, hq⟩ := hrel
    have hle := dsz_le ls j
    by_cases hjn : j < ls.length
    · have HT : Hid (dsz (ls.take (j + 1)) = if nameAt ls j ∈ ls.take j then dsz (ls.take j) else dsz (ls.take j) + 1) := dsz_take hjn
      have hmt : Hid (nameAt ls j ∈ ls.take j ↔ ∃ x, x < j ∧ nameAt ls x = nameAt ls j) := mem_take (Nat.le_of_lt hjn) _
      generalize dsz (ls.take j) = d at *
      obtain ⟨wo, rfl⟩ : ∃ wo : World, wo = wr := ⟨_, rfl⟩
      go_wp2_with fail
      go_loopw [5, 6] (fun s i wr => s = .bool false ∧ ∃ x : Nat, x ≤ j ∧ i = .int .i64 x ∧ (∀ y, y < x → nameAt ls y ≠ nameAt ls j) ∧ Rd wr (.slice a1 ls.length c1) ls ∧ ∃ q, wr = w.drewN q) (fun _ i _ => j - (intOf i).toNat)
      case atStart => exact ⟨rfl, 0, by omega, rfl, fun y h => absurd h (by omega), hv, hq⟩
      clear hv hq
      case round =>
        obtain ⟨rfl, x, hx, rfl, hno, hv, hq⟩ := hrel
        have Hq : Hid (∃ q, wr = w.drewN q) := hq
        clear hq
        by_cases hxj : x < j
        · obtain ⟨b1, o1, rfl, h1⟩ := hv.at (by omega)
          obtain ⟨p1, cp1, x1, L1, M1, y1⟩ := h1 x (by omega)
          obtain ⟨p2, cp2, x2, L2, M2, y2⟩ := h1 j hjn
          have i0 : (0 : Int) ≤ (x : Int) := by omega
          have i1 : (x : Int) < (ls.length : Int) := by omega
          have i2 : (0 : Int) ≤ (j : Int) := by omega
          have i3 : (j : Int) < (ls.length : Int) := by omega
          have hly := hS x
          clear h1
          by_cases he : nameAt ls x = nameAt ls j
          · have hb : Hid ((nameAt ls x == nameAt ls j) = true) := show _ = _ by simp [he]
            have HT2 : Hid (dsz (ls.take (j + 1)) = d) := by
              have := HT.out
              rw [if_pos (hmt.out.2 ⟨x, hxj, he⟩)] at this
              exact this
            clear he hno hmt HT
            go_wp2_with fail
            go_quiet ((go_at_call 18; exact Calls.quiet_of (eqBytes_is _ L1 M1 L2 M2 _ _ (nameAt ls x) (nameAt ls j) true hb (NB.drewN y1 _) (NB.drewN y2 _) hly)))
            go_wp2_with fail
            go_roundw
            case rel =>
              obtain ⟨q, hq⟩ := Hq.out
              exact ⟨j + 1, by omega, by go_num, by rw [HT2.out], hv, _, by rw [hq, World.drewN_drewN]⟩
            case measure => simp [intOf]; omega
          · have hb : Hid ((nameAt ls x == nameAt ls j) = false) := show _ = _ by simpa using he
            have HE : Hid (nameAt ls x ≠ nameAt ls j) := he
            clear he
            go_wp2_with fail
            go_quiet ((go_at_call 18; exact Calls.quiet_of (eqBytes_is _ L1 M1 L2 M2 _ _ (nameAt ls x) (nameAt ls j) false hb (NB.drewN y1 _) (NB.drewN y2 _) hly)))
            go_wp2_with fail
            go_roundw
            case rel =>
              obtain ⟨q, hq⟩ := Hq.out
              exact ⟨rfl, x + 1, by omega, by go_num, fun y hy => (if e : y = x then e ▸ HE.out else hno y (by omega)), hv, _, by rw [hq, World.drewN_drewN]⟩
            case measure => simp [intOf]; omega
        · have HT2 : Hid (dsz (ls.take (j + 1)) = d + 1) := by
            have := HT.out
            rw [if_neg (fun h => by obtain ⟨y, h1, h2⟩ := hmt.out.1 h; exact hno y (by omega) h2)] at this
            exact this
          clear hno hmt HT
          go_wp2_with fail
          go_roundw
          case rel => exact ⟨j + 1, by omega, by go_num, by rw [HT2.out]; go_num, hv, Hq.out⟩
          case measure => simp [intOf]; omega
    · have Hq : Hid (∃ q, wr = w.drewN q) := hq
      have HE : Hid (ls.take j = ls) := List.take_of_length_le (by omega)
      generalize hd : dsz (ls.take j) = d at *
      have HD : Hid (dsz (ls.take j) = d) := hd
      clear hq hd
      go_wp2_with fail
      go_ret
      refine ⟨?_, Hq.out⟩
      have := HD.out
      rw [HE.out] at this
      rw [this]
      rfl
end Go.Proofs.Qxb6618255a
