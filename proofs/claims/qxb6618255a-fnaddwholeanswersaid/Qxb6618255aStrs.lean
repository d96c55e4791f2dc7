/-
  A SLICE OF STRINGS, TO BE READ; strEqBytes, distinctStrings, walked.
-/
import Derived.Test.Qxb6618255aCount
namespace Go.Proofs.Qxb6618255a
open Go.RowKit Go.Maps

/-- THE VALUE v IS A SLICE OF THE STRINGS ss, below block M. -/
def Strs (w : World) (M : Nat) (v : Value) (ss : List (List UInt8)) : Prop :=
  ∃ a c, v = .slice a ss.length c ∧ (0 < ss.length → ∃ b o, a = some ⟨b, o, none⟩ ∧ b < M ∧ ∀ i, i < ss.length → w.cell? ⟨b, o + i, none⟩ = some (.string (strOf (nameAt ss i))))
theorem Strs.below {w w' : World} {M : Nat} {v : Value} {ss : List (List UInt8)} (h : Strs w M v ss) (hb : Below M w w') : Strs w' M v ss := by
  obtain ⟨a, c, e, h⟩ := h
  refine ⟨a, c, e, fun hl => ?_⟩
  obtain ⟨b, o, ea, hM, h⟩ := h hl
  exact ⟨b, o, ea, hM, fun i hi => (hb.cell (p := ⟨b, o + i, none⟩) hM).trans (h i hi)⟩
theorem Strs.form {w : World} {M : Nat} {v : Value} {ss : List (List UInt8)} (h : Strs w M v ss) : ∃ a c, v = .slice a ss.length c := by
  obtain ⟨a, c, e, _⟩ := h
  exact ⟨a, c, e⟩
theorem Strs.at {w : World} {M : Nat} {a : Option Addr} {n c : Nat} {ss : List (List UInt8)} (h : Strs w M (.slice a n c) ss) (hl : 0 < ss.length) :
    ∃ b o, a = some ⟨b, o, none⟩ ∧ ∀ i, i < ss.length → w.cell? ⟨b, o + i, none⟩ = some (.string (strOf (nameAt ss i))) := by
  obtain ⟨a', c', e, h⟩ := h
  simp at e
  rw [e.1]
  obtain ⟨b, o, ea, _, h⟩ := h hl
  exact ⟨b, o, ea, h⟩

set_option maxHeartbeats 1000000 in
theorem strEqBytes_any (w : World) (L M : Nat) (u : Value) (l k : List UInt8) (hu : NB w L M u k) (hL : k.length ≤ 1048576) :
    Calls Try.prog 15 #[.string (strOf l), u] w fun e w' => e = .returned (.bool (l == k)) ∧ ∃ n, w' = w.drewN n := by
  obtain ⟨q, c2, rfl, hu⟩ := hu
  have hsz := strOf_size l
  by_cases hlen : l.length = k.length
  · have ne : (((strOf l).size : Int) != (k.length : Int)) = false := by rw [hsz]; simp; omega
    have Hlen : Hid (l.length = k.length) := hlen
    have Hsz : Hid ((strOf l).size = l.length) := hsz
    have hs1 : (strOf l).size ≤ k.length := by omega
    have hs2 : k.length ≤ (strOf l).size := by omega
    have hbyte : ∀ j (h : j < (strOf l).size), (((strOf l)[j]'h).toNat : Int) = byteAt l j := by
      intro j h
      rw [hsz] at h
      simp [strOf, byteAt, h]
      rfl
    have HB : Hid (∀ j (h : j < (strOf l).size), (((strOf l)[j]'h).toNat : Int) = byteAt l j) := hbyte
    clear hsz hlen hbyte
    generalize hS : strOf l = S at *
    generalize hm : k.length = m at *
    have Hm : Hid (k.length = m) := hm
    clear hS hm
    by_cases h0 : 0 < m
    · obtain ⟨b2, o2, rfl, _, _, hu2⟩ := hu h0
      clear hu
      go_enter Try.func15, Try.ntmps15
      go_wp2_with fail
      go_loopw [5] (fun i wr => ∃ j nq : Nat, j ≤ m ∧ (∀ x, x < j → byteAt l x = byteAt k x) ∧ i = .int .i64 j ∧ wr = w.drewN nq) (fun i _ => m - (intOf i).toNat)
      case atStart => exact ⟨0, 0, by omega, fun x h => absurd h (by omega), rfl, rfl⟩
      case round =>
        obtain ⟨j, nq, hj, hx, rfl, rfl⟩ := hrel
        by_cases hjn : j < m
        · have d2 := hu2 j (by omega)
          have hjs : j < S.size := by omega
          have i0 : (0 : Int) ≤ (j : Int) := by omega
          have i1 : (j : Int) < (m : Int) := by omega
          have i2 : (j : Int) < (S.size : Int) := by omega
          clear hu2
          by_cases he : byteAt l j = byteAt k j
          · have he' : (((S[j]'hjs).toNat : Int) != byteAt k j) = false := by rw [HB.out j hjs]; simp [he]
            have HE : Hid (byteAt l j = byteAt k j) := he
            clear he
            go_wp2_with fail
            go_quiet (fail)
            go_wp2_with fail
            go_roundw
            case rel => exact ⟨j + 1, _, by omega, fun x hx' => (if e : x = j then e ▸ HE.out else hx x (by omega)), by go_num, rfl⟩
            case measure => simp [intOf]; omega
          · have he' : (((S[j]'hjs).toNat : Int) != byteAt k j) = true := by rw [HB.out j hjs]; simp [he]
            have hfin := beq_of_byte he
            clear he
            go_wp2_with fail
            go_quiet (fail)
            go_wp2_with fail
            go_ret
            exact ⟨by rw [hfin]; rfl, _, by simp only [World.drewN_drewN]; rfl⟩
        · have hfin : (l == k) = true := by
            rw [eq_of_byteAt (by rw [Hm.out, Hlen.out]) (fun i hi => hx i (by rw [Hlen.out] at hi; omega))]
            simp
          go_wp2_with fail
          go_ret
          exact ⟨by rw [hfin]; rfl, _, rfl⟩
    · have hfin : (l == k) = true := by
        have h1 := Hlen.out
        have h2 := Hm.out
        rw [List.eq_nil_of_length_eq_zero (show l.length = 0 by omega), List.eq_nil_of_length_eq_zero (show k.length = 0 by omega)]
        rfl
      obtain rfl : m = 0 := by omega
      clear hu
      go_enter Try.func15, Try.ntmps15
      go_wp2_with fail
      refine wp_loop_rounds 1 ?_
      rw [rounds_succ]
      go_wp2_with fail
      go_ret
      exact ⟨by rw [hfin]; rfl, 0, rfl⟩
  · have ne : (((strOf l).size : Int) != (k.length : Int)) = true := by rw [hsz]; simp; omega
    have hfin := beq_of_lens hlen
    clear hu hlen hsz
    go_enter Try.func15, Try.ntmps15
    go_wp2_with fail
    go_ret
    exact ⟨by rw [hfin]; rfl, 0, rfl⟩

theorem strOf_inj {l k : List UInt8} (h : strOf l = strOf k) : l = k := by
  have := congrArg (fun s => s.data.toList) h
  simpa [strOf] using this

set_option maxHeartbeats 2000000 in
theorem distinctStrings_any (w : World) (M : Nat) (v : Value) (ls : List (List UInt8)) (hv : Strs w M v ls) (hl : ls.length ≤ 1048576) :
    Calls Try.prog 17 #[v] w fun e w' => e = .returned (.int .i64 (dsz ls)) ∧ ∃ n, w' = w.drewN n := by
  obtain ⟨a1, c1, rfl⟩ := hv.form
  go_enter Try.func17, Try.ntmps17
  go_wp2_with fail
  go_loopw [3, 4] (fun z i wr => ∃ j : Nat, j ≤ ls.length ∧ i = .int .i64 j ∧ z = .int .i64 (dsz (ls.take j)) ∧ Strs wr M (.slice a1 ls.length c1) ls ∧ ∃ q, wr = w.drewN q) (fun _ i _ => ls.length - (intOf i).toNat)
  case atStart => exact ⟨0, by omega, rfl, rfl, hv, 0, rfl⟩
  clear hv
  case round =>
    obtain ⟨j, hj, rfl, rfl, hv, hq⟩ := hrel
    have hle := dsz_le ls j
    by_cases hjn : j < ls.length
    · have HT : Hid (dsz (ls.take (j + 1)) = if nameAt ls j ∈ ls.take j then dsz (ls.take j) else dsz (ls.take j) + 1) := dsz_take hjn
      have hmt : Hid (nameAt ls j ∈ ls.take j ↔ ∃ x, x < j ∧ nameAt ls x = nameAt ls j) := mem_take (Nat.le_of_lt hjn) _
      generalize dsz (ls.take j) = d at *
      obtain ⟨wo, rfl⟩ : ∃ wo : World, wo = wr := ⟨_, rfl⟩
      go_wp2_with fail
      go_loopw [5, 6] (fun s i wr => s = .bool false ∧ ∃ x : Nat, x ≤ j ∧ i = .int .i64 x ∧ (∀ y, y < x → nameAt ls y ≠ nameAt ls j) ∧ Strs wr M (.slice a1 ls.length c1) ls ∧ ∃ q, wr = w.drewN q) (fun _ i _ => j - (intOf i).toNat)
      case atStart => exact ⟨rfl, 0, by omega, rfl, fun y h => absurd h (by omega), hv, hq⟩
      clear hv hq
      case round =>
        obtain ⟨rfl, x, hx, rfl, hno, hv, hq⟩ := hrel
        have Hq : Hid (∃ q, wr = w.drewN q) := hq
        clear hq
        by_cases hxj : x < j
        · obtain ⟨b1, o1, rfl, h1⟩ := hv.at (by omega)
          have x1 := h1 x (by omega)
          have x2 := h1 j hjn
          have i0 : (0 : Int) ≤ (x : Int) := by omega
          have i1 : (x : Int) < (ls.length : Int) := by omega
          have i2 : (0 : Int) ≤ (j : Int) := by omega
          have i3 : (j : Int) < (ls.length : Int) := by omega
          clear h1
          by_cases he : nameAt ls x = nameAt ls j
          · have hb : ((strOf (nameAt ls x)).toList == (strOf (nameAt ls j)).toList) = true := by simp [he]
            have HT2 : Hid (dsz (ls.take (j + 1)) = d) := by
              have := HT.out
              rw [if_pos (hmt.out.2 ⟨x, hxj, he⟩)] at this
              exact this
            clear he hno hmt HT
            generalize strOf (nameAt ls x) = S1 at *
            generalize strOf (nameAt ls j) = S2 at *
            go_wp2_with fail
            go_quiet (fail)
            go_wp2_with fail
            go_roundw
            case rel =>
              obtain ⟨q, hq⟩ := Hq.out
              exact ⟨j + 1, by omega, by go_num, by rw [HT2.out], hv, _, by rw [hq, World.drewN_drewN]⟩
            case measure => simp [intOf]; omega
          · have hb : ((strOf (nameAt ls x)).toList == (strOf (nameAt ls j)).toList) = false := by simp [ByteArray.toList_eq, strOf, he]
            have HE : Hid (nameAt ls x ≠ nameAt ls j) := he
            clear he
            go_wp2_with fail
            go_quiet (fail)
            go_wp2_with fail
            go_roundw
            case rel =>
              obtain ⟨q, hq⟩ := Hq.out
              exact ⟨rfl, x + 1, by omega, by go_num, fun y hy => (if e : y = x then e ▸ HE.out else hno y (by omega)), hv, _, by rw [hq, World.drewN_drewN]⟩
            case measure => simp [intOf]; omega
        · have HT2 : Hid (dsz (ls.take (j + 1)) = d + 1) := by
            have := HT.out
            rw [if_neg (fun h => by obtain ⟨y, h1, h2⟩ := hmt.out.1 h; exact hno y (by omega) h2)] at this
            exact this
          clear hno hmt HT
          go_wp2_with fail
          go_roundw
          case rel => exact ⟨j + 1, by omega, by go_num, by rw [HT2.out]; go_num, hv, Hq.out⟩
          case measure => simp [intOf]; omega
    · have Hq : Hid (∃ q, wr = w.drewN q) := hq
      have HE : Hid (ls.take j = ls) := List.take_of_length_le (by omega)
      generalize hd : dsz (ls.take j) = d at *
      have HD : Hid (dsz (ls.take j) = d) := hd
      clear hq hd
      go_wp2_with fail
      go_ret
      refine ⟨?_, Hq.out⟩
      have := HD.out
      rw [HE.out] at this
      rw [this]
      rfl
end Go.Proofs.Qxb6618255a
