/-
  FnAddWholeAnswer: the law's own walk.
-/
import Derived.Test.Qxb6618255aBytes11
namespace Go.Proofs.Qxb6618255a
open Go.RowKit Go.Maps

/-- WHAT IS KNOWN OF MEMORY BEHIND THE add: the arguments read as they did, the set is S, the names are ls'. -/
structure WSt (w : World) (M mb : Nat) (v1 v2 v3 nv : Value) (ss ls : List (List UInt8)) (l : List UInt8) (S ls' : List (List UInt8)) (wx : World) : Prop where
  st : Strs wx w.heap.size v1 ss
  ns : NBs wx w.heap.size v2 ls
  nm : NB wx 0 w.heap.size v3 l
  s : SetIs wx mb S
  nn : Names wx M nv ls'
  b : Below w.heap.size w wx
theorem WSt.drewN {w wx : World} {M mb : Nat} {v1 v2 v3 nv : Value} {ss ls : List (List UInt8)} {l : List UInt8} {S ls' : List (List UInt8)} (h : WSt w M mb v1 v2 v3 nv ss ls l S ls' wx) (n : Nat) : WSt w M mb v1 v2 v3 nv ss ls l S ls' (wx.drewN n) :=
  ⟨h.st, h.ns, h.nm, h.s, h.nn, below_drewN h.b n⟩
theorem nameAt_drop (ls : List (List UInt8)) (f i : Nat) : nameAt (ls.drop f) i = nameAt ls (f + i) := by simp [nameAt]
/-- names[f:], to be read. -/
theorem rd_drop {w : World} {b o n c c' f : Nat} {ls : List (List UInt8)} (h : Rd w (.slice (some ⟨b, o, none⟩) n c) ls) (hl : 0 < ls.length) {d : Nat} (hd : d = ls.length - f) : Rd w (.slice (some ⟨b, o + f, none⟩) d c') (ls.drop f) := by
  obtain ⟨b', o', e, h⟩ := h.at hl
  simp at e
  obtain ⟨rfl, rfl⟩ := e
  refine ⟨_, _, by rw [hd, List.length_drop], fun _ => ⟨b, o + f, rfl, fun i hi => ?_⟩⟩
  rw [List.length_drop] at hi
  obtain ⟨p, cp, hu, L, M, hn⟩ := h (f + i) (by omega)
  rw [nameAt_drop]
  exact ⟨p, cp, by rw [← hu, Nat.add_assoc], L, M, hn⟩
theorem short_drop {ls : List (List UInt8)} (h : Short ls) (f : Nat) : Short (ls.drop f) := fun i => by rw [nameAt_drop]; exact h _

/-- .. where no set is told. -/
structure USt (w : World) (M : Nat) (v2 v3 nv : Value) (ls : List (List UInt8)) (l : List UInt8) (ls' : List (List UInt8)) (mo : Option Nat) (f : Nat) (wx : World) : Prop where
  ns : NBs wx w.heap.size v2 ls
  nm : NB wx 0 w.heap.size v3 l
  nn : Names wx M nv ls'
  a : AfterSet wx M f ls' mo
  b : Below w.heap.size w wx
theorem USt.drewN {w wx : World} {M : Nat} {v2 v3 nv : Value} {ls : List (List UInt8)} {l : List UInt8} {ls' : List (List UInt8)} {mo : Option Nat} {f : Nat} (h : USt w M v2 v3 nv ls l ls' mo f wx) (n : Nat) : USt w M v2 v3 nv ls l ls' mo f (wx.drewN n) :=
  ⟨h.ns, h.nm, h.nn, h.a, below_drewN h.b n⟩
/-- The same, the add having found the name. -/
structure VSt (w : World) (M : Nat) (v2 v3 nv : Value) (ls : List (List UInt8)) (l : List UInt8) (wx : World) : Prop where
  ns : NBs wx w.heap.size v2 ls
  nm : NB wx 0 w.heap.size v3 l
  nn : Names wx M nv ls
  b : Below w.heap.size w wx
theorem VSt.drewN {w wx : World} {M : Nat} {v2 v3 nv : Value} {ls : List (List UInt8)} {l : List UInt8} (h : VSt w M v2 v3 nv ls l wx) (n : Nat) : VSt w M v2 v3 nv ls l (wx.drewN n) :=
  ⟨h.ns, h.nm, h.nn, below_drewN h.b n⟩
theorem strEqBytes_is (w : World) (L M : Nat) (u : Value) (l k : List UInt8) (b : Bool) (hb : Hid ((l == k) = b)) (hu : NB w L M u k) (hL : k.length ≤ 1048576) :
    Calls Try.prog 15 #[.string (strOf l), u] w fun e w' => e = .returned (.bool b) ∧ ∃ n, w' = w.drewN n := by
  have h := strEqBytes_any w L M u l k hu hL
  rw [hb.out] at h
  exact h

set_option maxRecDepth 100000 in
set_option maxHeartbeats 8000000 in
theorem whole_law (w : World) (fr : Int) (v1 v2 v3 : Value) (ss ls : List (List UInt8)) (l : List UInt8) (h1 : Strs w w.heap.size v1 ss) (h2 : NBs w w.heap.size v2 ls) (h3 : NB w 0 w.heap.size v3 l) (hcap : ∀ a n c, v2 = .slice a n c → n ≤ c) :
    Calls Try.prog 5 #[.int .i64 fr, v1, v2, v3] w fun e w' => e = .returned (.bool true) ∧ Below w.heap.size w w' := by
  obtain ⟨a1, c1, rfl⟩ := h1.form
  obtain ⟨a2, c2, rfl⟩ := h2.form
  obtain ⟨a3, c3, rfl⟩ := h3.form
  have hc2 := hcap _ _ _ rfl
  clear hcap
  have hnil := fun (w : World) => run_neq_slice_nil_any (P := Try.prog) w 28 9 a1 ss.length c1 0 0 Try.underlying28
  cases hA : a1.isNone
  all_goals
    go_enter Try.func5, Try.ntmps5
    go_wp2_with fail
    refine (bytes11_any w w.heap.size fr _ _ _ ss ls l h1 h2 h3).mono ?_
    rintro e w1 ⟨b, rfl, hw1, hb⟩
    subst w1
    cases b
    · clear hb
      go_wp2
      go_ret
      exact ⟨rfl, Below.refl _ _⟩
    obtain ⟨hl1, hl2, hl3, hS1, hS2⟩ := hb rfl
    clear hb
    have b0 : decide ((1048576 : Int) < (l.length : Int)) = false := decide_eq_false (by omega)
    go_wp2_with fail
    go_loop [9, 10] (fun z i => ∃ (t s : Nat), t ≤ ls.length ∧ s ≤ 1048576 ∧ z = .int .i64 s ∧ i = .int .i64 t) (fun _ i => ls.length - (intOf i).toNat)
    case atStart => exact ⟨0, l.length, by omega, by omega, rfl, rfl⟩
    obtain ⟨t, s, ht, hs, rfl, rfl⟩ := hrel
    by_cases htn : t < ls.length
    · obtain ⟨b, o, rfl, hb, p, cp, hu, _⟩ := h2.at t htn
      have hm := hS2 t
      generalize (nameAt ls t).length = m at *
      by_cases hm2 : 1048576 < s + (24 + m)
      · go_wp2
        go_ret
        exact ⟨rfl, Below.refl _ _⟩
      · go_wp2
        go_round
        case rel => exact ⟨t + 1, s + (24 + m), by omega, by omega, by go_num, by go_num⟩
        case measure => simp [intOf]; omega
    go_wp2_with fail
    go_loop [9, 11] (fun z i => ∃ (t s : Nat), t ≤ ss.length ∧ s ≤ 1048576 ∧ z = .int .i64 s ∧ i = .int .i64 t) (fun _ i => ss.length - (intOf i).toNat)
    case atStart => exact ⟨0, s, by omega, by omega, rfl, rfl⟩
    clear ht hs
    obtain ⟨t', s', ht, hs, rfl, rfl⟩ := hrel
    by_cases htn' : t' < ss.length
    · obtain ⟨b, o, rfl, hu0⟩ := h1.at (by omega)
      have hu := hu0 t' htn'
      have hm := hS1 t'
      rw [← strOf_size] at hm
      generalize strOf (nameAt ss t') = S at *
      clear hu0 hA hnil
      by_cases hm2 : 1048576 < s' + (16 + S.size)
      · go_wp2
        go_ret
        exact ⟨rfl, Below.refl _ _⟩
      · go_wp2
        go_round
        case rel => exact ⟨t' + 1, s' + (16 + S.size), by omega, by omega, by go_num, by go_num⟩
        case measure => simp [intOf]; omega
    by_cases hs4 : 4096 < ss.length
    · go_wp2
      go_ret
      exact ⟨rfl, Below.refl _ _⟩
    by_cases hl4 : 4096 < ls.length
    · go_wp2
      go_ret
      exact ⟨rfl, Below.refl _ _⟩
    have b1 : decide ((4096 : Int) < (ss.length : Int)) = false := decide_eq_false (by omega)
    have b2 : decide ((4096 : Int) < (ls.length : Int)) = false := decide_eq_false (by omega)
    by_cases hf0 : fr < 0
    · go_wp2
      go_ret
      exact ⟨rfl, Below.refl _ _⟩
    by_cases hf1 : (ls.length : Int) < fr
    · go_wp2
      go_ret
      exact ⟨rfl, Below.refl _ _⟩
    obtain ⟨f, rfl⟩ := Int.eq_ofNat_of_zero_le (show 0 ≤ fr by omega)
    have hf : f ≤ ls.length := by omega
    have b3 : decide ((f : Int) < 0) = false := decide_eq_false (by omega)
    have b4 : decide (ls.length < f) = false := decide_eq_false (by omega)
    go_wp2_with fail
    refine (cloneNames_any w w.heap.size _ ls h2 (Nat.le_refl _) hl2 hS2).mono ?_
    rintro e w2 ⟨nv, rfl, hF1, hB2⟩
    go_wp2_with fail
    refine (cloneBytes_any w2 0 w.heap.size _ l (h3.below hB2) hB2.size hl3).mono ?_
    rintro e w3 ⟨u, rfl, hu3, hB3⟩
    have hB03 : Below w.heap.size w w3 := belowChain hB2 (Nat.le_refl _) hB3
    have hF : Full w3 w3.heap.size nv ls := (hF1.below hB3).mono hB3.size
    have hu4 : NB w3 0 w3.heap.size u l := hu3.mono (Nat.zero_le _) (Nat.le_refl _)
    obtain ⟨na, rfl⟩ := hF.form
    obtain ⟨ua, uc, rfl⟩ := hu4.form
    have HM : Hid (w.heap.size ≤ w3.heap.size) := hB03.size
    clear hF1 hu3 hB2 hB3 b0 b1 b2 b3 b4 hf0 hf1 ht hs htn htn'
  · have hmm := @run_makeMap Try.prog
    have hS0 := SetIs.made w3
    have hBm0 := (Below.refl w3.heap.size w3).alloc (Nat.le_refl _) (.map #[] 0)
    generalize hMe : w3.heap.size = M at *
    have HM3 : Hid (M ≤ w3.heap.size) := Nat.le_of_eq hMe.symm
    go_wp2_with fail
    clear hmm hMe
    go_loopw [15] (fun i wr => ∃ k : Nat, k ≤ ss.length ∧ i = .int .i64 k ∧ SetIs wr M (ss.take k) ∧ Below M w3 wr) (fun i _ => ss.length - (intOf i).toNat)
    case atStart => exact ⟨0, by omega, rfl, hS0, hBm0⟩
    clear hS0 hBm0
    obtain ⟨k, hk, rfl, hSet, hBl⟩ := hrel
    by_cases hkn : k < ss.length
    · have h1r := h1.below (hB03.trans (hBl.mono HM.out))
      obtain ⟨b, o, rfl, hu0⟩ := h1r.at (by omega)
      have hu := hu0 k hkn
      obtain ⟨w5, hput, hS', hgr⟩ := hSet.put (l := nameAt ss k) (by have := hS1 k; unfold maxLen; omega) (by simp; unfold maxLen; omega)
      have hSet' : SetIs w5 M (ss.take (k + 1)) := by
        have e : nameAt ss k = ss[k] := by simp [nameAt, hkn]
        rw [List.take_succ_eq_append_getElem hkn, ← e]
        exact hS'
      have hBl' := hBl.trans (below_map hgr (Nat.le_refl _) hSet.lt)
      clear hu0 hS' hgr hSet hBl h1r
      go_wp2_with fail
      go_roundw
      case rel => exact ⟨k + 1, by omega, by go_num, hSet', hBl'⟩
      case measure => simp [intOf]; omega
    go_wp2_with fail
    rw [List.take_of_length_le (by omega)] at hSet
    refine (zzadd_set wr M M f ss _ _ ls l (.inl (hF.below hBl)) (hu4.below hBl) hl3 hSet (by omega) (Nat.le_refl _)).mono ?_
    rintro e w4 ⟨he, hS4, hN4, hB4⟩
    obtain ⟨given, hgv⟩ : ∃ b, b = ss.contains l := ⟨_, rfl⟩
    rw [← hgv] at he
    subst he
    have HG : Hid (given = true ↔ l ∈ ss) := by rw [hgv]; exact show _ ↔ _ by simp
    have hBA : Below w.heap.size w w4 := (hB03.trans (hBl.mono HM.out)).trans (hB4.mono HM.out)
    have hst : WSt w M M (.slice a1 ss.length c1) (.slice a2 ls.length c2) (.slice a3 l.length c3) (.slice na ls.length ls.length) ss ls l (ss ++ [l]) ls w4 := ⟨h1.below hBA, h2.below hBA, h3.below hBA, hS4, hN4, hBA⟩
    have HD : Hid (dsz (ss ++ [l]) = if l ∈ ss then dsz ss else dsz ss + 1) := dsz_snoc ss l
    have HC : Hid (∀ x, x < ss.length → nameAt ss x ∈ ss) := fun x hx => by
      have := (mem_take (Nat.le_refl ss.length) (nameAt ss x)).2 ⟨x, hx, rfl⟩
      rwa [List.take_length] at this
    have HC2 : Hid (l ∈ ss → ∃ x, x < ss.length ∧ nameAt ss x = l) := fun h => (mem_take (Nat.le_refl ss.length) l).1 (by rw [List.take_length]; exact h)
    clear hgv hSet hBl hS4 hN4 hB4 hBA hF hu4 hB03 h1 h2 h3 HM3
    obtain ⟨wo, rfl⟩ : ∃ wo : World, wo = wr := ⟨_, rfl⟩
    go_wp2_with fail
    go_loopw [19, 20] (fun wv j wx => wv = .bool false ∧ ∃ y : Nat, y ≤ ss.length ∧ j = .int .i64 y ∧ WSt w M M (.slice a1 ss.length c1) (.slice a2 ls.length c2) (.slice a3 l.length c3) (.slice na ls.length ls.length) ss ls l (ss ++ [l]) ls wx ∧ ∀ x, x < y → nameAt ss x ≠ l) (fun _ j _ => ss.length - (intOf j).toNat)
    case atStart => exact ⟨rfl, 0, by omega, rfl, hst, fun x h => absurd h (by omega)⟩
    clear hst
    obtain ⟨rfl, y, hy, rfl, hst, hx⟩ := hrel
    have hds : dsz ss ≤ ss.length := by have := dsz_le ss ss.length; rwa [List.take_length] at this
    generalize hd1 : dsz ss = d1 at *
    have Hd1 : Hid (dsz ss = d1) := hd1
    clear hd1
    by_cases hyn : y < ss.length
    focus
      obtain ⟨b, o, rfl, hu0⟩ := hst.st.at (by omega)
      have hu := hu0 y hyn
      by_cases he : ¬ nameAt ss y = l
      · have hb : Hid ((nameAt ss y == l) = false) := show _ = _ by simpa using he
        have HE : Hid (nameAt ss y ≠ l) := he
        clear he hu0
        go_wp2_with fail
        refine (strEqBytes_is _ _ _ _ _ _ false hb hst.nm hl3).mono ?_
        rintro e w5 ⟨rfl, q, rfl⟩
        go_wp2_with fail
        go_roundw
        case rel => exact ⟨rfl, y + 1, by omega, by go_num, hst.drewN _, fun x hx' => (if e : x = y then e ▸ HE.out else hx x (by omega))⟩
        case measure => simp [intOf]; omega
      have he' : nameAt ss y = l := Classical.not_not.1 he
      have hb : Hid ((nameAt ss y == l) = true) := show _ = _ by simp [he']
      have hin : l ∈ ss := he' ▸ HC.out y hyn
      have hgt : given = true := HG.out.2 hin
      have HD2 : Hid (dsz (ss ++ [l]) = d1) := by have := HD.out; rw [if_pos hin] at this; exact this
      clear he he' hu0 hx hin HD HG HC2
      subst hgt
      go_wp2_with fail
      refine (strEqBytes_is _ _ _ _ _ _ true hb hst.nm hl3).mono ?_
      rintro e w5 ⟨rfl, q, rfl⟩
      have hst5 := hst.drewN q
      clear hst hu
      generalize wr.drewN q = wy at *
      go_wp2_with fail
      have hEq : ((dsz (ss ++ [l]) : Int) == (d1 : Int)) = true := by rw [HD2.out]; simp
    rotate_left
    focus
      have hnin : ¬ l ∈ ss := fun h => by
        obtain ⟨x, h1, h2⟩ := HC2.out h
        exact hx x (by omega) h2
      have hgf : given = false := by
        cases hg : given with
        | false => rfl
        | true => exact absurd (HG.out.1 hg) hnin
      have HD2 : Hid (dsz (ss ++ [l]) = d1 + 1) := by have := HD.out; rw [if_neg hnin] at this; exact this
      clear hx hnin HD HG HC2
      subst hgf
      have hst5 := hst
      clear hst
      obtain ⟨wy, rfl⟩ : ∃ wo : World, wo = wr := ⟨_, rfl⟩
      go_wp2_with fail
      have hEq : ((dsz (ss ++ [l]) : Int) == (d1 : Int) + 1) = true := by rw [HD2.out]; simp
    all_goals
      refine (eqNames_yes _ _ _ ls hst5.nn.rd hst5.ns.rd hS2 hl2).mono ?_
      rintro e w6 ⟨rfl, q6, rfl⟩
      have hst6 := hst5.drewN q6
      clear hst5
      generalize wy.drewN q6 = wz at *
      have hmn := fun (w : World) (r : Option Nat) => run_eql_map_nil (P := Try.prog) w 33 9 4 r Try.underlying33
      have hcv := hst6.nm.convert
      have hlk : (Instr.lookup 33 (.map (some M)) (.string (strOf l)) false).run Try.prog wz = .ok (.bool true) wz := by
        have h := hst6.s.look (l := l) (by unfold maxLen; omega)
        rw [show (ss ++ [l]).contains l = true by simp] at h
        exact h
      go_wp2_with fail
      clear hmn hcv hlk hnil
      go_loop [21] (fun i => ∃ x : Nat, x ≤ ss.length ∧ i = .int .i64 x) (fun i => ss.length - (intOf i).toNat)
      case atStart => exact ⟨0, by omega, rfl⟩
      obtain ⟨x, hx, rfl⟩ := hrel
      by_cases hxn : x < ss.length
      · obtain ⟨b5, o5, e5, hu5⟩ := hst6.st.at (by omega)
        first | subst e5 | (simp at e5; obtain ⟨rfl, rfl⟩ := e5)
        have hu := hu5 x hxn
        have hlk : (Instr.lookup 33 (.map (some M)) (.string (strOf (nameAt ss x))) false).run Try.prog wz = .ok (.bool true) wz := by
          have h := hst6.s.look (l := nameAt ss x) (by have := hS1 x; unfold maxLen; omega)
          rw [show (ss ++ [l]).contains (nameAt ss x) = true by have := HC.out x hxn; simp [this]] at h
          exact h
        clear hu5
        go_wp2_with fail
        go_round
        case rel => exact ⟨x + 1, by omega, by go_num⟩
        case measure => simp [intOf]; omega
      go_wp2_with fail
      refine (distinctStrings_any _ _ _ ss hst6.st hl1).mono ?_
      rintro e w7 ⟨he7, q7, rfl⟩
      rw [Hd1.out] at he7
      subst he7
      have hst7 := hst6.drewN q7
      clear hst6
      generalize wz.drewN q7 = wt at *
      have hln := World.ownsMap.len hst7.s Try.underlying33 3
      change (Builtin.len_ #[33] 3 #[.map (some M)]).run Try.prog wt = .ok (.int .i64 (dsz (ss ++ [l]))) wt at hln
      generalize dsz (ss ++ [l]) = d2 at *
      have hBf := hst7.b
      clear hst7 HD2
      go_wp2
      go_ret
      exact ⟨by simp, hBf⟩
  · generalize hMe : w3.heap.size = M at *
    have HM3 : Hid (M ≤ w3.heap.size) := Nat.le_of_eq hMe.symm
    clear hMe
    go_wp2_with fail
    refine (zzadd_list w3 M f _ _ ls l HM3.out (.inl hF) (by omega) hf hu4 hl3 hS2).mono ?_
    rintro e w4 (⟨rfl, hj, hN4, hB4⟩ | ⟨nv', mo, rfl, hno, hO, hA4, hB4⟩)
    · have hBA : Below w.heap.size w w4 := hB03.trans (hB4.mono HM.out)
      have hst : VSt w M (.slice a2 ls.length c2) (.slice a3 l.length c3) (.slice na ls.length ls.length) ls l w4 := ⟨h2.below hBA, h3.below hBA, hN4, hBA⟩
      have HJ : Hid (∃ j, f ≤ j ∧ j < ls.length ∧ nameAt ls j = l) := hj
      clear hj hN4 hB4 hBA hF hu4 hB03 h1 h2 h3 HM3
      go_wp2_with fail
      go_loopw [23, 24] (fun fv j wx => fv = .bool false ∧ ∃ y : Nat, f ≤ y ∧ y ≤ ls.length ∧ j = .int .i64 y ∧ VSt w M (.slice a2 ls.length c2) (.slice a3 l.length c3) (.slice na ls.length ls.length) ls l wx ∧ ∀ x, f ≤ x → x < y → nameAt ls x ≠ l) (fun _ j _ => ls.length - (intOf j).toNat)
      case atStart => exact ⟨rfl, f, by omega, by omega, rfl, hst, fun x h1 h2 => absurd h1 (by omega)⟩
      clear hst
      obtain ⟨rfl, y, hfy, hy, rfl, hst, hx⟩ := hrel
      by_cases hyn : y < ls.length
      · obtain ⟨b, o, rfl, _, p, cp, hu, hn⟩ := hst.ns.at y hyn
        have hly := hS2 y
        by_cases he : nameAt ls y = l
        · have hb : Hid ((nameAt ls y == l) = true) := show _ = _ by simp [he]
          clear he hx HJ
          go_wp2_with fail
          refine (eqBytes_is _ _ _ _ _ _ _ _ _ true hb hn hst.nm hly).mono ?_
          rintro e w5 ⟨rfl, q, rfl⟩
          have hst5 := hst.drewN q
          clear hst hu hn
          generalize wr.drewN q = wy at *
          have hmn := fun (w : World) (r : Option Nat) => run_eql_map_nil (P := Try.prog) w 33 9 4 r Try.underlying33
          go_wp2_with fail
          refine (eqNames_yes _ _ _ ls hst5.nn.rd hst5.ns.rd hS2 hl2).mono ?_
          rintro e w6 ⟨rfl, q6, rfl⟩
          have hBf := hst5.b
          clear hst5
          go_wp2
          go_ret
          exact ⟨by simp, below_drewN hBf _⟩
        · have hb : Hid ((nameAt ls y == l) = false) := show _ = _ by simpa using he
          have HE : Hid (nameAt ls y ≠ l) := he
          clear he
          go_wp2_with fail
          refine (eqBytes_is _ _ _ _ _ _ _ _ _ false hb hn hst.nm hly).mono ?_
          rintro e w5 ⟨rfl, q, rfl⟩
          go_wp2_with fail
          go_roundw
          case rel => exact ⟨rfl, y + 1, by omega, by omega, by go_num, hst.drewN _, fun x hx1 hx2 => (if e : x = y then e ▸ HE.out else hx x hx1 (by omega))⟩
          case measure => simp [intOf]; omega
      · obtain ⟨j, h1, h2, h3⟩ := HJ.out
        exact absurd h3 (hx j h1 (by omega))
    · have hBA : Below w.heap.size w w4 := hB03.trans (hB4.mono HM.out)
      obtain ⟨a5, c5, hnv, _⟩ := Names.form (.inr hO)
      rw [List.length_append, List.length_singleton] at hnv
      subst hnv
      have hst : USt w M (.slice a2 ls.length c2) (.slice a3 l.length c3) (.slice a5 (ls.length + 1) c5) ls l (ls ++ [l]) mo f w4 := ⟨h2.below hBA, h3.below hBA, .inr hO, hA4, hBA⟩
      have HN : Hid (∀ j, f ≤ j → j < ls.length → nameAt ls j ≠ l) := hno
      clear hno hO hA4 hB4 hBA hF hu4 hB03 h1 h2 h3 HM3
      go_wp2_with fail
      go_loopw [23, 24] (fun fv j wx => fv = .bool false ∧ ∃ y : Nat, f ≤ y ∧ y ≤ ls.length ∧ j = .int .i64 y ∧ USt w M (.slice a2 ls.length c2) (.slice a3 l.length c3) (.slice a5 (ls.length + 1) c5) ls l (ls ++ [l]) mo f wx) (fun _ j _ => ls.length - (intOf j).toNat)
      case atStart => exact ⟨rfl, f, by omega, by omega, rfl, hst⟩
      clear hst
      obtain ⟨rfl, y, hfy, hy, rfl, hst⟩ := hrel
      by_cases hyn : y < ls.length
      · obtain ⟨b, o, rfl, _, p, cp, hu, hn⟩ := hst.ns.at y hyn
        have hly := hS2 y
        have hb : Hid ((nameAt ls y == l) = false) := show _ = _ by have := HN.out y hfy hyn; simpa using this
        go_wp2_with fail
        refine (eqBytes_is _ _ _ _ _ _ _ _ _ false hb hn hst.nm hly).mono ?_
        rintro e w5 ⟨rfl, q, rfl⟩
        go_wp2_with fail
        go_roundw
        case rel => exact ⟨rfl, y + 1, by omega, by omega, by go_num, hst.drewN _⟩
        case measure => simp [intOf]; omega
      obtain ⟨wo, rfl⟩ : ∃ wo : World, wo = wr := ⟨_, rfl⟩
      go_wp2_with fail
      go_loopw [25] (fun i wx => ∃ x : Nat, x ≤ ls.length ∧ i = .int .i64 x ∧ USt w M (.slice a2 ls.length c2) (.slice a3 l.length c3) (.slice a5 (ls.length + 1) c5) ls l (ls ++ [l]) mo f wx) (fun i _ => ls.length - (intOf i).toNat)
      case atStart => exact ⟨0, by omega, rfl, hst⟩
      clear hst
      obtain ⟨x, hx, rfl, hst⟩ := hrel
      obtain ⟨b, o, c', e, _, hcell⟩ := hst.nn.get (by simp)
      obtain rfl : a5 = some ⟨b, o, none⟩ := by simp at e; exact e.1
      clear e
      by_cases hxn : x < ls.length
      · obtain ⟨u1, hu1, hnb⟩ := hcell x (by simp; omega)
        rw [nameAt_lo hxn] at hnb
        obtain ⟨p1, cp1, rfl⟩ := hnb.form
        obtain ⟨b2, o2, rfl, _, p2, cp2, hu2, hn2⟩ := hst.ns.at x hxn
        have i0 : (0 : Int) ≤ (x : Int) := by omega
        have i1 : (x : Int) < (ls.length : Int) := by omega
        have i2 : (x : Int) < (ls.length : Int) + 1 := by omega
        have hly := hS2 x
        have hb : Hid ((nameAt ls x == nameAt ls x) = true) := show _ = _ by simp
        clear hcell
        go_wp2_with fail
        go_quiet ((go_at_call 18; exact Calls.quiet_of (eqBytes_is _ 0 M 0 w.heap.size _ _ (nameAt ls x) (nameAt ls x) true hb (NB.drewN hnb _) (NB.drewN hn2 _) hly)))
        go_wp2_with fail
        go_roundw
        case rel => exact ⟨x + 1, by omega, by go_num, hst.drewN _⟩
        case measure => simp [intOf]; omega
      obtain ⟨u1, hu1, hnb⟩ := hcell ls.length (by simp)
      rw [nameAt_hi] at hnb
      obtain ⟨p1, cp1, rfl⟩ := hnb.form
      have i0 : (0 : Int) ≤ (ls.length : Int) := by omega
      have i1 : (ls.length : Int) < (ls.length : Int) + 1 := by omega
      have hb : Hid ((l == l) = true) := show _ = _ by simp
      clear hcell
      go_wp2_with fail
      refine (eqBytes_is _ _ _ _ _ _ _ _ _ true hb hnb hst.nm hl3).mono ?_
      rintro e w6 ⟨rfl, q6, rfl⟩
      have hst6 := hst.drewN q6
      clear hst hu1 hnb
      generalize wr.drewN q6 = wz at *
      have hmn := fun (w : World) (r : Option Nat) => run_eql_map_nil (P := Try.prog) w 33 9 4 r Try.underlying33
      rcases hst6.a with ⟨h16, rfl⟩ | ⟨h16, mb, rfl, hMb, hSet⟩
      · simp at h16
        have b16 : decide ((ls.length : Int) + 1 - (f : Int) ≤ 16) = true := decide_eq_true (by omega)
        have hBf := hst6.b
        clear hst6 h16
        go_wp2
        go_ret
        exact ⟨by simp, hBf⟩
      · simp at h16
        have b16 : decide ((ls.length : Int) + 1 - (f : Int) ≤ 16) = false := decide_eq_false (by omega)
        have hcv := hst6.nm.convert
        have hmem : Hid (∀ z, z ∈ (ls ++ [l]).drop f ↔ z ∈ ls.drop f ∨ z = l) := fun z => by
          rw [List.drop_append_of_le_length hf]
          simp
        have hlk : (Instr.lookup 33 (.map (some mb)) (.string (strOf l)) false).run Try.prog wz = .ok (.bool true) wz := by
          have h := hSet.look (l := l) (by unfold maxLen; omega)
          rw [show ((ls ++ [l]).drop f).contains l = true by rw [List.contains_iff_mem, hmem.out]; exact .inr rfl] at h
          exact h
        go_wp2_with fail
        obtain ⟨b2, o2, rfl, _⟩ := hst6.ns.at 0 (by omega)
        clear hmn hcv hlk
        go_loop [26] (fun i => ∃ z : Nat, f ≤ z ∧ z ≤ ls.length ∧ i = .int .i64 z) (fun i => ls.length - (intOf i).toNat)
        case atStart => exact ⟨f, by omega, by omega, rfl⟩
        obtain ⟨z, hz1, hz2, rfl⟩ := hrel
        by_cases hzn : z < ls.length
        · obtain ⟨b3, o3, e3, _, p3, cp3, hu3, hn3⟩ := hst6.ns.at z hzn
          obtain ⟨rfl, rfl⟩ : b2 = b3 ∧ o2 = o3 := by simpa using e3
          have hcv := hn3.convert
          have hlk : (Instr.lookup 33 (.map (some mb)) (.string (strOf (nameAt ls z))) false).run Try.prog wz = .ok (.bool true) wz := by
            have h := hSet.look (l := nameAt ls z) (by have := hS2 z; unfold maxLen; omega)
            rw [show ((ls ++ [l]).drop f).contains (nameAt ls z) = true by
              rw [List.contains_iff_mem, hmem.out]
              refine .inl ?_
              have e : (ls.drop f).take (z - f + 1) = (ls.drop f).take (z - f) ++ [nameAt ls (f + (z - f))] := take_name (by omega)
              have m1 : nameAt ls z ∈ (ls.drop f).take (z - f + 1) := by rw [e, show f + (z - f) = z by omega]; simp
              exact List.mem_of_mem_take m1] at h
            exact h
          clear e3 hn3
          go_wp2_with fail
          go_round
          case rel => exact ⟨z + 1, by omega, by omega, by go_num⟩
          case measure => simp [intOf]; omega
        have hnin : ¬ l ∈ ls.drop f := fun h => by
          obtain ⟨i, hi, e⟩ := List.mem_iff_getElem.1 h
          rw [List.length_drop] at hi
          refine HN.out (f + i) (by omega) (by omega) ?_
          simp [nameAt, show f + i < ls.length by omega]
          simpa using e
        have hdz : Hid (dsz ((ls ++ [l]).drop f) = dsz (ls.drop f) + 1) := by
          rw [List.drop_append_of_le_length hf, dsz_snoc, if_neg hnin]
          exact rfl
        have hdl : dsz (ls.drop f) ≤ ls.length := by
          have := dsz_le (ls.drop f) (ls.drop f).length
          rw [List.take_length, List.length_drop] at this
          omega
        have hln : ∀ n, (Builtin.len_ #[33] 3 #[.map (some mb)]).run Try.prog (wz.drewN n) = .ok (.int .i64 (dsz ((ls ++ [l]).drop f))) (wz.drewN n) := fun n => World.ownsMap.len (hSet.drewN n) Try.underlying33 3
        have hrd := hst6.ns.rd
        have hBf := hst6.b
        have hEq : ((dsz ((ls ++ [l]).drop f) : Int) == (dsz (ls.drop f) : Int) + 1) = true := by rw [hdz.out]; simp
        have hDB : Hid (∀ n c', Calls Try.prog 19 #[.slice (some ⟨b2, o2 + f, none⟩) (ls.length - f) c'] (wz.drewN n) fun e w' => e = .returned (.int .i64 (dsz (ls.drop f))) ∧ ∃ m, w' = (wz.drewN n).drewN m) := fun n c' =>
          distinctBytes_any (wz.drewN n) _ (ls.drop f) (rd_drop (f := f) (hrd.drewN n) (by omega) rfl) (short_drop hS2 f) (by simp; omega)
        generalize dsz ((ls ++ [l]).drop f) = d1 at *
        generalize dsz (ls.drop f) = d2 at *
        have j1 : (f : Int) ≤ (ls.length : Int) := by omega
        have j2 : (ls.length : Int) ≤ (c2 : Int) := by omega
        have j3 : (0 : Int) ≤ (f : Int) := by omega
        have j4 : ¬ c2 = f := by omega
        have j5 : (f : Int) ≤ (c2 : Int) := by omega
        have j6 : (d2 : Int) ≤ (ls.length : Int) := by omega
        clear hst6 hSet hrd hdz hnin hmem
        go_wp2_with fail
        go_quiet ((go_at_call 19; exact Calls.quiet_of (hDB.out _ _)))
        go_wp2
        go_ret
        exact ⟨by simp, below_drewN hBf _⟩
end Go.Proofs.Qxb6618255a
