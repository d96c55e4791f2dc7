/-
  FnAddScriptReportsExactlyTheRepeats: the law's own walk.
-/
import Derived.Test.Qxb6618255aScript
namespace Go.Proofs.Qxb6618255a
open Go.RowKit Go.Maps

theorem eqBytes_is (w : World) (L M L' M' : Nat) (v u : Value) (l k : List UInt8) (b : Bool) (hb : Hid ((l == k) = b)) (hv : NB w L M v l) (hu : NB w L' M' u k) (hL : l.length ≤ 1048576) :
    Calls Try.prog 18 #[v, u] w fun e w' => e = .returned (.bool b) ∧ ∃ n, w' = w.drewN n := by
  have h := eqBytes_any w L M L' M' v u l k hv hu hL
  rw [hb.out] at h
  exact h
theorem Full.form {w : World} {M : Nat} {v : Value} {ls : List (List UInt8)} (h : Full w M v ls) : ∃ a, v = .slice a ls.length ls.length := by
  obtain ⟨a, e, _⟩ := h
  exact ⟨a, e⟩
theorem ScrSt.drewN {w3 wr : World} {M : Nat} {ps qs : List (List UInt8)} {k : Nat} {nv mv : Value} (h : ScrSt w3 wr M ps qs k nv mv) (n : Nat) : ScrSt w3 (wr.drewN n) M ps qs k nv mv := ⟨below_drewN h.1 n, h.2⟩
theorem nameAt_left {ps ds : List (List UInt8)} {i : Nat} (h : i < ps.length) : nameAt (ps ++ ds) i = nameAt ps i := by
  simp [nameAt, List.getElem?_append, h]

set_option maxHeartbeats 4000000 in
theorem script_law (w : World) (v1 v2 : Value) (ps qs : List (List UInt8)) (h1 : NBs w w.heap.size v1 ps) (h2 : NBs w w.heap.size v2 qs) :
    Calls Try.prog 6 #[v1, v2] w fun e w' => e = .returned (.bool true) ∧ Below w.heap.size w w' := by
  obtain ⟨a1, c1, rfl⟩ := h1.form
  obtain ⟨a2, c2, rfl⟩ := h2.form
  have H1 : Hid (∀ i, _) := @NBs.at w w.heap.size a1 ps.length c1 ps h1
  have H2 : Hid (∀ i, _) := @NBs.at w w.heap.size a2 qs.length c2 qs h2
  go_enter Try.func6, Try.ntmps6
  go_wp2_with fail
  refine (bytes20_any w w.heap.size _ _ ps qs h1 h2).mono ?_
  rintro e w1 ⟨b, rfl, hw1, hb⟩
  subst w1
  cases b with
  | false =>
    clear hb H1 H2
    go_wp2
    go_ret
    exact ⟨rfl, Below.refl _ _⟩
  | true =>
    obtain ⟨hl1, hl2, hS1, hS2⟩ := hb rfl
    clear hb
    go_wp2_with fail
    go_loop [5, 6] (fun z i => ∃ (t s : Nat), t ≤ ps.length ∧ s ≤ 1048576 ∧ z = .int .i64 s ∧ i = .int .i64 t) (fun _ i => ps.length - (intOf i).toNat)
    case atStart => exact ⟨0, 0, by omega, by omega, rfl, rfl⟩
    case round =>
      obtain ⟨t, s, ht, hs, rfl, rfl⟩ := hrel
      by_cases htn : t < ps.length
      · obtain ⟨b, o, rfl, hb, p, cp, hu, _⟩ := H1.out t htn
        have hm := hS1 t
        generalize (nameAt ps t).length = m at *
        by_cases hm2 : 1048576 < s + (24 + m)
        · go_wp2
          go_ret
          exact ⟨rfl, Below.refl _ _⟩
        · go_wp2
          go_round
          case rel => exact ⟨t + 1, s + (24 + m), by omega, by omega, by go_num, by go_num⟩
          case measure => simp [intOf]; omega
      · go_wp2_with fail
        clear H1
        go_loop [5, 7] (fun z i => ∃ (t s : Nat), t ≤ qs.length ∧ s ≤ 1048576 ∧ z = .int .i64 s ∧ i = .int .i64 t) (fun _ i => qs.length - (intOf i).toNat)
        case atStart => exact ⟨0, s, by omega, by omega, rfl, rfl⟩
        clear ht hs
        case round =>
          obtain ⟨t', s', ht, hs, rfl, rfl⟩ := hrel
          by_cases htn' : t' < qs.length
          · obtain ⟨b, o, rfl, hb, p, cp, hu, _⟩ := H2.out t' htn'
            have hm := hS2 t'
            generalize (nameAt qs t').length = m at *
            by_cases hm2 : 1048576 < s' + (24 + m)
            · go_wp2
              go_ret
              exact ⟨rfl, Below.refl _ _⟩
            · go_wp2
              go_round
              case rel => exact ⟨t' + 1, s' + (24 + m), by omega, by omega, by go_num, by go_num⟩
              case measure => simp [intOf]; omega
          · by_cases hp4 : 4096 < ps.length
            · go_wp2
              go_ret
              exact ⟨rfl, Below.refl _ _⟩
            by_cases hq4 : 4096 < qs.length
            · go_wp2
              go_ret
              exact ⟨rfl, Below.refl _ _⟩
            have b1 : decide ((4096 : Int) < (ps.length : Int)) = false := decide_eq_false (by omega)
            have b2 : decide ((4096 : Int) < (qs.length : Int)) = false := decide_eq_false (by omega)
            clear H2
            go_wp2_with fail
            refine (cloneNames_any w w.heap.size _ ps h1 (Nat.le_refl _) hl1 hS1).mono ?_
            rintro e w2 ⟨nv, rfl, hF1, hB2⟩
            go_wp2_with fail
            refine (cloneNames_any w2 w.heap.size _ qs (h2.below hB2) hB2.size hl2 hS2).mono ?_
            rintro e w3 ⟨sv, rfl, hF2, hB3⟩
            have hst0 : ScrSt w3 w3 w3.heap.size ps qs 0 nv (.map none) := ⟨Below.refl _ _, [], by rw [List.append_nil]; exact .inl ((hF1.below hB3).mono hB3.size), by simp, by rw [List.append_nil]; exact hS1, .inl ⟨rfl, by simp, by simp⟩⟩
            have hB3' : Below w.heap.size w w3 := belowChain hB2 (Nat.le_refl _) hB3
            have h1' := h1.below hB3'
            have h2' := h2.below hB3'
            obtain ⟨na, rfl⟩ := hF1.form
            obtain ⟨sa, rfl⟩ := hF2.form
            clear hF1 hB2 hB3 h1 h2 b1 b2
            go_wp2_with fail
            have hMle : w.heap.size ≤ w3.heap.size := hB3'.size
            generalize hMe : w3.heap.size = M at *
            have HM : Hid (M ≤ w3.heap.size) := Nat.le_of_eq hMe.symm
            clear hMe
            clear hl1 hl2 htn' ht hs htn
            go_loopw [8, 11, 12] (fun nv mv i wr => ∃ k : Nat, k ≤ qs.length ∧ i = .int .i64 k ∧ ScrSt w3 wr M ps qs k nv mv) (fun _ _ i _ => qs.length - (intOf i).toNat)
            case atStart => exact ⟨0, by omega, rfl, hst0⟩
            clear hst0
            case round =>
              obtain ⟨k, hk, rfl, hst⟩ := hrel
              by_cases hkn : k < qs.length
              · obtain ⟨b, o, rfl, _, p, cp, hu, hnb⟩ := (hF2.below hst.1).nbs.at k hkn
                go_wp2_with fail
                refine (zzadd_script hst HM.out (by omega) hkn (by omega) hS2 hnb).mono ?_
                rintro e w4 ⟨given, mv', nv', rfl, hgv, hst'⟩
                have HG : Hid (given = true ↔ nameAt qs k ∈ qs.take k) := hgv
                obtain ⟨wo, rfl⟩ : ∃ wo : World, wo = wr := ⟨_, rfl⟩
                clear hgv hst hnb hu
                go_wp2_with fail
                go_loopw [16, 17] (fun wv j wx => wv = .bool false ∧ ∃ y : Nat, y ≤ k ∧ j = .int .i64 y ∧ ScrSt w3 wx M ps qs (k + 1) nv' mv' ∧ ∀ x, x < y → nameAt qs x ≠ nameAt qs k) (fun _ j _ => k - (intOf j).toNat)
                case atStart => exact ⟨rfl, 0, by omega, rfl, hst', fun x h => absurd h (by omega)⟩
                clear hst'
                case round =>
                  obtain ⟨rfl, y, hy, rfl, hst', hx⟩ := hrel
                  have h24 := h2'.below (hst'.1.mono hMle)
                  by_cases hyk : y < k
                  · obtain ⟨ab, ao, rfl, _, p1, cp1, hu1, hn1⟩ := h24.at y (by omega)
                    obtain ⟨ab', ao', ee, _, p2, cp2, hu2, hn2⟩ := h24.at k hkn
                    obtain ⟨rfl, rfl⟩ : ab = ab' ∧ ao = ao' := by simpa using ee
                    have i0 : (0 : Int) ≤ (y : Int) := by omega
                    have i1 : (y : Int) < (qs.length : Int) := by omega
                    have i2 : (0 : Int) ≤ (k : Int) := by omega
                    have i3 : (k : Int) < (qs.length : Int) := by omega
                    have hly := hS2 y
                    clear ee h24 h2'
                    by_cases he : nameAt qs y = nameAt qs k
                    · have hb : Hid ((nameAt qs y == nameAt qs k) = true) := show _ = _ by simp [he]
                      have hgt : given = true := HG.out.2 ((mem_take (Nat.le_of_lt hkn) _).2 ⟨y, hyk, he⟩)
                      clear he hx HG
                      subst hgt
                      go_wp2_with fail
                      go_quiet ((go_at_call 18; exact Calls.quiet_of (eqBytes_is _ 0 w.heap.size 0 w.heap.size _ _ (nameAt qs y) (nameAt qs k) true hb (NB.drewN hn1 _) (NB.drewN hn2 _) hly)))
                      go_wp2_with fail
                      go_roundw
                      case rel => exact ⟨k + 1, by omega, by go_num, hst'.drewN _⟩
                      case measure => simp [intOf]; omega
                    · have hb : Hid ((nameAt qs y == nameAt qs k) = false) := show _ = _ by simpa using he
                      have HE : Hid (nameAt qs y ≠ nameAt qs k) := he
                      clear he
                      go_wp2_with fail
                      go_quiet ((go_at_call 18; exact Calls.quiet_of (eqBytes_is _ 0 w.heap.size 0 w.heap.size _ _ (nameAt qs y) (nameAt qs k) false hb (NB.drewN hn1 _) (NB.drewN hn2 _) hly)))
                      go_wp2_with fail
                      go_roundw
                      case rel => exact ⟨rfl, y + 1, by omega, by go_num, hst'.drewN _, fun x hx' => (if e : x = y then e ▸ HE.out else hx x (by omega))⟩
                      case measure => simp [intOf]; omega
                  · have hgf : given = false := by
                      cases hg : given with
                      | false => rfl
                      | true =>
                        obtain ⟨x, h1, h2⟩ := (mem_take (Nat.le_of_lt hkn) _).1 (HG.out.1 hg)
                        exact absurd h2 (hx x (by omega))
                    clear hx HG
                    subst hgf
                    go_wp2_with fail
                    go_roundw
                    case rel => exact ⟨k + 1, by omega, by go_num, hst'⟩
                    case measure => simp [intOf]; omega
              · obtain ⟨hBl, ds, hN, _, _, _⟩ := hst
                obtain ⟨fa, fc, hfe, hfc⟩ := hN.form
                rw [List.length_append] at hfe
                subst hfe
                have h1w := h1'.below (hBl.mono hMle)
                have hB5 : Below w.heap.size w wr := hB3'.trans (hBl.mono hMle)
                obtain ⟨wo, rfl⟩ : ∃ wo : World, wo = wr := ⟨_, rfl⟩
                clear hBl hB3' h1' h2' hF2 HM
                go_wp2_with fail
                go_loopw [18] (fun i wx => ∃ y : Nat, y ≤ ps.length ∧ i = .int .i64 y ∧ Names wx M (.slice fa (ps.length + ds.length) fc) (ps ++ ds) ∧ NBs wx w.heap.size (.slice a1 ps.length c1) ps ∧ Below w.heap.size w wx) (fun i _ => ps.length - (intOf i).toNat)
                case atStart => exact ⟨0, by omega, rfl, hN, h1w, hB5⟩
                clear hN h1w hB5
                case round =>
                  obtain ⟨y, hy, rfl, hN, h1w, hB5⟩ := hrel
                  by_cases hyn : y < ps.length
                  · obtain ⟨b, o, c', e, _, hcell⟩ := hN.get (by simp; omega)
                    obtain ⟨u, hu, hnb⟩ := hcell y (by simp; omega)
                    rw [nameAt_left hyn] at hnb
                    obtain ⟨p1, cp1, rfl⟩ := hnb.form
                    obtain rfl : fa = some ⟨b, o, none⟩ := by simp at e; exact e.1
                    obtain ⟨b2, o2, rfl, _, p2, cp2, hu2, hn2⟩ := h1w.at y hyn
                    have i0 : (0 : Int) ≤ (y : Int) := by omega
                    have i1 : (y : Int) < (ps.length : Int) := by omega
                    have i2 : (y : Int) < (ps.length : Int) + (ds.length : Int) := by omega
                    have hly := hS1 y
                    have hb : Hid ((nameAt ps y == nameAt ps y) = true) := show _ = _ by simp
                    clear hcell e
                    go_wp2_with fail
                    go_quiet ((go_at_call 18; exact Calls.quiet_of (eqBytes_is _ 0 M 0 w.heap.size _ _ (nameAt ps y) (nameAt ps y) true hb (NB.drewN hnb _) (NB.drewN hn2 _) hly)))
                    go_wp2_with fail
                    go_roundw
                    case rel => exact ⟨y + 1, by omega, by go_num, hN, h1w, below_drewN hB5 _⟩
                    case measure => simp [intOf]; omega
                  · go_wp2_with fail
                    go_ret
                    exact ⟨by simp, hB5⟩
end Go.Proofs.Qxb6618255a
