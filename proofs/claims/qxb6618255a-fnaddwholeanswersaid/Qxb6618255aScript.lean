/-
  FnAddScriptReportsExactlyTheRepeats, walked.
-/
import Derived.Test.Qxb6618255aZZAdd
namespace Go.Proofs.Qxb6618255a
open Go.RowKit Go.Maps

theorem NBs.at {w : World} {M : Nat} {a : Option Addr} {n c : Nat} {ls : List (List UInt8)} (h : NBs w M (.slice a n c) ls) (i : Nat) (hi : i < ls.length) :
    ∃ b o, a = some ⟨b, o, none⟩ ∧ b < M ∧ ∃ p cp, w.cell? ⟨b, o + i, none⟩ = some (.slice p (nameAt ls i).length cp) ∧ NB w 0 M (.slice p (nameAt ls i).length cp) (nameAt ls i) := by
  obtain ⟨a', c', e, h⟩ := h
  obtain ⟨b, o, rfl, hb, h⟩ := h (by omega)
  obtain ⟨u, hu, hn⟩ := h i hi
  obtain ⟨p, cp, rfl⟩ := hn.form
  simp at e
  exact ⟨b, o, e.1, hb, p, cp, hu, hn⟩
theorem NBs.form {w : World} {M : Nat} {v : Value} {ls : List (List UInt8)} (h : NBs w M v ls) : ∃ a c, v = .slice a ls.length c := by
  obtain ⟨a, c, e, _⟩ := h
  exact ⟨a, c, e⟩
theorem short_of {ls : List (List UInt8)} (h : ∀ x, x < ls.length → (nameAt ls x).length ≤ 1048576) : Short ls := by
  intro i
  by_cases hi : i < ls.length
  · exact h i hi
  · have : nameAt ls i = [] := by
      unfold nameAt
      rw [List.getD, List.getElem?_eq_none (by omega)]
      rfl
    rw [this]
    simp

/-- What the bound on lengths says: some bool; where it says true the lists are short and so is each name. -/
def Says20 (ls1 ls2 : List (List UInt8)) (w w' : World) (e : Ending) : Prop := ∃ b, e = .returned (.bool b) ∧ w' = w ∧ (b = true → ls1.length ≤ 1048576 ∧ ls2.length ≤ 1048576 ∧ Short ls1 ∧ Short ls2)

set_option maxHeartbeats 2000000 in
theorem bytes20_any (w : World) (M : Nat) (v1 v2 : Value) (ls1 ls2 : List (List UInt8)) (h1 : NBs w M v1 ls1) (h2 : NBs w M v2 ls2) :
    Calls Try.prog 20 #[v1, v2] w fun e w' => Says20 ls1 ls2 w w' e := by
  obtain ⟨a1, c1, rfl⟩ := h1.form
  obtain ⟨a2, c2, rfl⟩ := h2.form
  have hs1 := @short_of ls1
  have hs2 := @short_of ls2
  have H1 := @NBs.at w M a1 ls1.length c1 ls1 h1
  have H2 := @NBs.at w M a2 ls2.length c2 ls2 h2
  have HY : ls1.length ≤ 1048576 → ls2.length ≤ 1048576 → Short ls1 → Short ls2 → Says20 ls1 ls2 w w (.returned (.bool true)) := fun h1 h2 h3 h4 => ⟨true, rfl, rfl, fun _ => ⟨h1, h2, h3, h4⟩⟩
  generalize hn1 : ls1.length = n1 at *
  generalize hn2 : ls2.length = n2 at *
  clear h1 h2 hn1 hn2
  by_cases hl1 : n1 ≤ 1048576
  · go_enter Try.func20, Try.ntmps20
    go_wp2_with fail
    go_loop [5, 6] (fun z i => ∃ (t s : Nat), t ≤ n1 ∧ s ≤ 1048576 ∧ z = .int .i64 s ∧ i = .int .i64 t ∧ ∀ x, x < t → (nameAt ls1 x).length ≤ 1048576) (fun _ i => n1 - (intOf i).toNat)
    case atStart => exact ⟨0, n1, by omega, hl1, rfl, rfl, fun x h => absurd h (by omega)⟩
    case round =>
      obtain ⟨t, s, ht, hs, rfl, rfl, hx⟩ := hrel
      by_cases htn : t < n1
      · obtain ⟨b, o, rfl, hb, p, cp, hu, _⟩ := H1 t htn
        generalize hm : (nameAt ls1 t).length = m at *
        clear H1 H2 hs1 hs2 HY
        have HM : Hid ((nameAt ls1 t).length = m) := hm
        clear hm
        by_cases hm1 : 1048576 < m
        · go_wp2
          go_ret
          exact ⟨false, rfl, rfl, fun h => by cases h⟩
        · by_cases hm2 : 1048576 < s + m
          · go_wp2
            go_ret
            exact ⟨false, rfl, rfl, fun h => by cases h⟩
          · go_wp2
            go_round
            case rel => exact ⟨t + 1, s + m, by omega, by omega, by go_num, by go_num, fun x hx' => (if e : x = t then (by rw [e, HM.out]; omega) else hx x (by omega))⟩
            case measure => simp [intOf]; omega
      · obtain rfl : n1 = t := by omega
        have hS1 := hs1 hx
        by_cases hl2 : n2 ≤ 1048576
        · by_cases hsn : s + n2 ≤ 1048576
          · clear hs1 hx H1
            go_wp2_with fail
            go_loop [5, 7] (fun z i => ∃ (t s : Nat), t ≤ n2 ∧ s ≤ 1048576 ∧ z = .int .i64 s ∧ i = .int .i64 t ∧ ∀ x, x < t → (nameAt ls2 x).length ≤ 1048576) (fun _ i => n2 - (intOf i).toNat)
            case atStart => exact ⟨0, s + n2, by omega, hsn, by go_num, rfl, fun x h => absurd h (by omega)⟩
            case round =>
              obtain ⟨t, s, ht, hs, rfl, rfl, hx⟩ := hrel
              by_cases htn : t < n2
              · obtain ⟨b, o, rfl, hb, p, cp, hu, _⟩ := H2 t htn
                generalize hm : (nameAt ls2 t).length = m at *
                clear H2 hs2 HY
                have HM : Hid ((nameAt ls2 t).length = m) := hm
                clear hm
                by_cases hm1 : 1048576 < m
                · go_wp2
                  go_ret
                  exact ⟨false, rfl, rfl, fun h => by cases h⟩
                · by_cases hm2 : 1048576 < s + m
                  · go_wp2
                    go_ret
                    exact ⟨false, rfl, rfl, fun h => by cases h⟩
                  · go_wp2
                    go_round
                    case rel => exact ⟨t + 1, s + m, by omega, by omega, by go_num, by go_num, fun x hx' => (if e : x = t then (by rw [e, HM.out]; omega) else hx x (by omega))⟩
                    case measure => simp [intOf]; omega
              · obtain rfl : n2 = t := by omega
                have HZ : Hid (Says20 ls1 ls2 w w (.returned (.bool true))) := HY hl1 hl2 hS1 (hs2 hx)
                clear HY hs2 hx H2 hS1
                go_wp2
                go_ret
                exact HZ.out
          · clear hs1 hs2 hx HY H1 H2 hS1
            go_wp2
            go_ret
            exact ⟨false, rfl, rfl, fun h => by cases h⟩
        · clear hs1 hs2 hx HY H1 H2 hS1
          go_wp2
          go_ret
          exact ⟨false, rfl, rfl, fun h => by cases h⟩
  · clear hs1 hs2 HY H1 H2
    go_enter Try.func20, Try.ntmps20
    go_wp2
    go_ret
    exact ⟨false, rfl, rfl, fun h => by cases h⟩

/-! ### one add of the script -/
theorem mem_take {qs : List (List UInt8)} {k : Nat} (hk : k ≤ qs.length) (l : List UInt8) : l ∈ qs.take k ↔ ∃ x, x < k ∧ nameAt qs x = l := by
  rw [List.mem_take_iff_getElem]
  constructor
  · rintro ⟨i, hi, rfl⟩
    exact ⟨i, by omega, by simp [nameAt, show i < qs.length by omega]⟩
  · rintro ⟨x, hx, rfl⟩
    exact ⟨x, by omega, by simp [nameAt, show x < qs.length by omega]⟩
theorem mem_step {qs : List (List UInt8)} {k : Nat} (hk : k < qs.length) (l : List UInt8) : l ∈ qs.take (k + 1) ↔ l ∈ qs.take k ∨ l = nameAt qs k := by
  have e : nameAt qs k = qs[k] := by simp [nameAt, hk]
  rw [List.take_succ_eq_append_getElem hk, List.mem_append, List.mem_singleton, e]
theorem mem_tail {ps ds : List (List UInt8)} (l : List UInt8) : (∃ j, ps.length ≤ j ∧ j < (ps ++ ds).length ∧ nameAt (ps ++ ds) j = l) ↔ l ∈ ds := by
  rw [List.mem_iff_getElem]
  constructor
  · rintro ⟨j, h1, h2, rfl⟩
    simp at h2
    refine ⟨j - ps.length, by omega, ?_⟩
    simp [nameAt, List.getElem?_append, show ¬ j < ps.length by omega, show j - ps.length < ds.length by omega]
  · rintro ⟨i, hi, rfl⟩
    refine ⟨ps.length + i, by omega, by simp; omega, ?_⟩
    simp [nameAt, hi]

/-- WHERE THE SCRIPT STANDS BEHIND k ADDS. -/
def ScrSt (w3 wr : World) (M : Nat) (ps qs : List (List UInt8)) (k : Nat) (nv mv : Value) : Prop :=
  Below M w3 wr ∧ ∃ ds, Names wr M nv (ps ++ ds) ∧ ds.length ≤ 17 ∧ Short (ps ++ ds) ∧
    ((mv = .map none ∧ ds.length ≤ 16 ∧ ∀ l, l ∈ ds ↔ l ∈ qs.take k) ∨ (∃ mb S, mv = .map (some mb) ∧ M ≤ mb ∧ SetIs wr mb S ∧ S.length ≤ k + 17 ∧ ∀ l, l ∈ S ↔ l ∈ qs.take k))

theorem zzadd_script {w3 wr : World} {M : Nat} {ps qs : List (List UInt8)} {k : Nat} {nv mv u : Value} (st : ScrSt w3 wr M ps qs k nv mv) (hM : M ≤ w3.heap.size) (hps : ps.length ≤ 4096) (hk : k < qs.length) (hqs : qs.length ≤ 4096) (hq : Short qs)
    (hu : NB wr 0 M u (nameAt qs k)) : Calls Try.prog 14 #[.int .i64 (ps.length : Int), mv, nv, u] wr fun e w' =>
      ∃ given mv' nv', e = .returned (.tuple #[.bool given, mv', nv']) ∧ (given = true ↔ nameAt qs k ∈ qs.take k) ∧ ScrSt w3 w' M ps qs (k + 1) nv' mv' := by
  obtain ⟨hB, ds, hN, hd, hS, hcase⟩ := st
  have hl : ps.length + ds.length ≤ 10000 := by omega
  rcases hcase with ⟨rfl, hd16, hm⟩ | ⟨mb, S, rfl, hMm, hSet, hSl, hm⟩
  · refine (zzadd_list wr M ps.length nv u (ps ++ ds) (nameAt qs k) (Nat.le_trans hM hB.size) hN (by simp; omega) (by simp) hu (hq k) hS).mono ?_
    rintro e w' (⟨rfl, hj, hN', hB'⟩ | ⟨nv', mo, rfl, hno, hO, hA, hB'⟩)
    · have hin := (mem_tail _).1 hj
      refine ⟨true, _, _, rfl, ⟨fun _ => (hm _).1 hin, fun _ => rfl⟩, hB.trans hB', ds, hN', hd, hS, .inl ⟨rfl, hd16, fun l => ?_⟩⟩
      rw [mem_step hk, hm]
      constructor
      · exact .inl
      · rintro (h | rfl)
        · exact h
        · exact (hm _).1 hin
    · have hnin : ¬ nameAt qs k ∈ ds := fun h => by
        obtain ⟨j, h1, h2, h3⟩ := (mem_tail (ps := ps) _).2 h
        exact hno j h1 h2 h3
      have hmem : ∀ l, l ∈ ds ++ [nameAt qs k] ↔ l ∈ qs.take (k + 1) := fun l => by
        rw [mem_step hk, ← hm]
        simp
      refine ⟨false, _, _, rfl, ⟨fun h => (by cases h), fun h => absurd ((hm _).2 h) hnin⟩, hB.trans hB', ds ++ [nameAt qs k], ?_, by simp; omega, ?_, ?_⟩
      · rw [← List.append_assoc]
        exact .inr hO
      · rw [← List.append_assoc]
        exact short_snoc hS (hq k)
      · rcases hA with ⟨h16, rfl⟩ | ⟨h16, mb, rfl, hMb, hSet⟩
        · exact .inl ⟨rfl, by simp at h16 ⊢; omega, hmem⟩
        · refine .inr ⟨mb, ds ++ [nameAt qs k], rfl, hMb, ?_, by simp; omega, hmem⟩
          rw [List.append_assoc, List.drop_left] at hSet
          exact hSet
  · refine (zzadd_set wr M mb ps.length S nv u (ps ++ ds) (nameAt qs k) hN hu (hq k) hSet (by omega) hMm).mono ?_
    rintro e w' ⟨rfl, hSet', hN', hB'⟩
    refine ⟨_, _, _, rfl, ?_, hB.trans hB', ds, hN', hd, hS, .inr ⟨mb, S ++ [nameAt qs k], rfl, hMm, hSet', by simp; omega, fun l => ?_⟩⟩
    · rw [← hm]
      simp
    · rw [mem_step hk, ← hm]
      simp
end Go.Proofs.Qxb6618255a
