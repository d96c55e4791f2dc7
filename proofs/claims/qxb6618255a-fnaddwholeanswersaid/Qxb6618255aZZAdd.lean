/-
  'ZZAdd', walked over add's contracts.
-/
import Derived.Test.Qxb6618255aAdd
namespace Go.Proofs.Qxb6618255a
open Go.RowKit Go.Maps

/-- Two new boxes. -/
theorem two_boxes (w : World) (c1 c2 : Array Value) (t1 t2 : TypeId) :
    ((w.alloc (.cells c1 t1)).alloc (.cells c2 t2)).heap[w.heap.size]? = some (.cells c1 t1 (0, 0)) ∧ ((w.alloc (.cells c1 t1)).alloc (.cells c2 t2)).heap[w.heap.size + 1]? = some (.cells c2 t2 (0, 0)) ∧
    (∀ M, M ≤ w.heap.size → Below M w ((w.alloc (.cells c1 t1)).alloc (.cells c2 t2))) ∧ Rows22 w ((w.alloc (.cells c1 t1)).alloc (.cells c2 t2)) ∧ ((w.alloc (.cells c1 t1)).alloc (.cells c2 t2)).heap.size = w.heap.size + 2 := by
  have hs : (w.alloc (.cells c1 t1)).heap.size = w.heap.size + 1 := by simp
  refine ⟨?_, ?_, fun M hM => ((Below.refl M w).alloc hM _).alloc (by rw [hs]; omega) _, fun k cs h => ?_, by simp⟩
  · rw [Below.heap_alloc _ _ _ (by rw [hs]; omega)]
    exact heap_alloc_new w _
  · rw [← hs]
    exact heap_alloc_new _ _
  · have hlt := lt_of_block h
    rw [Below.heap_alloc _ _ _ (by rw [hs]; omega), Below.heap_alloc _ _ _ hlt]

set_option maxHeartbeats 1000000 in
theorem zzadd_set (w : World) (M mb : Nat) (fr : Int) (S : List (List UInt8)) (nv v : Value) (ls : List (List UInt8)) (l : List UInt8) (hN : Names w M nv ls) (hv : NB w 0 M v l) (hl : l.length ≤ 1048576)
    (hS : SetIs w mb S) (hSl : S.length ≤ 100000) (hMm : M ≤ mb) :
    Calls Try.prog 14 #[.int .i64 fr, .map (some mb), nv, v] w fun e w' => e = .returned (.tuple #[.bool (S.contains l), .map (some mb), nv]) ∧ SetIs w' mb (S ++ [l]) ∧ Names w' M nv ls ∧ Below M w w' := by
  obtain ⟨a, c, rfl, _⟩ := hN.form
  obtain ⟨p, cp, rfl⟩ := hv.form
  have hml := hS.lt
  obtain ⟨given, hgv⟩ : ∃ b, b = S.contains l := ⟨_, rfl⟩
  rw [← hgv]
  have HG : Hid (given = S.contains l) := hgv
  clear hgv
  go_enter Try.func14, Try.ntmps14
  go_wp2_with fail
  obtain ⟨b1, b2, b3, b4, b5⟩ := two_boxes w #[.int .i64 fr, .map (some mb)] #[.slice none 0 0, .int .i64 0, .string { data := #[] }, .int .i64 0, .slice none 0 0, .slice a ls.length c, .slice none 0 0] 48 44
  have hS1 := SetIs.alloc (SetIs.alloc hS (.cells #[.int .i64 fr, .map (some mb)] 48)) (.cells #[.slice none 0 0, .int .i64 0, .string { data := #[] }, .int .i64 0, .slice none 0 0, .slice a ls.length c, .slice none 0 0] 44)
  generalize (w.alloc (.cells #[.int .i64 fr, .map (some mb)] 48)).alloc (.cells #[.slice none 0 0, .int .i64 0, .string { data := #[] }, .int .i64 0, .slice none 0 0, .slice a ls.length c, .slice none 0 0] 44) = w1 at *
  have hB1 := b3 M (by omega)
  refine (add_set w1 w.heap.size (w.heap.size + 1) M mb S (.slice p l.length cp) l (cell_in b1 (o := 1) rfl) (hv.below hB1) hl hS1 hSl).mono ?_
  rintro e w2 ⟨he, hS2, hgr⟩
  rw [← HG.out] at he
  subst he
  have q1 : w2.cell? ⟨w.heap.size, 1, none⟩ = some (.map (some mb)) := cell_in ((hgr.block _ (by omega) (fun e => by simp at e; omega)).trans b1) (o := 1) rfl
  have q5 : w2.cell? ⟨w.heap.size + 1, 5, none⟩ = some (.slice a ls.length c) := cell_in ((hgr.block _ (by omega) (fun e => by simp at e; omega)).trans b2) (o := 5) rfl
  have hB2 := below_map hgr hMm hS1.lt
  have hN2 := (hN.stay hB1 b4).stay hB2 (Rows22.map hS1 hgr)
  clear b1 b2 b3 b4 b5 hS1 hN hv hS
  go_wp2_with fail
  go_quiet (fail)
  go_wp2_with fail
  go_ret3
  exact ⟨rfl, hS2, hN2, below_drewN (hB1.trans hB2) _⟩

set_option maxHeartbeats 1000000 in
theorem zzadd_list (w : World) (M fr : Nat) (nv v : Value) (ls : List (List UInt8)) (l : List UInt8) (hM : M ≤ w.heap.size) (hN : Names w M nv ls) (hls : ls.length ≤ 10000) (hfr : fr ≤ ls.length) (hv : NB w 0 M v l) (hl : l.length ≤ 1048576) (hS : Short ls) :
    Calls Try.prog 14 #[.int .i64 fr, .map none, nv, v] w fun e w' =>
      (e = .returned (.tuple #[.bool true, .map none, nv]) ∧ (∃ j, fr ≤ j ∧ j < ls.length ∧ nameAt ls j = l) ∧ Names w' M nv ls ∧ Below M w w') ∨
      (∃ nv' mo, e = .returned (.tuple #[.bool false, .map mo, nv']) ∧ (∀ j, fr ≤ j → j < ls.length → nameAt ls j ≠ l) ∧ OwnN w' M nv' (ls ++ [l]) ∧ AfterSet w' M fr (ls ++ [l]) mo ∧ Below M w w') := by
  obtain ⟨a, c, rfl, _⟩ := hN.form
  obtain ⟨p, cp, rfl⟩ := hv.form
  go_enter Try.func14, Try.ntmps14
  go_wp2_with fail
  obtain ⟨b1, b2, b3, b4, b5⟩ := two_boxes w #[.int .i64 fr, .map none] #[.slice none 0 0, .int .i64 0, .string { data := #[] }, .int .i64 0, .slice none 0 0, .slice a ls.length c, .slice none 0 0] 48 44
  generalize (w.alloc (.cells #[.int .i64 fr, .map none] 48)).alloc (.cells #[.slice none 0 0, .int .i64 0, .string { data := #[] }, .int .i64 0, .slice none 0 0, .slice a ls.length c, .slice none 0 0] 44) = w1 at *
  have hB1 := b3 M hM
  have hN1 := hN.stay hB1 b4
  refine (add_list w1 w.heap.size (w.heap.size + 1) M fr (.slice a ls.length c) (.slice p l.length cp) ls l _ _ _ _ _ _ b1 b2 hN1 hls hfr (hv.below hB1) hl hS hM (by omega)).mono ?_
  rintro e w2 (⟨rfl, hj, n, rfl⟩ | ⟨rfl, hno, hB2, nv', mo, c1, c5, hO, hA⟩)
  · have q1 : w1.cell? ⟨w.heap.size, 1, none⟩ = some (.map none) := cell_in b1 (o := 1) rfl
    have q5 : w1.cell? ⟨w.heap.size + 1, 5, none⟩ = some (.slice a ls.length c) := cell_in b2 (o := 5) rfl
    clear b1 b2 b3 b4 b5 hN hv hS
    go_wp2_with fail
    go_quiet (fail)
    go_wp2_with fail
    go_ret3
    exact .inl ⟨rfl, hj, hN1, below_drewN (below_drewN hB1 _) _⟩
  · obtain ⟨a', c', hnv, _⟩ := Names.form (.inr hO)
    rw [List.length_append, List.length_singleton] at hnv
    subst hnv
    have hno' : Hid (∀ j, fr ≤ j → j < ls.length → nameAt ls j ≠ l) := hno
    clear b1 b2 b3 b4 b5 hN hv hS hN1 hno
    go_wp2_with fail
    go_quiet (fail)
    go_wp2_with fail
    go_ret3
    exact .inr ⟨_, mo, rfl, hno'.out, hO, hA, below_drewN (hB1.trans hB2) _⟩
end Go.Proofs.Qxb6618255a
