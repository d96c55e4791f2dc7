/-
  '(*givenNames).add' and 'ZZAdd', walked.
-/
import Derived.Test.Qxb6618255aSet
import Derived.Deep.RegionLaw
namespace Go.Proofs.Qxb6618255a
open Go.RowKit Go.Maps

/-- A set is kept: the look-up, then the store. -/
theorem add_set (w : World) (gb kb M mb : Nat) (S : List (List UInt8)) (v : Value) (l : List UInt8) (c1 : w.cell? ⟨gb, 1, none⟩ = some (.map (some mb))) (hv : NB w 0 M v l) (hl : l.length ≤ 1048576) (hS : SetIs w mb S) (hSl : S.length ≤ 100000) :
    Calls Try.prog 22 #[.pointer (some ⟨gb, 0, none⟩), .pointer (some ⟨kb, 0, none⟩), v] w fun e w' => e = .returned (.bool (S.contains l)) ∧ SetIs w' mb (S ++ [l]) ∧ w.grownBy w' (some mb) := by
  have hnn := fun (w : World) (r : Option Nat) => run_neq_map_nil (P := Try.prog) w 33 9 4 r Try.underlying33
  have hlm : l.length ≤ maxLen := by unfold maxLen; omega
  have hcv : ∀ n, (convert 22 9 v).run Try.prog (w.drewN n) = .ok (.string (strOf l)) (w.drewN n) := fun n => (hv.drewN n).convert
  have hlk : ∀ n, (Instr.lookup 33 (.map (some mb)) (.string (strOf l)) false).run Try.prog (w.drewN n) = .ok (.bool (S.contains l)) (w.drewN n) := fun n => (hS.drewN n).look hlm
  generalize S.contains l = given at hlk ⊢
  go_enter Try.func22, Try.ntmps22
  go_wp2_with fail
  go_quiet (fail)
  go_wp2_with fail
  obtain ⟨w', hput, hS', hgr⟩ := (hS.drewN (nq + 1)).put hlm (show S.length < maxLen by unfold maxLen; omega)
  go_region
  go_wp2
  go_ret
  exact ⟨rfl, hS', ⟨hgr.os, hgr.tape, hgr.output, hgr.size, hgr.block⟩⟩

/-! ### what stays when another block is written -/
/-- Rows of slices are as they were. -/
def Rows22 (w w' : World) : Prop := ∀ (k : Nat) (cs : Array Value), w.heap[k]? = some (.cells cs 22 (0, 0)) → w'.heap[k]? = w.heap[k]?
theorem Rows22.alloc (w : World) (o : Obj) : Rows22 w (w.alloc o) := fun k _ h => Below.heap_alloc w o k (lt_of_block h)
theorem Rows22.setCell {w : World} {a : Addr} {cs : Array Value} {t : TypeId} {f : Nat × Nat} (h : w.heap[a.block]? = some (.cells cs t f)) (ht : t ≠ 22) (u : Value) : Rows22 w (w.setCell a u) := fun k cs' hk =>
  Below.heap_setCell w a u k (fun e => by rw [e, h] at hk; simp at hk; exact ht hk.2.1)
theorem Rows22.map {w w' : World} {b : Nat} {S : List (List UInt8)} (h : SetIs w b S) (hg : w.grownBy w' (some b)) : Rows22 w w' := fun k cs hk =>
  hg.block k (lt_of_block hk) (fun e => by
    obtain ⟨es, cl, hb⟩ := h.isMap
    simp at e
    rw [e, hb] at hk
    simp at hk)
theorem OwnN.stay {w w' : World} {M : Nat} {v : Value} {ls : List (List UInt8)} (h : OwnN w M v ls) (hb : Below M w w') (hr : Rows22 w w') : OwnN w' M v ls := by
  obtain ⟨vs, ho, hv⟩ := h
  refine ⟨vs, ⟨ho.1, ?_⟩, fun i hi => ?_⟩
  · rcases ho.2 with h | ⟨g, cap, cur, h1, h2, h3, h4⟩
    · exact .inl h
    · exact .inr ⟨g, cap, cur, h1, h2, (hr g cur h3).trans h3, h4⟩
  · obtain ⟨u, hu, hn⟩ := hv i hi
    exact ⟨u, hu, hn.below hb⟩
theorem Names.stay {w w' : World} {M : Nat} {v : Value} {ls : List (List UInt8)} (h : Names w M v ls) (hb : Below M w w') (hr : Rows22 w w') : Names w' M v ls := by
  rcases h with h | h
  · exact .inl (h.below hb)
  · exact .inr (h.stay hb hr)
theorem below_map {M b : Nat} {w w' : World} (hg : w.grownBy w' (some b)) (hM : M ≤ b) (hb : b < w.heap.size) : Below M w w' := (Below.refl M w).grown hg (by omega) (fun k hk => by simp at hk; omega)
theorem heap_setCell_at {w : World} {b o : Nat} {cs : Array Value} {t : TypeId} {f : Nat × Nat} (h : w.heap[b]? = some (.cells cs t f)) (u : Value) : (w.setCell ⟨b, o, none⟩ u).heap[b]? = some (.cells (cs.setIfInBounds o u) t f) := by
  simp [World.setCell, Array.getElem?_modify, h]

/-- 'append(names, name)' in a walk. -/
theorem wpList_append_names (w : World) {ops : Array Oper} {rest : List Oper} {o : Oper} {a : Act} {Q : Exit → Act → World → Prop} (hgd : o.guard = none) (s x : Operand)
    (ho : o.op = .call { callee := .builtin .append, args := #[s, x], argTypes := #[29, 29] }) (M : Nat) (v : Value) (ls : List (List UInt8)) (hs : a.eval s = v) (hN : Names w M v ls) (hM : M ≤ w.heap.size) (hls : ls.length ≤ 100000)
    (ad : Addr) (c : Nat) (u : Value) (l : List UInt8) (hx : a.eval x = .slice (some ad) 1 c) (hcell : w.cell? ad = some u) (hu : NB w 0 M u l)
    (h : ∀ g cap w', ls.length + 1 ≤ cap → OwnN w' M (.slice (some ⟨g, 0, none⟩) (ls.length + 1) cap) (ls ++ [l]) → Below M w w' → Beside w w' → wpList Try.prog ops Q rest (a.put o.dst (.slice (some ⟨g, 0, none⟩) (ls.length + 1) cap)) w') :
    wpList Try.prog ops Q (o :: rest) a w := by
  refine wpList_plain hgd fun K hK => ?_
  obtain ⟨v', w', hrun, hO, hB, hK2⟩ := hN.append hM hls (c := c) hcell hu o.type
  obtain ⟨vs, hr, hv⟩ := id hO
  rcases hr.2 with ⟨_, h0⟩ | ⟨g, cap, cur, e, _, _, hn, _⟩
  · simp at h0
  · rw [List.length_append, List.length_singleton] at e hn
    unfold Oper.wp
    simp [execOp, ho, resolve, invoke, builtin, hs, hx, hrun, Result.andThen]
    subst e
    exact hK _ _ (h g cap w' hn hO hB hK2)

theorem cell_in {w : World} {b o : Nat} {cs : Array Value} {t : TypeId} {f : Nat × Nat} {v : Value} (h : w.heap[b]? = some (.cells cs t f)) (hv : cs[o]? = some v) : w.cell? ⟨b, o, none⟩ = some v := by simp [World.cell?, h, hv]
theorem frozen_in {w : World} {b : Nat} {cs : Array Value} {t : TypeId} (h : w.heap[b]? = some (.cells cs t (0, 0))) (o : Nat) : w.frozen? ⟨b, o, none⟩ = false := by simp [World.frozen?, h]
theorem beside_block {w w1 : World} {nq b : Nat} {o : Obj} {cs : Array Value} {t : TypeId} (hbs : Beside ((w.drewN nq).alloc o) w1) (h : w.heap[b]? = some (.cells cs t (0, 0))) (ht : t ≠ 22) : w1.heap[b]? = some (.cells cs t (0, 0)) := by
  have hlt := lt_of_block h
  have e : ((w.drewN nq).alloc o).heap[b]? = some (.cells cs t (0, 0)) := (Below.heap_alloc (w.drewN nq) o b hlt).trans h
  rw [hbs b (lt_of_block e) (fun cs' h' => by rw [e] at h'; simp at h'; exact ht h'.2)]
  exact e

/-- While 'add' turns the names into a set. -/
structure AddSt (w0 : World) (M gb kb mb fr : Nat) (nv : Value) (ls : List (List UInt8)) (X : Array Value) (S : List (List UInt8)) (w : World) : Prop where
  g : w.heap[gb]? = some (.cells #[.int .i64 fr, .map (some mb)] 48 (0, 0))
  k : w.heap[kb]? = some (.cells X 44 (0, 0))
  n : OwnN w M nv ls
  s : SetIs w mb S
  b : Below M w0 w
  m : M ≤ mb

theorem AddSt.put {w0 w w' : World} {M gb kb mb fr : Nat} {nv : Value} {ls : List (List UInt8)} {X : Array Value} {S S' : List (List UInt8)} (h : AddSt w0 M gb kb mb fr nv ls X S w) (hg : w.grownBy w' (some mb)) (hS : SetIs w' mb S') : AddSt w0 M gb kb mb fr nv ls X S' w' := by
  obtain ⟨es, cl, hm⟩ := h.s.isMap
  have hb := below_map hg h.m h.s.lt
  refine ⟨(hg.block gb (lt_of_block h.g) ?_).trans h.g, (hg.block kb (lt_of_block h.k) ?_).trans h.k, h.n.stay hb (Rows22.map h.s hg), hS, h.b.trans hb, h.m⟩
  · intro e
    have e' : gb = mb := by simpa using e
    have := h.g
    rw [e', hm] at this
    simp at this
  · intro e
    have e' : kb = mb := by simpa using e
    have := h.k
    rw [e', hm] at this
    simp at this
theorem AddSt.start {w0 w2 : World} {M gb kb fr : Nat} {nv : Value} {ls : List (List UInt8)} {X : Array Value} (hg : w2.heap[gb]? = some (.cells #[.int .i64 fr, .map none] 48 (0, 0))) (hk : w2.heap[kb]? = some (.cells X 44 (0, 0)))
    (hO : OwnN w2 M nv ls) (hB : Below M w0 w2) (hne : gb ≠ kb) (hMg : M ≤ gb) : AddSt w0 M gb kb w2.heap.size fr nv ls X [] ((w2.setCell ⟨gb, 1, none⟩ (.map (some w2.heap.size))).alloc (.map #[] 0)) := by
  have hs : (w2.setCell ⟨gb, 1, none⟩ (.map (some w2.heap.size))).heap.size = w2.heap.size := by simp
  have hgl := lt_of_block hg
  have hkl := lt_of_block hk
  have h1 : Below M w2 (w2.setCell ⟨gb, 1, none⟩ (.map (some w2.heap.size))) := (Below.refl M w2).setCell (p := ⟨gb, 1, none⟩) hMg _
  have h2 : Below M (w2.setCell ⟨gb, 1, none⟩ (.map (some w2.heap.size))) ((w2.setCell ⟨gb, 1, none⟩ (.map (some w2.heap.size))).alloc (.map #[] 0)) := (Below.refl M _).alloc (by rw [hs]; omega) _
  refine ⟨?_, ?_, (hO.stay h1 (Rows22.setCell (a := ⟨gb, 1, none⟩) hg (by decide) _)).stay h2 (Rows22.alloc _ _), ?_, (hB.trans h1).trans h2, by omega⟩
  · rw [Below.heap_alloc _ _ _ (by rw [hs]; exact hgl), heap_setCell_at hg]
    rfl
  · rw [Below.heap_alloc _ _ _ (by rw [hs]; exact hkl), Below.heap_setCell _ _ _ _ (fun e => hne e.symm)]
    exact hk
  · have := SetIs.made (w2.setCell ⟨gb, 1, none⟩ (.map (some w2.heap.size)))
    rw [hs] at this
    exact this
theorem AddSt.drewN {w0 w : World} {M gb kb mb fr : Nat} {nv : Value} {ls : List (List UInt8)} {X : Array Value} {S : List (List UInt8)} (h : AddSt w0 M gb kb mb fr nv ls X S w) (q : Nat) : AddSt w0 M gb kb mb fr nv ls X S (w.drewN q) :=
  ⟨h.g, h.k, h.n, h.s, below_drewN h.b q, h.m⟩

/-- What 'add' leaves as its set behind a name that was not given: none, while the names are few; else the set of them. -/
def AfterSet (w : World) (M fr : Nat) (ls : List (List UInt8)) (mo : Option Nat) : Prop :=
  (ls.length - fr ≤ 16 ∧ mo = none) ∨ (16 < ls.length - fr ∧ ∃ mb, mo = some mb ∧ M ≤ mb ∧ SetIs w mb (ls.drop fr))

theorem Names.at {w : World} {M : Nat} {a : Option Addr} {c : Nat} {ls : List (List UInt8)} (h : Names w M (.slice a ls.length c) ls) (hc : 0 < ls.length ∨ ¬ c = ls.length) :
    ∃ b o, a = some ⟨b, o, none⟩ ∧ ∀ i, i < ls.length → ∃ u, w.cell? ⟨b, o + i, none⟩ = some u ∧ NB w 0 M u (nameAt ls i) := by
  by_cases hl : 0 < ls.length
  · obtain ⟨b, o, c', e, _, h⟩ := h.get hl
    simp at e
    exact ⟨b, o, e.1, h⟩
  · rcases h with ⟨a', e, _⟩ | ⟨vs, hr, _⟩
    · simp at e; omega
    · rcases hr.2 with ⟨e, _⟩ | ⟨g, cap, cur, e, _⟩
      · simp at e; omega
      · simp at e
        exact ⟨g, 0, e.1, fun i hi => absurd hi (by omega)⟩

theorem OwnN.at {w : World} {M g n c : Nat} {ls : List (List UInt8)} (h : OwnN w M (.slice (some ⟨g, 0, none⟩) n c) ls) (i : Nat) (hi : i < ls.length) : ∃ u, w.cell? ⟨g, i, none⟩ = some u ∧ NB w 0 M u (nameAt ls i) := by
  obtain ⟨b, o, c', e, _, h⟩ := Names.get (.inr h) (by omega)
  simp at e
  obtain ⟨⟨rfl, rfl⟩, _⟩ := e
  obtain ⟨u, hu, hn⟩ := h i hi
  exact ⟨u, by simpa using hu, hn⟩
theorem short_snoc {ls : List (List UInt8)} {l : List UInt8} (hS : Short ls) (hl : l.length ≤ 1048576) : Short (ls ++ [l]) := by
  intro i
  by_cases h : i < ls.length
  · rw [nameAt_lo h]; exact hS i
  · by_cases h2 : i = ls.length
    · rw [h2, nameAt_hi]; exact hl
    · have : nameAt (ls ++ [l]) i = [] := by
        unfold nameAt
        rw [List.getD, List.getElem?_eq_none (by simp; omega)]
        rfl
      rw [this]
      simp
theorem take_name {ls : List (List UInt8)} {fr k : Nat} (h : fr + k < ls.length) : (ls.drop fr).take (k + 1) = (ls.drop fr).take k ++ [nameAt ls (fr + k)] := by
  rw [List.take_succ_eq_append_getElem (by simp; omega)]
  simp [nameAt, h]

set_option maxHeartbeats 2000000 in
theorem add_list (w : World) (gb kb M fr : Nat) (nv v : Value) (ls : List (List UInt8)) (l : List UInt8) (x0 x1 x2 x3 x4 x6 : Value)
    (hg : w.heap[gb]? = some (.cells #[.int .i64 fr, .map none] 48 (0, 0))) (hk : w.heap[kb]? = some (.cells #[x0, x1, x2, x3, x4, nv, x6] 44 (0, 0)))
    (hN : Names w M nv ls) (hls : ls.length ≤ 10000) (hfr : fr ≤ ls.length) (hv : NB w 0 M v l) (hl : l.length ≤ 1048576) (hS : Short ls) (hMg : M ≤ gb) (hMk : M ≤ kb) :
    Calls Try.prog 22 #[.pointer (some ⟨gb, 0, none⟩), .pointer (some ⟨kb, 0, none⟩), v] w fun e w' =>
      (e = .returned (.bool true) ∧ (∃ j, fr ≤ j ∧ j < ls.length ∧ nameAt ls j = l) ∧ ∃ n, w' = w.drewN n) ∨
      (e = .returned (.bool false) ∧ (∀ j, fr ≤ j → j < ls.length → nameAt ls j ≠ l) ∧ Below M w w' ∧
        ∃ nv' mo, w'.cell? ⟨gb, 1, none⟩ = some (.map mo) ∧ w'.cell? ⟨kb, 5, none⟩ = some nv' ∧ OwnN w' M nv' (ls ++ [l]) ∧ AfterSet w' M fr (ls ++ [l]) mo) := by
  have hnn := fun (w : World) (r : Option Nat) => run_neq_map_nil (P := Try.prog) w 33 9 4 r Try.underlying33
  have g0 : w.cell? ⟨gb, 0, none⟩ = some (.int .i64 fr) := by simp [World.cell?, hg]
  have g1 : w.cell? ⟨gb, 1, none⟩ = some (.map none) := by simp [World.cell?, hg]
  have k5 : w.cell? ⟨kb, 5, none⟩ = some nv := by simp [World.cell?, hk]
  have hgl : gb < w.heap.size := lt_of_block hg
  have hkl : kb < w.heap.size := lt_of_block hk
  obtain ⟨p, cp, rfl⟩ := hv.form
  obtain ⟨a, c, rfl, hnc⟩ := hN.form
  have i1 : (fr : Int) ≤ (ls.length : Int) := by omega
  have i2 : (ls.length : Int) ≤ (c : Int) := by omega
  have i3 : (0 : Int) ≤ (fr : Int) := by omega
  have i4 : (fr : Int) ≤ (c : Int) := by omega
  have hW : Hid (∀ nq, Names ((w.drewN nq).alloc (.cells #[.slice p l.length cp] 22)) M (.slice a ls.length c) ls ∧ NB ((w.drewN nq).alloc (.cells #[.slice p l.length cp] 22)) 0 M (.slice p l.length cp) l ∧
      ((w.drewN nq).alloc (.cells #[.slice p l.length cp] 22)).cell? ⟨w.heap.size, 0, none⟩ = some (.slice p l.length cp) ∧ M ≤ ((w.drewN nq).alloc (.cells #[.slice p l.length cp] 22)).heap.size ∧ Below M w ((w.drewN nq).alloc (.cells #[.slice p l.length cp] 22))) := by
    intro nq
    have hb : Below M w ((w.drewN nq).alloc (.cells #[.slice p l.length cp] 22)) := (below_drewN (Below.refl M w) nq).alloc (show M ≤ w.heap.size by omega) _
    have hr : Rows22 w ((w.drewN nq).alloc (.cells #[.slice p l.length cp] 22)) := Rows22.alloc (w.drewN nq) _
    exact ⟨hN.stay hb hr, hv.below hb, World.cell?_alloc_new (w.drewN nq) #[.slice p l.length cp] 22 0, by simp; omega, hb⟩
  by_cases hcf : c = fr
  focus
    have hno : Hid (∀ j, fr ≤ j → j < ls.length → nameAt ls j ≠ l) := fun j h1 h2 => by omega
    subst c
    have hd : ls.length - fr = 0 := by omega
    go_enter Try.func22, Try.ntmps22
    go_wp2_with fail
    go_quiet (fail)
    go_wp2_with fail
    refine wp_loop_rounds 1 ?_
    rw [rounds_succ]
    go_wp2_with (at_builtin; refine wpList_append_names _ (by rfl) (.tmp 53) (.tmp 55) (by rfl) M (.slice a ls.length fr) ls (by rfl) (hW.out _).1 (hW.out _).2.2.2.1 (by omega) ⟨w.heap.size, 0, none⟩ 1 (.slice p l.length cp) l (by rfl) (hW.out _).2.2.1 (hW.out _).2.1 ?_)
    clear hd k5 hN i1 i2 i4 hnc
  rotate_left
  focus
    obtain ⟨b, o, rfl, hcell⟩ := hN.at (by omega)
    go_enter Try.func22, Try.ntmps22
    go_wp2_with fail
    go_quiet (fail)
    go_wp2_with fail
    generalize hd : ls.length - fr = d at *
    have hd1 : d + fr ≤ ls.length := by omega
    have hd2 : ls.length ≤ d + fr := by omega
    clear hd
    go_loop [41] (fun i => ∃ k : Nat, k ≤ d ∧ i = .int .i64 k ∧ (∀ x, x < k → nameAt ls (fr + x) ≠ l)) (fun i => d - (intOf i).toNat)
    case atStart => exact ⟨0, by omega, rfl, fun x h => absurd h (by omega)⟩
    obtain ⟨k, hk', rfl, hx⟩ := hrel
    by_cases hkd : k < d
    · obtain ⟨u, hu, hnb⟩ := hcell (fr + k) (by omega)
      rw [← Nat.add_assoc] at hu
      by_cases he : nameAt ls (fr + k) = l
      · have hb : (nameAt ls (fr + k) == l) = true := by simp [he]
        have hE : Hid (nameAt ls (fr + k) = l) := he
        clear he hcell hx
        go_wp2_with fail
        refine (bytesEqual_any _ _ _ _ _ _ _ _ _ (hnb.drewN nq) (hv.drewN nq)).mono ?_
        rintro e w1 ⟨rfl, hw1⟩
        subst w1
        rw [hb]
        go_wp2_with fail
        go_ret
        exact .inl ⟨rfl, ⟨fr + k, by omega, by omega, hE.out⟩, nq, rfl⟩
      · have hb : (nameAt ls (fr + k) == l) = false := by simpa using he
        have hE : Hid (nameAt ls (fr + k) ≠ l) := he
        clear he hcell
        go_wp2_with fail
        refine (bytesEqual_any _ _ _ _ _ _ _ _ _ (hnb.drewN nq) (hv.drewN nq)).mono ?_
        rintro e w1 ⟨rfl, hw1⟩
        subst w1
        rw [hb]
        go_wp2_with fail
        go_round
        case rel => exact ⟨k + 1, by omega, by go_num, fun x hx' => (if e : x = k then e ▸ hE.out else hx x (by omega))⟩
        case measure => simp [intOf]; omega
    have hno : Hid (∀ j, fr ≤ j → j < ls.length → nameAt ls j ≠ l) := fun j h1 h2 => by
      have := hx (j - fr) (by omega)
      rwa [show fr + (j - fr) = j by omega] at this
    go_wp2_with (at_builtin; refine wpList_append_names _ (by rfl) (.tmp 53) (.tmp 55) (by rfl) M (.slice (some ⟨b, o, none⟩) ls.length c) ls (by rfl) (hW.out _).1 (hW.out _).2.2.2.1 (by omega) ⟨w.heap.size, 0, none⟩ 1 (.slice p l.length cp) l (by rfl) (hW.out _).2.2.1 (hW.out _).2.1 ?_)
    clear hx hcell k5 hN
  all_goals
    intro g cap w1 hcap hO hb1 hbs
    have hB1 : Below M w w1 := (hW.out nq).2.2.2.2.trans hb1
    have hg1 := beside_block hbs hg (by decide)
    have hk1 := beside_block hbs hk (by decide)
    have hne : gb ≠ kb := fun e => by rw [e, hk] at hg; simp at hg
    clear hW hg hk hb1 hbs hgl hkl hv g1 g0 i3
    obtain ⟨y5, q5⟩ : ∃ y, w1.cell? ⟨kb, 5, none⟩ = some y := ⟨_, cell_in hk1 (o := 5) rfl⟩
    have f5 := frozen_in hk1 5
    have hl1 : ls.length + 1 ≤ 10001 := by omega
    go_wp2_with fail
    have hg2 : (w1.setCell ⟨kb, 5, none⟩ (.slice (some ⟨g, 0, none⟩) (ls.length + 1) cap)).heap[gb]? = some (.cells #[.int .i64 fr, .map none] 48 (0, 0)) := (Below.heap_setCell _ _ _ _ hne).trans hg1
    have hk2 := heap_setCell_at (o := 5) hk1 (.slice (some ⟨g, 0, none⟩) (ls.length + 1) cap)
    have hB2 := hB1.setCell (p := ⟨kb, 5, none⟩) hMk (.slice (some ⟨g, 0, none⟩) (ls.length + 1) cap)
    have hO2 := hO.stay ((Below.refl M w1).setCell (p := ⟨kb, 5, none⟩) hMk (.slice (some ⟨g, 0, none⟩) (ls.length + 1) cap)) (Rows22.setCell (a := ⟨kb, 5, none⟩) hk1 (by decide) _)
    clear hO hB1 hg1 hk1 q5 f5
    generalize w1.setCell ⟨kb, 5, none⟩ (.slice (some ⟨g, 0, none⟩) (ls.length + 1) cap) = w2 at hg2 hk2 hB2 hO2 ⊢
    have d0 : w2.cell? ⟨gb, 0, none⟩ = some (.int .i64 fr) := cell_in hg2 (o := 0) rfl
    have d1 : w2.cell? ⟨gb, 1, none⟩ = some (.map none) := cell_in hg2 (o := 1) rfl
    have d5 : w2.cell? ⟨kb, 5, none⟩ = some (.slice (some ⟨g, 0, none⟩) (ls.length + 1) cap) := cell_in hk2 (o := 5) rfl
    have e1 := frozen_in hg2 1
    by_cases h16 : 16 < ls.length + 1 - fr
    · have b16 : decide ((16 : Int) < (ls.length : Int) + 1 - (fr : Int)) = true := decide_eq_true (by omega)
      have hmm := @run_makeMap Try.prog
      have ad : ∀ (W : World) (j : Nat) (o : Obj), (W.drewN j).alloc o = (W.alloc o).drewN j := fun _ _ _ => rfl
      have sd : ∀ (W : World) (j : Nat) (x : Addr) (v : Value), (W.drewN j).setCell x v = (W.setCell x v).drewN j := fun _ _ _ _ => rfl
      have hgl2 : gb < w2.heap.size := lt_of_block hg2
      have hg3 := (Below.heap_alloc w2 (.map #[] 0) gb hgl2).trans hg2
      have m1 := cell_in hg3 (o := 1) (v := .map none) rfl
      have m2 := frozen_in hg3 1
      have hst0 := AddSt.start hg2 hk2 hO2 hB2 hne hMg
      go_quiet (fail)
      go_wp2_with fail
      have hst := hst0.drewN nq
      have hmb : Hid (M ≤ w2.heap.size) := Nat.le_of_lt (Nat.lt_of_le_of_lt hMg hgl2)
      clear hst0 hgl2 hg3 m1 m2 ad sd hmm hg2 hk2 hO2 hB2 d0 d1 d5 e1 b16
      generalize ((w2.setCell { block := gb, off := 1 } (Value.map (some w2.heap.size))).alloc (Obj.map #[] 0)).drewN nq = w3 at hst ⊢
      generalize w2.heap.size = mb at hst hmb ⊢
      have d0 : w3.cell? ⟨gb, 0, none⟩ = some (.int .i64 fr) := cell_in hst.g (o := 0) rfl
      have d5 : w3.cell? ⟨kb, 5, none⟩ = some (.slice (some ⟨g, 0, none⟩) (ls.length + 1) cap) := cell_in hst.k (o := 5) rfl
      have j1 : (fr : Int) ≤ (ls.length : Int) + 1 := by omega
      have j2 : (ls.length : Int) + 1 ≤ (cap : Int) := by omega
      have j3 : (0 : Int) ≤ (fr : Int) := by omega
      have j4 : ¬ cap = fr := by omega
      have j5 : (fr : Int) ≤ (cap : Int) := by omega
      go_quiet (fail)
      go_wp2_with fail
      have hst4 := hst.drewN nq
      clear hst d0 d5
      generalize hd3 : ls.length + 1 - fr = d3 at *
      have hd4 : d3 + fr ≤ ls.length + 1 := by omega
      have hd5 : ls.length + 1 ≤ d3 + fr := by omega
      clear hd3
      go_loopw [84] (fun i wr => ∃ k : Nat, k ≤ d3 ∧ i = .int .i64 k ∧ AddSt w M gb kb mb fr (.slice (some ⟨g, 0, none⟩) (ls.length + 1) cap) (ls ++ [l]) _ (((ls ++ [l]).drop fr).take k) wr) (fun i _ => d3 - (intOf i).toNat)
      case atStart => exact ⟨0, by omega, rfl, hst4⟩
      clear hst4
      case round =>
        obtain ⟨k, hk', rfl, hst⟩ := hrel
        by_cases hkd : k < d3
        · obtain ⟨u, hu, hnb⟩ := hst.n.at (fr + k) (by simp; omega)
          have hlen : (nameAt (ls ++ [l]) (fr + k)).length ≤ maxLen := by
            have := short_snoc hS hl (fr + k)
            unfold maxLen; omega
          have hcv := NB.convert (w := wr.drew) hnb
          have d1 : wr.cell? ⟨gb, 1, none⟩ = some (.map (some mb)) := cell_in hst.g (o := 1) rfl
          obtain ⟨w5, hput, hS', hgr⟩ := SetIs.put (w := wr.drew) hst.s hlen (show (((ls ++ [l]).drop fr).take k).length < maxLen by simp; unfold maxLen; omega)
          have hst5 := AddSt.put (w := wr.drew) (hst.drewN 1) hgr hS'
          rw [← take_name (by simp; omega)] at hst5
          clear hst hgr hS' hnb hlen
          go_wp2_with fail
          go_region
          go_wp2_with fail
          go_roundw
          case rel => exact ⟨k + 1, by omega, by go_num, hst5⟩
          case measure => simp [intOf]; omega
        · obtain rfl : d3 = k := by omega
          have d1 : wr.cell? ⟨gb, 1, none⟩ = some (.map (some mb)) := cell_in hst.g (o := 1) rfl
          have d5 : wr.cell? ⟨kb, 5, none⟩ = some (.slice (some ⟨g, 0, none⟩) (ls.length + 1) cap) := cell_in hst.k (o := 5) rfl
          go_wp2_with fail
          go_ret
          refine .inr ⟨rfl, hno.out, hst.b, _, some mb, d1, d5, hst.n, .inr ⟨by simp; omega, mb, rfl, hst.m, ?_⟩⟩
          have := hst.s
          rw [List.take_of_length_le (by simp; omega)] at this
          exact this
    · have b16 : decide ((16 : Int) < (ls.length : Int) + 1 - (fr : Int)) = false := decide_eq_false (by omega)
      go_quiet (fail)
      go_wp2_with fail
      go_ret
      exact .inr ⟨rfl, hno.out, below_drewN hB2 _, _, none, d1, d5, hO2, .inl ⟨by simp; omega, rfl⟩⟩
end Go.Proofs.Qxb6618255a
