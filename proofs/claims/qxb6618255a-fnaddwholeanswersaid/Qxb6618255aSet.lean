/-
  THE MAP THAT 'add' KEEPS, AS A SET OF NAMES: 'SetIs w b S': block b is a map[string]bool filled from the list S, each name with 'true'.
-/
import Derived.Test.Qxb6618255aNames
import Derived.Maps.OwnOps
import Derived.Maps.OwnSet
import Derived.ArgAppend
import Derived.Maps.AppendAt
namespace Go.Proofs.Qxb6618255a
open Go.RowKit Go.Maps

/-- The names as keys. -/
def keys (S : List (List UInt8)) : List Lit := S.map Lit.string
theorem keys_ok (S : List (List UInt8)) : ∀ x ∈ keys S, WideAt.IsKeyLit x := by
  intro x hx
  obtain ⟨l, _, rfl⟩ := List.mem_map.1 hx
  trivial
theorem keys_snoc (S : List (List UInt8)) (l : List UInt8) : keys (S ++ [l]) = keys S ++ [Lit.string l] := by simp [keys]

/-- true, as a datum. -/
def yes : DataW Unit := .lit (.bool true)

/-- BLOCK b IS THE SET OF THE NAMES S. -/
def SetIs (w : World) (b : Nat) (S : List (List UInt8)) : Prop := w.ownsMap Try.prog 9 (plainElem (H := Unit) Try.prog 4) b S.length (setOf yes (keys S))

theorem law9 : Keyed Try.prog 9 := string_keyed Try.underlying9
theorem zero4 (w : World) : (zeroValue 4).run Try.prog w = .ok (.bool false) w := by kernel_rfl

theorem key_of {l : List UInt8} (hl : l.length ≤ maxLen) : keyOf Try.prog 9 (.string (strOf l)) = some (.string l) := by
  have h := WideMaps.keyOf_string_mk (P := Try.prog) (k := 9) Try.underlying9 (s := strOf l) (by rw [strOf_size]; exact hl)
  simpa [strOf] using h

theorem plainElem_bool_inv {v : Value} {z : DataW Unit × List MemPlace} (h : plainElem Try.prog 4 v = some z) : ∃ x, v = .bool x ∧ z = (.lit (.bool x), []) := by
  unfold plainElem at h
  rw [Try.underlying4] at h
  cases v <;> simp at h
  exact ⟨_, rfl, h.symm⟩

theorem atKey_fold (l : List UInt8) (z : DataW Unit) : ∀ (S : List (List UInt8)) (m : DataW Unit), IsMap m → ((keys S).foldl (fun m x => m.put x yes) m).atKey (.string l) z = if l ∈ S then yes else m.atKey (.string l) z
  | [], m, _ => by simp [keys]
  | x :: S, m, hm => by
    show ((keys S).foldl (fun m x => m.put x yes) (m.put (.string x) yes)).atKey (.string l) z = _
    rw [atKey_fold l z S (m.put (.string x) yes) (hm.put _ _)]
    by_cases e : l = x
    · subst e
      rw [atKey_put_same (k := .string l) hm (show WideAt.IsKeyLit (.string l) from trivial)]
      simp
    · rw [atKey_put_other (by simpa using e)]
      simp [e]

theorem atKey_keys (S : List (List UInt8)) (l : List UInt8) : (setOf yes (keys S)).atKey (.string l) (.lit (.bool false)) = .lit (.bool (S.contains l)) := by
  rw [setOf, atKey_fold l _ S _ isMap_empty]
  by_cases e : l ∈ S
  · simp [e, yes]
  · simp [e]
    rfl

theorem SetIs.made (w : World) : SetIs (w.alloc (.map #[] 0)) w.heap.size [] := World.ownsMap_made w _ _ _
theorem SetIs.look {w : World} {b : Nat} {S : List (List UInt8)} (h : SetIs w b S) {l : List UInt8} (hl : l.length ≤ maxLen) :
    (Instr.lookup 33 (.map (some b)) (.string (strOf l)) false).run Try.prog w = .ok (.bool (S.contains l)) w := by
  obtain ⟨v, ps, hrun, hv⟩ := World.ownsMap.lookup h law9 Try.underlying33 (zero4 w) (plainElem_bool Try.underlying4 false) (key_of hl)
  obtain ⟨x, rfl, hz⟩ := plainElem_bool_inv hv
  rw [atKey_keys] at hz
  simp at hz
  rw [hrun, ← hz.1]
  simp
theorem SetIs.put {w : World} {b : Nat} {S : List (List UInt8)} (h : SetIs w b S) {l : List UInt8} (hl : l.length ≤ maxLen) (hS : S.length < maxLen) :
    ∃ w', (Instr.mapUpdate 33 (.map (some b)) (.string (strOf l)) (.bool true)).run Try.prog w = .ok () w' ∧ SetIs w' b (S ++ [l]) ∧ w.grownBy w' (some b) := by
  obtain ⟨w', hrun, h1, h2⟩ := World.ownsMap.update h law9 Try.underlying33 hS (key_of hl) (plainElem_bool (H := Unit) Try.underlying4 true)
  refine ⟨w', hrun, ?_, h2⟩
  unfold SetIs
  rw [keys_snoc, setOf_snoc]
  simpa [yes] using h1
theorem SetIs.drewN {w : World} {b : Nat} {S : List (List UInt8)} (h : SetIs w b S) (n : Nat) : SetIs (w.drewN n) b S := h
theorem SetIs.kept {w w' : World} {b : Nat} {S : List (List UInt8)} {row : Option Nat} (h : SetIs w b S) (hg : w.grownBy w' row) (hne : some b ≠ row) : SetIs w' b S := World.ownsMap.kept h hg hne
theorem SetIs.alloc {w : World} {b : Nat} {S : List (List UInt8)} (h : SetIs w b S) (o : Obj) : SetIs (w.alloc o) b S := World.ownsMap.alloc h o
theorem SetIs.setCell {w : World} {b : Nat} {S : List (List UInt8)} (h : SetIs w b S) {a : Addr} (ha : b ≠ a.block) (u : Value) : SetIs (w.setCell a u) b S := World.ownsMap.setCell h ha u
theorem SetIs.isMap {w : World} {b : Nat} {S : List (List UInt8)} (h : SetIs w b S) : ∃ es clock, w.heap[b]? = some (.map es clock) := by
  obtain ⟨es, clock, hb, _⟩ := h
  exact ⟨es, clock, hb⟩
theorem SetIs.of_block {w w' : World} {b : Nat} {S : List (List UInt8)} (h : SetIs w b S) (e : w'.heap[b]? = w.heap[b]?) : SetIs w' b S := by
  obtain ⟨es, clock, hb, r⟩ := h
  exact ⟨es, clock, e.trans hb, r⟩
theorem SetIs.lt {w : World} {b : Nat} {S : List (List UInt8)} (h : SetIs w b S) : b < w.heap.size := World.ownsMap.lt h

/-! ### names to which the call itself appends -/
/-- THE VALUE v IS A SLICE OF THE NAMES ls IN A ROW OF THE CALL's OWN, from block M on; the names' bytes lie below M. -/
def OwnN (w : World) (M : Nat) (v : Value) (ls : List (List UInt8)) : Prop :=
  ∃ vs, w.ownsRow M 22 1 v ls.length vs ∧ ∀ i, i < ls.length → ∃ u, vs[i]? = some u ∧ NB w 0 M u (nameAt ls i)
/-- Names below M without room to spare, or in a row of the call's own from M on. -/
def Names (w : World) (M : Nat) (v : Value) (ls : List (List UInt8)) : Prop := Full w M v ls ∨ OwnN w M v ls

theorem Names.form {w : World} {M : Nat} {v : Value} {ls : List (List UInt8)} (h : Names w M v ls) : ∃ a c, v = .slice a ls.length c ∧ ls.length ≤ c := by
  rcases h with ⟨a, e, _⟩ | ⟨vs, hr, _⟩
  · exact ⟨a, _, e, Nat.le_refl _⟩
  · rcases hr.2 with ⟨e, h0⟩ | ⟨g, cap, cur, e, _, _, hn, _⟩
    · exact ⟨_, _, by rw [e, h0], by rw [h0]; exact Nat.le_refl _⟩
    · exact ⟨_, _, e, hn⟩

/-- Read one name. -/
theorem Names.get {w : World} {M : Nat} {v : Value} {ls : List (List UInt8)} (h : Names w M v ls) (hl : 0 < ls.length) :
    ∃ b o c, v = .slice (some ⟨b, o, none⟩) ls.length c ∧ ls.length ≤ c ∧ ∀ i, i < ls.length → ∃ u, w.cell? ⟨b, o + i, none⟩ = some u ∧ NB w 0 M u (nameAt ls i) := by
  rcases h with ⟨a, e, hc⟩ | ⟨vs, hr, hv⟩
  · obtain ⟨b, o, rfl, _, hc⟩ := hc hl
    exact ⟨b, o, _, e, Nat.le_refl _, hc⟩
  · rcases hr.2 with ⟨_, h0⟩ | ⟨g, cap, cur, e, _, _, hn, _⟩
    · omega
    · refine ⟨g, 0, cap, e, hn, fun i hi => ?_⟩
      obtain ⟨u, hu, hnb⟩ := hv i hi
      subst e
      exact ⟨u, by rw [Nat.zero_add, hr.cellAt i (by omega)]; exact hu, hnb⟩

/-- Other blocks than rows of slices are as they were. -/
def Beside (w w' : World) : Prop := ∀ k, k < w.heap.size → (∀ cs, w.heap[k]? ≠ some (.cells cs 22 (0, 0))) → w'.heap[k]? = w.heap[k]?

theorem nameAt_lo {ls : List (List UInt8)} {l : List UInt8} {i : Nat} (h : i < ls.length) : nameAt (ls ++ [l]) i = nameAt ls i := by
  simp [nameAt, List.getElem?_append, h]
theorem nameAt_hi {ls : List (List UInt8)} {l : List UInt8} : nameAt (ls ++ [l]) ls.length = l := by simp [nameAt]

theorem own_of {w' : World} {M : Nat} {v' : Value} {ls : List (List UInt8)} {l : List UInt8} {vs : List Value} {u : Value} (hl : vs.length = ls.length) (hr : w'.ownsRow M 22 1 v' (ls.length + 1) (vs ++ [u]))
    (hv : ∀ i, i < ls.length → ∃ u, vs[i]? = some u ∧ NB w' 0 M u (nameAt ls i)) (hu : NB w' 0 M u l) : OwnN w' M v' (ls ++ [l]) := by
  refine ⟨vs ++ [u], by simpa using hr, fun i hi => ?_⟩
  by_cases h : i < ls.length
  · obtain ⟨x, hx, hn⟩ := hv i h
    refine ⟨x, ?_, by rw [nameAt_lo h]; exact hn⟩
    rw [List.getElem?_append_left (by omega)]
    exact hx
  · obtain rfl : i = ls.length := by simp at hi; omega
    refine ⟨u, ?_, by rw [nameAt_hi]; exact hu⟩
    rw [← hl]
    simp

/-- 'append(names, name)'. -/
theorem Names.append {w : World} {M : Nat} {v : Value} {ls : List (List UInt8)} (h : Names w M v ls) (hM : M ≤ w.heap.size) (hls : ls.length ≤ 100000) {ad : Addr} {c : Nat} {u : Value} {l : List UInt8} (hcell : w.cell? ad = some u) (hu : NB w 0 M u l) (ty : TypeId) :
    ∃ v' w', (Builtin.append_ #[29, 29] ty #[v, .slice (some ad) 1 c]).run Try.prog w = .ok v' w' ∧ OwnN w' M v' (ls ++ [l]) ∧ Below M w w' ∧ Beside w w' := by
  obtain ⟨i, hi, hz0, hz1, hz2⟩ := info_parts Try.info22
  have hnews : ∀ j x, [u][j]? = some x → w.cell? (ad.add j) = some x := by
    intro j x hx
    match j, hx with
    | 0, hx => simp at hx; subst hx; rw [Addr.add_zero']; exact hcell
  have hone : ∀ x ∈ [u], x.oneCell' = true := by
    intro x hx
    obtain rfl : x = u := by simpa using hx
    obtain ⟨p, cp, rfl⟩ := hu.form
    rfl
  rcases h with ⟨a, rfl, hc⟩ | ⟨vs, hr, hv⟩
  · cases a with
    | none =>
      obtain rfl : ls = [] := List.eq_nil_of_length_eq_zero (by
        rcases Nat.eq_zero_or_pos ls.length with h | h
        · exact h
        · obtain ⟨b, o, e, _⟩ := hc h; cases e)
      obtain ⟨v', w', hrun, r1, r2, _⟩ := run_append_own (P := Try.prog) w M 29 ty 22 i (.slice none 0 0) 1 24 Try.underlying29 hi hz0 hz1 hz2 rfl (by decide) (.slice none 0 0) 0 [] (World.ownsRow_nil w _ 22 1) ad 1 c [u] rfl hnews hone (by decide +kernel) (by decide) hM
      have hb : Below M w w' := (Below.refl M w).grown r2 hM (by simp [Value.ownBlock])
      exact ⟨v', w', hrun, own_of (ls := []) (vs := []) rfl (by simpa using r1) (fun i hi => absurd hi (by simp)) (hu.below hb), hb, fun k hk _ => r2.block k hk (by simp [Value.ownBlock])⟩
    | some a =>
      have hvs : ∃ vs : List Value, vs.length = ls.length ∧ (∀ j x, vs[j]? = some x → w.cell? (a.add j) = some x) ∧ ∀ i, i < ls.length → ∃ x, vs[i]? = some x ∧ NB w 0 M x (nameAt ls i) := by
        by_cases hl : 0 < ls.length
        · obtain ⟨b, o, e, _, hc2⟩ := hc hl
          obtain rfl := Option.some.inj e
          refine ⟨(List.range ls.length).map fun j => (w.cell? ⟨b, o + j, none⟩).getD undef, by simp, fun j x hx => ?_, fun i hi => ?_⟩
          · have hj : j < ls.length := by simpa using (List.getElem?_eq_some_iff.1 hx).1
            obtain ⟨y, hy, _⟩ := hc2 j hj
            simp [hj, hy] at hx
            subst hx
            rw [Addr.add_lit]
            exact hy
          · obtain ⟨y, hy, hn⟩ := hc2 i hi
            exact ⟨y, by simp [hi, hy], hn⟩
        · obtain rfl : ls = [] := List.eq_nil_of_length_eq_zero (by omega)
          exact ⟨[], rfl, fun j x hx => by simp at hx, fun i hi => absurd hi (by simp)⟩
      obtain ⟨vs, hvl, hvc, hvn⟩ := hvs
      obtain ⟨v', w', hrun, r1, r2⟩ := run_append_arg_grows (P := Try.prog) w 29 ty 22 i (.slice none 0 0) 1 24 Try.underlying29 hi hz0 hz1 hz2 rfl (by decide) a ls.length ls.length vs (by omega) hvc ad 1 c [u] rfl hnews (by omega) (by unfold maxLen; omega) (by omega)
      have hb : Below M w w' := (Below.refl M w).grown r2 hM (by simp)
      refine ⟨v', w', hrun, own_of hvl ?_ (fun i hi => ?_) (hu.below hb), hb, fun k hk _ => r2.block k hk (by simp)⟩
      · refine ⟨r1.1, ?_⟩
        rcases r1.2 with h | ⟨g, cap, cur, h1, h2, h3⟩
        · exact .inl h
        · exact .inr ⟨g, cap, cur, h1, by omega, h3⟩
      · obtain ⟨x, hx, hn⟩ := hvn i hi
        exact ⟨x, hx, hn.below hb⟩
  · obtain ⟨v', w', hrun, r1, r2, _⟩ := run_append_own (P := Try.prog) w M 29 ty 22 i (.slice none 0 0) 1 24 Try.underlying29 hi hz0 hz1 hz2 rfl (by decide) v ls.length vs hr ad 1 c [u] rfl hnews hone (by unfold maxLen; omega) (by omega) hM
    have hb : Below M w w' := (Below.refl M w).grown r2 hM (fun k hk => (hr.lt k hk).1)
    refine ⟨v', w', hrun, own_of (by have := hr.1; omega) r1 (fun i hi => ?_) (hu.below hb), hb, fun k hk hne => r2.block k hk ?_⟩
    · obtain ⟨x, hx, hn⟩ := hv i hi
      exact ⟨x, hx, hn.below hb⟩
    · rcases hr.2 with ⟨rfl, _⟩ | ⟨g, cap, cur, rfl, _, hg, _⟩
      · simp [Value.ownBlock]
      · intro e
        simp [Value.ownBlock] at e
        subst e
        exact hne cur hg
end Go.Proofs.Qxb6618255a
