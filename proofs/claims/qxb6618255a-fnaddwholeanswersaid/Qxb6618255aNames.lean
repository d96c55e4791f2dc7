/-
  NAMES IN MEMORY: a []byte that holds the bytes l, a [][]byte that holds the names ls; bytes.Equal and eqBytes over them.
-/
import Derived.Test.Qxb6618255aSkips
import Derived.Laws.BytesArg
namespace Go.Proofs.Qxb6618255a
open Go.RowKit

/-- Byte i of l, as a number. -/
def byteAt (l : List UInt8) (i : Nat) : Int := ((l.getD i 0).toNat : Int)
theorem eq_of_byteAt {l k : List UInt8} (hl : l.length = k.length) (h : ∀ i, i < l.length → byteAt l i = byteAt k i) : l = k := by
  apply List.ext_getElem hl
  intro i h1 h2
  have e := h i h1
  simp only [byteAt, List.getD, List.getElem?_eq_getElem h1, List.getElem?_eq_getElem h2, Option.getD_some] at e
  exact UInt8.toNat_inj.1 (by omega)
theorem beq_of_lens {l k : List UInt8} (hl : ¬ l.length = k.length) : (l == k) = false := by
  rw [beq_eq_false_iff_ne]; intro e; exact hl (by rw [e])
theorem beq_of_byte {l k : List UInt8} {i : Nat} (h : ¬ byteAt l i = byteAt k i) : (l == k) = false := by
  rw [beq_eq_false_iff_ne]; intro e; exact h (by rw [e])

/-- THE VALUE v IS A SLICE OF THE BYTES l, which lie from block L on, below block M. -/
def NB (w : World) (L M : Nat) (v : Value) (l : List UInt8) : Prop :=
  ∃ p cap, v = .slice p l.length cap ∧ (0 < l.length → ∃ b o, p = some ⟨b, o, none⟩ ∧ L ≤ b ∧ b < M ∧ ∀ i, i < l.length → w.cell? ⟨b, o + i, none⟩ = some (.int .u8 (byteAt l i)))

theorem NB.below {w w' : World} {L M : Nat} {v : Value} {l : List UInt8} (h : NB w L M v l) (hb : Below M w w') : NB w' L M v l := by
  obtain ⟨p, cap, e, hc⟩ := h
  refine ⟨p, cap, e, fun hl => ?_⟩
  obtain ⟨b, o, e2, hL, hM, hc⟩ := hc hl
  exact ⟨b, o, e2, hL, hM, fun i hi => (hb.cell (p := ⟨b, o + i, none⟩) hM).trans (hc i hi)⟩
theorem NB.mono {w : World} {L L' M M' : Nat} {v : Value} {l : List UInt8} (h : NB w L M v l) (hL : L' ≤ L) (hM : M ≤ M') : NB w L' M' v l := by
  obtain ⟨p, cap, e, hc⟩ := h
  refine ⟨p, cap, e, fun hl => ?_⟩
  obtain ⟨b, o, e2, h1, h2, hc⟩ := hc hl
  exact ⟨b, o, e2, by omega, by omega, hc⟩
theorem NB.drewN {w : World} {L M : Nat} {v : Value} {l : List UInt8} (h : NB w L M v l) (n : Nat) : NB (w.drewN n) L M v l := h
theorem NB.setCell {w : World} {L M : Nat} {v : Value} {l : List UInt8} (h : NB w L M v l) {a : Addr} (ha : a.block < L) (u : Value) : NB (w.setCell a u) L M v l := by
  obtain ⟨p, cap, e, hc⟩ := h
  refine ⟨p, cap, e, fun hl => ?_⟩
  obtain ⟨b, o, e2, h1, h2, hc⟩ := hc hl
  refine ⟨b, o, e2, h1, h2, fun i hi => ?_⟩
  rw [World.cell?_setCell_other _ _ _ _ (fun e => by rw [e] at ha; simp at ha; omega)]
  exact hc i hi
theorem NB.form {w : World} {L M : Nat} {v : Value} {l : List UInt8} (h : NB w L M v l) : ∃ p cap, v = .slice p l.length cap := by
  obtain ⟨p, cap, e, _⟩ := h
  exact ⟨p, cap, e⟩
theorem NB.nil (w : World) (L M cap : Nat) (p : Option Addr) : NB w L M (.slice p 0 cap) [] := ⟨p, cap, rfl, fun h => absurd h (by simp)⟩

/-- The string of these bytes. -/
def strOf (l : List UInt8) : ByteArray := ⟨l.toArray⟩
theorem strOf_size (l : List UInt8) : (strOf l).size = l.length := by simp [strOf, ByteArray.size]

theorem strOfNums_bytes (l : List UInt8) : strOfNums (l.map fun x => (x.toNat : Int)) = strOf l := by
  unfold strOfNums strOf
  congr 1
  rw [List.map_map]
  congr 1
  conv => rhs; rw [← List.map_id l]
  apply List.map_congr_left
  intro x _
  simp

/-- 'string(b)'. -/
theorem NB.convert {w : World} {L M : Nat} {v : Value} {l : List UInt8} (h : NB w L M v l) : (convert 22 9 v).run Try.prog w = .ok (.string (strOf l)) w := by
  obtain ⟨p, cap, rfl, hc⟩ := h
  by_cases hl : 0 < l.length
  · obtain ⟨b, o, rfl, _, _, hc⟩ := hc hl
    rw [run_convert_bytes_arg (P := Try.prog) w 22 5 Try.underlying22 Try.underlying5 b o l.length cap (l.map fun x => (x.toNat : Int)) (by simp) ?_ 9 Try.underlying9, strOfNums_bytes]
    intro i hi
    rw [hc i hi]
    simp [byteAt, List.getD, hi]
  · obtain rfl : l = [] := List.eq_nil_of_length_eq_zero (by omega)
    rw [run_convert_bytes_string w 22 9 5 _ _ cap Try.underlying22 Try.underlying5 Try.underlying9]
    cases p <;> simp [Conv.bytesToString, loadCells]
    all_goals rfl

theorem bytesEqual_any (w : World) (L M L' M' : Nat) (v u : Value) (l k : List UInt8) (hv : NB w L M v l) (hu : NB w L' M' u k) :
    Calls Try.prog 24 #[v, u] w fun e w' => e = .returned (.bool (l == k)) ∧ w' = w := by
  have c1 := hv.convert
  have c2 := hu.convert
  go_enter Try.func24, Try.ntmps24
  go_wp2
  go_ret
  refine ⟨?_, rfl⟩
  simp [ByteArray.toList_eq, strOf]

set_option maxHeartbeats 400000 in
theorem eqBytes_any (w : World) (L M L' M' : Nat) (v u : Value) (l k : List UInt8) (hv : NB w L M v l) (hu : NB w L' M' u k) (hL : l.length ≤ 1048576) :
    Calls Try.prog 18 #[v, u] w fun e w' => e = .returned (.bool (l == k)) ∧ ∃ n, w' = w.drewN n := by
  obtain ⟨p, c1, rfl, hv⟩ := hv
  obtain ⟨q, c2, rfl, hu⟩ := hu
  by_cases hlen : l.length = k.length
  · have Hlen : Hid (l.length = k.length) := hlen
    have ne : ((l.length : Int) != (k.length : Int)) = false := by simp; omega
    generalize hn : l.length = n at *
    generalize hm : k.length = m at *
    by_cases h0 : 0 < n
    · obtain ⟨b1, o1, rfl, _, _, hv⟩ := hv h0
      obtain ⟨b2, o2, rfl, _, _, hu⟩ := hu (by omega)
      have Hn : Hid (l.length = n) := hn
      have Hm : Hid (k.length = m) := hm
      have hnm : n ≤ m := by omega
      clear hn hm hlen
      go_enter Try.func18, Try.ntmps18
      go_wp2_with fail
      go_loopw [5] (fun i wr => ∃ j nq : Nat, j ≤ n ∧ (∀ x, x < j → byteAt l x = byteAt k x) ∧ i = .int .i64 j ∧ wr = w.drewN nq) (fun i _ => n - (intOf i).toNat)
      case atStart => exact ⟨0, 0, by omega, fun x h => absurd h (by omega), rfl, rfl⟩
      case round =>
        obtain ⟨j, nq, hj, hx, rfl, rfl⟩ := hrel
        by_cases hjn : j < n
        · have d1 := hv j hjn
          have d2 := hu j (by omega)
          have i0 : (0 : Int) ≤ (j : Int) := by omega
          have i1 : (j : Int) < (n : Int) := by omega
          have i2 : (j : Int) < (m : Int) := by omega
          clear hv hu
          by_cases he : byteAt l j = byteAt k j
          · have he' : (byteAt l j != byteAt k j) = false := by simp [he]
            have HE : Hid (byteAt l j = byteAt k j) := he
            clear he
            go_wp2_with fail
            go_quiet (fail)
            go_wp2_with fail
            go_roundw
            case rel => exact ⟨j + 1, _, by omega, fun x hx' => (if e : x = j then e ▸ HE.out else hx x (by omega)), by go_num, rfl⟩
            case measure => simp [intOf]; omega
          · have he' : (byteAt l j != byteAt k j) = true := by simp [he]
            have hfin := beq_of_byte he
            clear he
            go_wp2_with fail
            go_quiet (fail)
            go_wp2_with fail
            go_ret
            exact ⟨by rw [hfin]; rfl, _, by simp only [World.drewN_drewN]; rfl⟩
        · have hfin : (l == k) = true := by
            rw [eq_of_byteAt (by rw [Hn.out, Hm.out, Hlen.out]) (fun i hi => hx i (by rw [Hn.out] at hi; omega))]
            simp
          go_wp2_with fail
          go_ret
          exact ⟨by rw [hfin]; rfl, _, rfl⟩
    · obtain rfl : l = [] := List.eq_nil_of_length_eq_zero (by omega)
      obtain rfl : k = [] := List.eq_nil_of_length_eq_zero (by omega)
      obtain rfl : n = 0 := by omega
      obtain rfl : m = 0 := by omega
      clear hv hu
      go_enter Try.func18, Try.ntmps18
      go_wp2_with fail
      refine wp_loop_rounds 1 ?_
      rw [rounds_succ]
      go_wp2_with fail
      go_ret
      exact ⟨rfl, 0, rfl⟩
  · have ne : ((l.length : Int) != (k.length : Int)) = true := by simp; omega
    have hfin := beq_of_lens hlen
    clear hv hu hlen
    go_enter Try.func18, Try.ntmps18
    go_wp2_with fail
    go_ret
    exact ⟨by rw [hfin]; rfl, 0, rfl⟩

/-! ### cloneBytes -/
theorem Part.nb {w : World} {g : Nat} {l : List UInt8} (h : Part w g l.length l.length (byteAt l)) : NB w g w.heap.size (.slice (some ⟨g, 0, none⟩) l.length l.length) l := by
  refine ⟨_, _, rfl, fun hl => ?_⟩
  rcases h.holds with h | ⟨b, o, e, hb, hc⟩
  · omega
  · obtain ⟨rfl, rfl⟩ : g = b ∧ 0 = o := by simpa using e
    exact ⟨g, 0, rfl, Nat.le_refl _, hb, hc⟩

set_option maxHeartbeats 400000 in
theorem cloneBytes_any (w : World) (L M : Nat) (v : Value) (l : List UInt8) (hv : NB w L M v l) (hM : M ≤ w.heap.size) (hL : l.length ≤ 1048576) :
    Calls Try.prog 13 #[v] w fun e w' => ∃ u, e = .returned u ∧ NB w' w.heap.size w'.heap.size u l ∧ Below w.heap.size w w' := by
  obtain ⟨p, cap, rfl, hv⟩ := hv
  have hnil := fun (w : World) (a : Option Addr) (n c : Nat) => Lib.run_eql_slice_nil (P := Try.prog) w 22 5 a n c 0 0 Try.underlying22
  cases p with
  | none =>
    obtain rfl : l = [] := List.eq_nil_of_length_eq_zero (by
      rcases Nat.eq_zero_or_pos l.length with h | h
      · exact h
      · obtain ⟨b, o, e, _⟩ := hv h; cases e)
    clear hv
    go_enter Try.func13, Try.ntmps13
    go_wp2
    go_ret
    exact ⟨_, rfl, NB.nil _ _ _ _ _, Below.refl _ _⟩
  | some a =>
    have hmk := run_make_row' (P := Try.prog) 22 5 (.int .u8 0) 1 Try.underlying22 Try.info5 rfl .i64 .i64 l.length (by omega) (by omega)
    have hP0 := Part.start w l.length (byteAt l)
    have hB0 := (Below.refl w.heap.size w).alloc (Nat.le_refl _) (.cells (madeCells #[.int .u8 0] l.length) 5)
    generalize hn : l.length = n at *
    generalize hg : w.heap.size = g at *
    have Hn : Hid (l.length = n) := hn
    clear hn
    go_enter Try.func13, Try.ntmps13
    go_wp2
    go_loopw [4] (fun i wr => ∃ t : Nat, t ≤ n ∧ i = .int .i64 t ∧ Part wr g n t (byteAt l) ∧ Below g w wr) (fun i _ => n - (intOf i).toNat)
    case atStart => exact ⟨0, by omega, rfl, hP0, hB0⟩
    clear hP0 hB0 hmk hnil
    case round =>
      obtain ⟨t, ht, rfl, hP, hBl⟩ := hrel
      by_cases htn : t < n
      · obtain ⟨b, o, e, _, hbM, hc⟩ := hv (by omega)
        obtain rfl := Option.some.inj e
        have ca := (hBl.cell (p := ⟨b, o + t, none⟩) (show b < g by omega)).trans (hc t htn)
        obtain ⟨⟨v0, cv⟩, fv⟩ := hP.slot htn
        clear hc hv e
        go_wp2_with fail
        go_roundw
        case rel => exact ⟨t + 1, by omega, by go_num, hP.step rfl, hBl.setCell (Nat.le_refl _) _⟩
        case measure => simp [intOf]; omega
      · obtain rfl : n = t := by omega
        go_wp2_with fail
        go_ret
        refine ⟨_, rfl, ?_, hBl⟩
        have := Hn.out
        subst this
        exact hP.nb

/-! ### cloneNames -/
/-- Name i of ls. -/
def nameAt (ls : List (List UInt8)) (i : Nat) : List UInt8 := ls.getD i []

/-- THE VALUE v IS A SLICE OF THE NAMES ls, all of which, and their bytes, lie below block M. -/
def NBs (w : World) (M : Nat) (v : Value) (ls : List (List UInt8)) : Prop :=
  ∃ a c, v = .slice a ls.length c ∧ (0 < ls.length → ∃ b o, a = some ⟨b, o, none⟩ ∧ b < M ∧ ∀ i, i < ls.length → ∃ u, w.cell? ⟨b, o + i, none⟩ = some u ∧ NB w 0 M u (nameAt ls i))
/-- .. with no room to spare. -/
def Full (w : World) (M : Nat) (v : Value) (ls : List (List UInt8)) : Prop :=
  ∃ a, v = .slice a ls.length ls.length ∧ (0 < ls.length → ∃ b o, a = some ⟨b, o, none⟩ ∧ b < M ∧ ∀ i, i < ls.length → ∃ u, w.cell? ⟨b, o + i, none⟩ = some u ∧ NB w 0 M u (nameAt ls i))

theorem NBs.below {w w' : World} {M : Nat} {v : Value} {ls : List (List UInt8)} (h : NBs w M v ls) (hb : Below M w w') : NBs w' M v ls := by
  obtain ⟨a, c, e, hc⟩ := h
  refine ⟨a, c, e, fun hl => ?_⟩
  obtain ⟨b, o, e2, hM, hc⟩ := hc hl
  refine ⟨b, o, e2, hM, fun i hi => ?_⟩
  obtain ⟨u, hu, hn⟩ := hc i hi
  exact ⟨u, (hb.cell (p := ⟨b, o + i, none⟩) hM).trans hu, hn.below hb⟩
theorem Full.below {w w' : World} {M : Nat} {v : Value} {ls : List (List UInt8)} (h : Full w M v ls) (hb : Below M w w') : Full w' M v ls := by
  obtain ⟨a, e, hc⟩ := h
  refine ⟨a, e, fun hl => ?_⟩
  obtain ⟨b, o, e2, hM, hc⟩ := hc hl
  refine ⟨b, o, e2, hM, fun i hi => ?_⟩
  obtain ⟨u, hu, hn⟩ := hc i hi
  exact ⟨u, (hb.cell (p := ⟨b, o + i, none⟩) hM).trans hu, hn.below hb⟩
theorem Full.mono {w : World} {M M' : Nat} {v : Value} {ls : List (List UInt8)} (h : Full w M v ls) (hM : M ≤ M') : Full w M' v ls := by
  obtain ⟨a, e, hc⟩ := h
  refine ⟨a, e, fun hl => ?_⟩
  obtain ⟨b, o, e2, hb, hc⟩ := hc hl
  refine ⟨b, o, e2, by omega, fun i hi => ?_⟩
  obtain ⟨u, hu, hn⟩ := hc i hi
  exact ⟨u, hu, hn.mono (Nat.le_refl _) hM⟩
theorem Full.nbs {w : World} {M : Nat} {v : Value} {ls : List (List UInt8)} (h : Full w M v ls) : NBs w M v ls := by
  obtain ⟨a, e, hc⟩ := h
  exact ⟨a, _, e, hc⟩

/-- Block g is a row of n slices of the call's own; its first t hold the first names of ls, whose bytes lie behind g. -/
def PartN (w : World) (g n t : Nat) (ls : List (List UInt8)) : Prop := ∃ V : Nat → Value, w.rowIs g 22 n V ∧ ∀ i, i < t → NB w (g + 1) w.heap.size (V i) (nameAt ls i)
theorem PartN.start (w : World) (n : Nat) (ls : List (List UInt8)) : PartN (w.alloc (.cells (madeCells #[.slice none 0 0] n) 22)) w.heap.size n 0 ls :=
  ⟨fun _ => .slice none 0 0, World.rowIs_made w _ n 22, fun x h => absurd h (by omega)⟩
theorem PartN.below {w w' : World} {g n t : Nat} {ls : List (List UInt8)} (h : PartN w g n t ls) (hb : Below w.heap.size w w') : PartN w' g n t ls := by
  obtain ⟨V, hr, hV⟩ := h
  exact ⟨V, hr.of_block (hb.block g hr.lt), fun i hi => ((hV i hi).below hb).mono (Nat.le_refl _) hb.size⟩
theorem PartN.lt {w : World} {g n t : Nat} {ls : List (List UInt8)} (h : PartN w g n t ls) : g < w.heap.size := by
  obtain ⟨V, hr, hV⟩ := h
  exact hr.lt
theorem PartN.slot {w : World} {g n t : Nat} {ls : List (List UInt8)} (h : PartN w g n t ls) {i : Nat} (hi : i < n) : (∃ v, w.cell? ⟨g, i, none⟩ = some v) ∧ w.frozen? ⟨g, i, none⟩ = false := by
  obtain ⟨V, hr, _⟩ := h
  exact ⟨⟨V i, hr.cell hi⟩, hr.frozen i⟩
theorem PartN.step {w : World} {g n t : Nat} {ls : List (List UInt8)} (h : PartN w g n t ls) {v : Value} (hv : NB w (g + 1) w.heap.size v (nameAt ls t)) : PartN (w.setCell ⟨g, t, none⟩ v) g n (t + 1) ls := by
  obtain ⟨V, hr, hV⟩ := h
  refine ⟨fun x => if x = t then v else V x, hr.set t v, fun i hi => ?_⟩
  have hs : (w.setCell ⟨g, t, none⟩ v).heap.size = w.heap.size := by simp
  rw [hs]
  by_cases e : i = t
  · subst e
    simp only [if_true]
    exact hv.setCell (Nat.lt_succ_self _) _
  · simp only [e, if_false]
    exact (hV i (by omega)).setCell (Nat.lt_succ_self _) _
theorem PartN.full {w : World} {g : Nat} {ls : List (List UInt8)} (h : PartN w g ls.length ls.length ls) : Full w w.heap.size (.slice (some ⟨g, 0, none⟩) ls.length ls.length) ls := by
  obtain ⟨V, hr, hV⟩ := h
  refine ⟨_, rfl, fun _ => ⟨g, 0, rfl, hr.lt, fun i hi => ⟨V i, ?_, (hV i hi).mono (Nat.zero_le _) (Nat.le_refl _)⟩⟩⟩
  rw [Nat.zero_add]
  exact hr.cell hi

theorem Try.info22 : (Try.prog.info? 22).map (fun i => (i.zero, i.size, i.bytes)) = some (some (.slice none 0 0), 1, 24) := by kernel_rfl

/-- All names are short. -/
def Short (ls : List (List UInt8)) : Prop := ∀ i, (nameAt ls i).length ≤ 1048576

set_option maxHeartbeats 400000 in
theorem cloneNames_any (w : World) (M : Nat) (v : Value) (ls : List (List UInt8)) (hv : NBs w M v ls) (hM : M ≤ w.heap.size) (hL : ls.length ≤ 1048576) (hS : Short ls) :
    Calls Try.prog 12 #[v] w fun e w' => ∃ u, e = .returned u ∧ Full w' w'.heap.size u ls ∧ Below w.heap.size w w' := by
  obtain ⟨p, cap, rfl, hv⟩ := hv
  have hnil := fun (w : World) (a : Option Addr) (n c : Nat) => Lib.run_eql_slice_nil (P := Try.prog) w 29 22 a n c 0 0 Try.underlying29
  cases p with
  | none =>
    obtain rfl : ls = [] := List.eq_nil_of_length_eq_zero (by
      rcases Nat.eq_zero_or_pos ls.length with h | h
      · exact h
      · obtain ⟨b, o, e, _⟩ := hv h; cases e)
    clear hv
    go_enter Try.func12, Try.ntmps12
    go_wp2
    go_ret
    exact ⟨_, rfl, ⟨_, rfl, fun h => absurd h (by simp)⟩, Below.refl _ _⟩
  | some a =>
    have hmk := run_make_row' (P := Try.prog) 29 22 (.slice none 0 0) 24 Try.underlying29 Try.info22 rfl .i64 .i64 ls.length (by omega) (by omega)
    have hP0 := PartN.start w ls.length ls
    have hB0 := (Below.refl w.heap.size w).alloc (Nat.le_refl _) (.cells (madeCells #[.slice none 0 0] ls.length) 22)
    generalize hn : ls.length = n at *
    generalize hg : w.heap.size = g at *
    have Hn : Hid (ls.length = n) := hn
    clear hn
    go_enter Try.func12, Try.ntmps12
    go_wp2_with fail
    go_loopw [4] (fun i wr => ∃ t : Nat, t ≤ n ∧ i = .int .i64 t ∧ PartN wr g n t ls ∧ Below g w wr) (fun i _ => n - (intOf i).toNat)
    case atStart => exact ⟨0, by omega, rfl, hP0, hB0⟩
    clear hP0 hB0 hmk hnil
    case round =>
      obtain ⟨t, ht, rfl, hP, hBl⟩ := hrel
      by_cases htn : t < n
      · obtain ⟨b, o, e, hbM, hc⟩ := hv (by omega)
        obtain rfl := Option.some.inj e
        obtain ⟨u, hu, hnb⟩ := hc t htn
        have ca := (hBl.cell (p := ⟨b, o + t, none⟩) (show b < g by omega)).trans hu
        have hnb' := hnb.below (hBl.mono hM)
        have hsz := hBl.size
        rw [hg] at hsz
        clear hc hv e hu hnb
        go_wp2_with fail
        refine (cloneBytes_any _ _ _ _ _ hnb' (by omega) (hS t)).mono ?_
        rintro e w1 ⟨u1, rfl, hu1, hb1⟩
        have hP1 := hP.below hb1
        have hlt := hP.lt
        have hB1 := belowChain hBl (by omega) hb1
        obtain ⟨⟨v0, cv⟩, fv⟩ := hP1.slot htn
        have hu2 := hu1.mono (L' := g + 1) hlt (Nat.le_refl _)
        obtain ⟨p1, c1, rfl⟩ := hu1.form
        clear hP hBl hnb' ca hu1
        go_wp2_with fail
        go_roundw
        case rel => exact ⟨t + 1, by omega, by go_num, hP1.step hu2, hB1.setCell (Nat.le_refl _) _⟩
        case measure => simp [intOf]; omega
      · obtain rfl : n = t := by omega
        go_wp2_with fail
        go_ret
        refine ⟨_, rfl, ?_, hBl⟩
        have := Hn.out
        subst this
        exact hP.full
end Go.Proofs.Qxb6618255a
