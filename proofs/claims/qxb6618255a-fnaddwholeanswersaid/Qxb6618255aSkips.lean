/-
  FnNextSkipsInsertedWhiteSpace, walked; its plain law.
-/
import Derived.Test.Qxb6618255aLands
namespace Go.Proofs.Qxb6618255a
open Go.RowKit

/-! ### The plain law -/
/-- f with m bytes of h put in at p. -/
def ins (f h : Nat → Int) (p m x : Nat) : Int := if x < p then f x else if x < p + m then h (x - p) else f (x - m)
theorem ins_lo {f h : Nat → Int} {p m x : Nat} (hx : x < p) : ins f h p m x = f x := by simp [ins, hx]
theorem ins_mid {f h : Nat → Int} {p m t : Nat} (ht : t < m) : ins f h p m (p + t) = h t := by
  unfold ins; rw [if_neg (by omega), if_pos (by omega)]; congr 1; omega
theorem ins_hi {f h : Nat → Int} {p m t : Nat} (ht : p ≤ t) : ins f h p m (t + m) = f t := by
  unfold ins; rw [if_neg (by omega), if_neg (by omega)]; congr 1; omega

theorem Lands.ins {f h : Nat → Int} {n p m q : Nat} (hl : Lands f n p q) (hs : ∀ x, x < m → spB (h x) = true) : Lands (ins f h p m) (n + m) p (q + m) := by
  obtain ⟨a1, a2, a3, a4⟩ := hl
  refine ⟨by omega, by omega, fun i x y => ?_, fun x => ?_⟩
  · by_cases e : i < p + m
    · rw [show i = p + (i - p) by omega, ins_mid (by omega)]
      exact hs _ (by omega)
    · rw [show i = (i - m) + m by omega, ins_hi (by omega)]
      exact a3 _ (by omega) (by omega)
  · rw [ins_hi a1]
    exact a4 (by omega)
theorem tok_ins {f h : Nat → Int} {n p m q : Nat} (hl : Lands f n p q) : tok (ins f h p m) (n + m) (q + m) = tok f n q := by
  by_cases e : q < n
  · rw [tok_in e, tok_in (by omega), ins_hi hl.1]
  · rw [tok_end e, tok_end (by omega)]
theorem Lands.stay {f : Nat → Int} {n p q : Nat} (hl : Lands f n p q) : Lands f n q q := ⟨Nat.le_refl _, hl.2.1, fun i a b => absurd a (by omega), hl.2.2.2⟩

/-! ### A row that is being filled -/
/-- Block g is a row of N bytes of the call's own; its first t bytes are J's. -/
def Part (w : World) (g N t : Nat) (J : Nat → Int) : Prop := ∃ F : Nat → Int, w.rowIs g 5 N (fun x => .int .u8 (F x)) ∧ ∀ x, x < t → F x = J x
theorem Part.start (w : World) (N : Nat) (J : Nat → Int) : Part (w.alloc (.cells (madeCells #[.int .u8 0] N) 5)) w.heap.size N 0 J :=
  ⟨fun _ => 0, World.rowIs_made w _ N 5, fun x h => absurd h (by omega)⟩
theorem Part.slot {w : World} {g N t : Nat} {J : Nat → Int} (h : Part w g N t J) {i : Nat} (hi : i < N) : (∃ v, w.cell? ⟨g, i, none⟩ = some (.int .u8 v)) ∧ w.frozen? ⟨g, i, none⟩ = false := by
  obtain ⟨F, hr, _⟩ := h
  exact ⟨⟨F i, hr.cell hi⟩, hr.frozen i⟩
theorem Part.step {w : World} {g N t : Nat} {J : Nat → Int} (h : Part w g N t J) {v : Int} (hv : v = J t) : Part (w.setCell ⟨g, t, none⟩ (.int .u8 v)) g N (t + 1) J := by
  obtain ⟨F, hr, hF⟩ := h
  refine ⟨fun x => if x = t then v else F x, (hr.set t (.int .u8 v)).congr fun i _ => ?_, fun x hx => ?_⟩
  · show (if i = t then Value.int .u8 v else Value.int .u8 (F i)) = Value.int .u8 (if i = t then v else F i)
    split <;> rfl
  · by_cases e : x = t
    · subst e; simp [hv]
    · simp only [e, if_false]; exact hF x (by omega)
theorem Part.holds {w : World} {g N : Nat} {J : Nat → Int} (h : Part w g N N J) : Holds w (some ⟨g, 0, none⟩) N J := by
  obtain ⟨F, hr, hF⟩ := h
  refine .inr ⟨g, 0, rfl, hr.lt, fun i hi => ?_⟩
  rw [Nat.zero_add, hr.cell hi, hF i hi]
theorem Holds.at {w : World} {a : Option Addr} {n : Nat} {f : Nat → Int} (h : Holds w a n f) (hn : 0 < n) : ∃ b off, a = some ⟨b, off, none⟩ ∧ b < w.heap.size ∧ ∀ i, i < n → w.cell? ⟨b, off + i, none⟩ = some (.int .u8 (f i)) := by
  rcases h with h | h
  · omega
  · exact h

theorem skips_short (a d : Option Addr) (n c m k : Nat) (x : Int) (hn : 1048576 < n + m) (w : World) :
    Calls Try.prog 4 #[.slice a n c, .int .i64 x, .slice d m k] w fun e w' => e = .returned (.bool true) ∧ Below w.heap.size w w' := by
  go_enter Try.func4, Try.ntmps4
  go_wp2_with (go_at_call 10; refine (bytes10_no _ _ _ _ _ _ _ hn _).mono ?_; rintro e w' ⟨rfl, rfl⟩)
  go_ret
  exact ⟨rfl, Below.refl _ _⟩

theorem skips_pos (a d : Option Addr) (n c m k : Nat) (x : Int) (hn : n + m ≤ 1048576) (hx : x < 0 ∨ (n : Int) < x) (w : World) :
    Calls Try.prog 4 #[.slice a n c, .int .i64 x, .slice d m k] w fun e w' => e = .returned (.bool true) ∧ Below w.heap.size w w' := by
  rcases hx with h | h
  · go_enter Try.func4, Try.ntmps4
    go_wp2_with (go_at_call 10; refine (bytes10_yes _ _ _ _ _ _ _ hn _).mono ?_; rintro e w' ⟨rfl, rfl⟩)
    go_ret
    exact ⟨rfl, Below.refl _ _⟩
  · have h' : ¬ x < 0 := by omega
    go_enter Try.func4, Try.ntmps4
    go_wp2_with (go_at_call 10; refine (bytes10_yes _ _ _ _ _ _ _ hn _).mono ?_; rintro e w' ⟨rfl, rfl⟩)
    go_ret
    exact ⟨rfl, Below.refl _ _⟩

/-- What came in as data: nil, or a row. -/
def DataIn (w : World) (a : Option Addr) (n c : Nat) (zs : List Int) : Prop :=
  (a.isNone = true ∧ n = 0) ∨ ∃ x, a = some x ∧ n ≤ c ∧ zs.length = c ∧ (∀ i, i < zs.length → w.cell? (x.add i) = some (.int .u8 (zs.getD i 0))) ∧ (0 < zs.length → x.block < w.heap.size)

set_option maxHeartbeats 1600000 in
theorem skips (a d : Option Addr) (n c m k p : Nat) (zs : List Int) (h : Nat → Int) (hn : n + m ≤ 1048576) (hp : p ≤ n) (w : World) (hd : DataIn w a n c zs) (hws : Holds w d m h) :
    Calls Try.prog 4 #[.slice a n c, .int .i64 p, .slice d m k] w fun e w' => e = .returned (.bool true) ∧ Below w.heap.size w w' := by
  have hnil := fun (w : World) => run_neq_slice_nil_any (P := Try.prog) w 22 5 a n c 0 0 Try.underlying22
  have hmk := run_make_row' (P := Try.prog) 22 5 (.int .u8 0) 1 Try.underlying22 Try.info5 rfl .i64 .i64 n (by omega) (by omega)
  have b1 : decide (n < p) = false := decide_eq_false (by omega)
  have b2 : decide ((1048576 : Int) < (n : Int)) = false := decide_eq_false (by omega)
  have b3 : decide ((1048576 : Int) - (n : Int) < (m : Int)) = false := decide_eq_false (by omega)
  have b4 : decide ((p : Int) < 0) = false := decide_eq_false (by omega)
  have hmk2 := run_make_row' (P := Try.prog) 22 5 (.int .u8 0) 1 Try.underlying22 Try.info5 rfl .i64 .i64 (n + m) (by omega) (by omega)
  rw [show ((n + m : Nat) : Int) = (n : Int) + (m : Int) by omega] at hmk2
  rcases hd with ⟨hA, hn0⟩ | ⟨x, rfl, hnc, hz, hcell, hlt⟩
  focus
    have hh : Holds w a n (fun i => zs.getD i 0) := .inl hn0
    have hb2 := Below.refl w.heap.size w
    clear hn0 hmk
    generalize (fun i => zs.getD i 0) = f at hh
    go_enter Try.func4, Try.ntmps4
    go_wp2_with (go_at_call 10; refine (bytes10_yes _ _ _ _ _ _ _ hn _).mono ?_; rintro e w1 ⟨rfl, hw1⟩; subst w1)
    clear hA hnil
  rotate_left
  focus
    have t1 : True := trivial
    go_enter Try.func4, Try.ntmps4
    go_wp2_with (first
      | (go_at_call 10; refine (bytes10_yes _ _ _ _ _ _ _ hn _).mono ?_; rintro e w1 ⟨rfl, hw1⟩; subst w1)
      | (have _t := t1; refine wpList_copy_splice (by rfl) (.tmp 47) (.tmp 48) 22 22 (by rfl) 5 Try.underlying22 Try.size5 (some ⟨w.heap.size, 0, none⟩) (some x) n n n c (by simp [Act.eval]) (by simp [Act.eval]) w.heap.size 0 (madeCells #[.int .u8 0] n).toList 5 ?hg (cellsOf zs n) ?hl ?hpos ?hfit ?h1 w.heap.size w ?hb ?hBg ?next; clear t1 _t))
    case hg => simpa using heap_alloc_new w _
    case hl => rw [cellsOf_len (by omega)]; simp
    case hpos =>
      intro h
      try refine ⟨rfl, ?_⟩
      try refine ⟨x, rfl, ?_⟩
      intro j v hv
      obtain ⟨hj, rfl⟩ := cellsOf_get hv
      rw [World.cell?_alloc_lt _ _ _ (by rw [block_add]; exact hlt (by omega))]
      exact hcell j hj
    case hfit => simp [cellsOf_len (show n ≤ zs.length by omega), size_madeCells]
    case h1 => exact ints_oneCell .u8 _
    case hb => exact (Below.refl _ _).alloc (Nat.le_refl _) _
    case hBg => exact Nat.le_refl _
    intro w2 hg2 hb2
    have hh := holds_copied (by omega) hg2.out
    clear hg2 hcell hlt hmk hnil
    generalize (fun i => zs.getD i 0) = f at hh
    generalize (some { block := w.heap.size, off := 0 } : Option Addr) = A at hh ⊢
    go_wp2_with fail
  all_goals
    have hws2 := hws.below hb2
    clear hws
    go_loop [8] (fun i => ∃ t : Nat, t ≤ m ∧ (∀ x, x < t → spB (h x) = true) ∧ i = .int .i64 t) (fun i => m - (intOf i).toNat)
    case atStart => exact ⟨0, by omega, fun x hx => absurd hx (by omega), rfl⟩
    case round =>
      obtain ⟨t, ht, hsp, rfl⟩ := hrel
      by_cases htm : t < m
      · obtain ⟨yb, yo, rfl, hyb, hyc⟩ := hws2.at (by omega)
        have cy := hyc t htm
        clear hyc
        by_cases hs : spB (h t) = true
        · go_wp2_with (go_at_call 9; refine (isJSONSpace_any _ _).mono ?_; rintro e w4 ⟨rfl, hw4⟩; subst w4)
          go_round
          case rel => exact ⟨t + 1, by omega, fun x hx => (if e : x = t then e ▸ hs else hsp x (by omega)), by go_num⟩
          case measure => simp [intOf]; omega
        · have hs' : spB (h t) = false := by simpa using hs
          clear hs
          go_wp2_with (go_at_call 9; refine (isJSONSpace_any _ _).mono ?_; rintro e w4 ⟨rfl, hw4⟩; subst w4)
          go_ret
          exact ⟨rfl, hb2⟩
      · obtain rfl : m = t := by omega
        clear ht htm
        go_wp2_with fail
        refine (zznext _ _ _ _ f _ (by omega) hp hh).mono ?_
        rintro e w3 ⟨q, hl, rfl, hb3⟩
        have hB3 := belowChain hb2 (Nat.le_refl _) hb3
        have hh3 := hh.below hb3
        have hws3 := hws2.below hb3
        clear hh hws2 hb2 hb3
        have hP0 := Part.start w3 (n + m) (ins f h p m)
        have hBl0 := (Below.refl w3.heap.size w3).alloc (Nat.le_refl _) (.cells (madeCells #[.int .u8 0] (n + m)) 5)
        generalize hg : w3.heap.size = g at *
        go_wp2_with fail
        go_loopw [12, 13] (fun j i wr => ∃ t : Nat, t ≤ p ∧ i = .int .i64 t ∧ j = .int .i64 t ∧ Part wr g (n + m) t (ins f h p m) ∧ Below g w3 wr) (fun _ i _ => p - (intOf i).toNat)
        case atStart => exact ⟨0, by omega, rfl, rfl, hP0, hBl0⟩
        clear hP0 hBl0 hmk2
        case round =>
          obtain ⟨t, ht, rfl, rfl, hP, hBl⟩ := hrel
          by_cases htp : t < p
          · obtain ⟨ab, ao, rfl, hab, hac⟩ := hh3.at (by omega)
            rw [hg] at hab
            have ca := (hBl.cell (p := ⟨ab, ao + t, none⟩) hab).trans (hac t (by omega))
            obtain ⟨⟨v0, cv⟩, fv⟩ := hP.slot (show t < n + m by omega)
            clear hac
            go_wp2_with fail
            go_roundw
            case rel => exact ⟨t + 1, by omega, by go_num, by go_num, hP.step (ins_lo htp).symm, hBl.setCell (Nat.le_refl _) _⟩
            case measure => simp [intOf]; omega
          · obtain rfl : p = t := by omega
            obtain ⟨wo, rfl⟩ : ∃ wo : World, wo = wr := ⟨_, rfl⟩
            clear ht htp
            go_wp2_with fail
            go_loopw [12, 14] (fun j i wr => ∃ t s : Nat, t ≤ m ∧ s ≤ p + t ∧ p + t ≤ s ∧ i = .int .i64 t ∧ j = .int .i64 s ∧ Part wr g (n + m) s (ins f h p m) ∧ Below g w3 wr) (fun _ i _ => m - (intOf i).toNat)
            case atStart => exact ⟨0, p, by omega, by omega, by omega, rfl, rfl, hP, hBl⟩
            clear hP hBl
            case round =>
              obtain ⟨t, s, ht, hs1, hs2, rfl, rfl, hP, hBl⟩ := hrel
              by_cases htm : t < m
              · obtain ⟨ab, ao, rfl, hab, hac⟩ := hws3.at (by omega)
                rw [hg] at hab
                have ca := (hBl.cell (p := ⟨ab, ao + t, none⟩) hab).trans (hac t (by omega))
                obtain ⟨⟨v0, cv⟩, fv⟩ := hP.slot (show s < n + m by omega)
                clear hac
                go_wp2_with fail
                go_roundw
                case rel => exact ⟨t + 1, s + 1, by omega, by omega, by omega, by go_num, by go_num, hP.step (by rw [show s = p + t by omega, ins_mid htm]), hBl.setCell (Nat.le_refl _) _⟩
                case measure => simp [intOf]; omega
              · obtain ⟨wo2, rfl⟩ : ∃ wo : World, wo = wr := ⟨_, rfl⟩
                go_wp2_with fail
                go_loopw [12, 15] (fun j i wr => ∃ t s : Nat, p ≤ t ∧ t ≤ n ∧ s ≤ t + m ∧ t + m ≤ s ∧ i = .int .i64 t ∧ j = .int .i64 s ∧ Part wr g (n + m) s (ins f h p m) ∧ Below g w3 wr) (fun _ i _ => n - (intOf i).toNat)
                case atStart => exact ⟨p, s, by omega, by omega, by omega, by omega, rfl, rfl, hP, hBl⟩
                clear hP hBl ht hs1 hs2 htm
                case round =>
                  obtain ⟨t, s, ht1, ht2, hs1, hs2, rfl, rfl, hP, hBl⟩ := hrel
                  by_cases htn : t < n
                  · obtain ⟨ab, ao, rfl, hab, hac⟩ := hh3.at (by omega)
                    rw [hg] at hab
                    have ca := (hBl.cell (p := ⟨ab, ao + t, none⟩) hab).trans (hac t (by omega))
                    obtain ⟨⟨v0, cv⟩, fv⟩ := hP.slot (show s < n + m by omega)
                    clear hac
                    go_wp2_with fail
                    go_roundw
                    case rel => exact ⟨t + 1, s + 1, by omega, by omega, by omega, by omega, by go_num, by go_num, hP.step (by rw [show s = t + m by omega, ins_hi ht1]), hBl.setCell (Nat.le_refl _) _⟩
                    case measure => simp [intOf]; omega
                  · have hJ : Holds wr (some ⟨g, 0, none⟩) (n + m) (ins f h p m) := by
                      obtain rfl : s = n + m := by omega
                      exact hP.holds
                    have hl2' := hl.ins hsp
                    have htk := tok_ins (m := m) (h := h) hl
                    generalize ins f h p m = J at hJ hl2' htk
                    clear hP
                    have hB4 : Below w.heap.size w wr := hB3.trans (hBl.mono (by rw [← hg]; exact hB3.size))
                    clear hBl hh3 hws3 hB3
                    go_wp2_with fail
                    refine (zznext (some ⟨g, 0, none⟩) (n + m) (n + m) p J _ hn (by omega) hJ).mono ?_
                    rintro e w5 ⟨q2, hl2, rfl, hb5⟩
                    have hq2 : q2 = q + m := hl2.one hl2'
                    have e1 : (tok J (n + m) q2 != tok f n q) = false := by rw [hq2, htk]; simp
                    have e2 : ((q2 : Int) != (q : Int) + (m : Int)) = false := by simp; omega
                    have l2 := hl.2.1
                    have l3 := hl2.2.1
                    have hJ5 := hJ.below hb5
                    have hB5 := belowChain hB4 (Nat.le_refl _) hb5
                    clear hq2 htk hl2' hsp hJ hB4 hb5 hl
                    go_wp2_with fail
                    refine (zznext (some ⟨g, 0, none⟩) (n + m) (n + m) q2 J _ hn l3 hJ5).mono ?_
                    rintro e w6 ⟨q3, hl3, rfl, hb6⟩
                    obtain rfl : q2 = q3 := hl2.stay.one hl3
                    go_wp2
                    go_ret
                    refine ⟨?_, belowChain hB5 (Nat.le_refl _) hb6⟩
                    simp
end Go.Proofs.Qxb6618255a
