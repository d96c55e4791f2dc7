/-
  'next' and 'ZZNext', walked: they land behind the white space.
-/
import Derived.Test.Qxb6618255aLeaf
import Derived.LoopTactic
import Derived.WalkSmall
namespace Go.Proofs.Qxb6618255a
open Go.RowKit

/-- 'q' is where next lands from p: behind the white space, at the first other byte or at the end. -/
def Lands (f : Nat → Int) (n p q : Nat) : Prop := p ≤ q ∧ q ≤ n ∧ (∀ i, p ≤ i → i < q → spB (f i) = true) ∧ (q < n → spB (f q) = false)
/-- What next answers there. -/
def tok (f : Nat → Int) (n q : Nat) : Int := if q < n then f q else 0
theorem tok_in {f : Nat → Int} {n q : Nat} (h : q < n) : tok f n q = f q := by simp [tok, h]
theorem tok_end {f : Nat → Int} {n q : Nat} (h : ¬ q < n) : tok f n q = 0 := by simp [tok, h]

/-- The number in cell 1 of block g. -/
def posOf (w : World) (g : Nat) : Nat := (intOf ((w.cell? ⟨g, 1, none⟩).getD (.int .i64 0))).toNat
theorem posOf_eq {w : World} {g k : Nat} (h : w.cell? ⟨g, 1, none⟩ = some (.int .i64 k)) : posOf w g = k := by simp [posOf, h, intOf]

theorem sp_step {f : Nat → Int} {p k : Nat} (hsp : ∀ i, p ≤ i → i < k → spB (f i) = true) (hs : spB (f k) = true) : ∀ i, p ≤ i → i < k + 1 → spB (f i) = true := by
  intro i a b
  by_cases e : i = k
  · rw [e]; exact hs
  · exact hsp i a (by omega)

/-- What a round does to the walker: its position goes on by one. -/
theorem next_round {w wr : World} {g k : Nat} {v : Value} (nq : Nat) (c0 : wr.cell? ⟨g, 0, none⟩ = some v) (c1 : wr.cell? ⟨g, 1, none⟩ = some (.int .i64 k)) (fz : wr.frozen? ⟨g, 1, none⟩ = false) (bel : Below g w wr) :
    ((wr.drewN nq).setCell ⟨g, 1, none⟩ (.int .i64 ((k : Int) + 1))).cell? ⟨g, 0, none⟩ = some v ∧
    ((wr.drewN nq).setCell ⟨g, 1, none⟩ (.int .i64 ((k : Int) + 1))).cell? ⟨g, 1, none⟩ = some (.int .i64 ((k + 1 : Nat) : Int)) ∧
    ((wr.drewN nq).setCell ⟨g, 1, none⟩ (.int .i64 ((k : Int) + 1))).frozen? ⟨g, 1, none⟩ = false ∧
    Below g w ((wr.drewN nq).setCell ⟨g, 1, none⟩ (.int .i64 ((k : Int) + 1))) := by
  refine ⟨?_, ?_, ?_, ?_⟩
  · rw [World.cell?_setCell_other _ _ _ _ (by simp)]; exact c0
  · exact World.cell?_setCell_same _ _ _ (u := .int .i64 k) c1
  · rw [World.frozen?_setCell]; exact fz
  · exact (below_drewN bel nq).setCell (Nat.le_refl _) _

set_option maxHeartbeats 400000 in
theorem next_some (b off n cap g p : Nat) (f : Nat → Int) (w : World) (hn : n ≤ 1048576) (hp : p ≤ n) (hbg : b < g)
    (hc : ∀ i, i < n → w.cell? ⟨b, off + i, none⟩ = some (.int .u8 (f i)))
    (h0 : w.cell? ⟨g, 0, none⟩ = some (.slice (some ⟨b, off, none⟩) n cap)) (h1 : w.cell? ⟨g, 1, none⟩ = some (.int .i64 p)) (hf : w.frozen? ⟨g, 1, none⟩ = false) :
    Calls Try.prog 21 #[.pointer (some ⟨g, 0, none⟩)] w fun e w' => ∃ q : Nat, Lands f n p q ∧ e = .returned (.int .u8 (tok f n q)) ∧ w'.cell? ⟨g, 1, none⟩ = some (.int .i64 q) ∧ Below g w w' := by
  go_enter Try.func21, Try.ntmps21
  go_wp2
  go_loopw [25] (fun _ wr => ∃ k : Nat, p ≤ k ∧ k ≤ n ∧ (∀ i, p ≤ i → i < k → spB (f i) = true) ∧ wr.cell? ⟨g, 0, none⟩ = some (.slice (some ⟨b, off, none⟩) n cap) ∧ wr.cell? ⟨g, 1, none⟩ = some (.int .i64 k) ∧ wr.frozen? ⟨g, 1, none⟩ = false ∧ Below g w wr)
    (fun _ wr => n - posOf wr g)
  case atStart => exact ⟨p, Nat.le_refl _, hp, fun i h1 h2 => by omega, h0, h1, hf, Below.refl _ _⟩
  case round =>
    obtain ⟨k, hk1, hk2, hsp, c0, c1, fz, bel⟩ := hrel
    by_cases hlt : k < n
    · have cd : wr.cell? ⟨b, off + k, none⟩ = some (.int .u8 (f k)) := (bel.cell (p := ⟨b, off + k, none⟩) hbg).trans (hc k hlt)
      have i0 : (0 : Int) ≤ (k : Int) := by omega
      have i1 : (k : Int) < (n : Int) := by omega
      clear hc h0 h1 hf
      by_cases hs : spB (f k) = true
      · go_wp2_with fail
        go_quiet ((go_at_call 23; exact Calls.quiet_of_same (isSpace_any _ _)))
        go_wp2_with fail
        obtain ⟨d0, d1, d2, d3⟩ := next_round nq c0 c1 fz bel
        go_roundw
        case rel => exact ⟨k + 1, by omega, by omega, fun i a b => sp_step hsp hs i a b, d0, d1, d2, d3⟩
        case measure => rw [posOf_eq d1, posOf_eq c1]; omega
      · have hs' : spB (f k) = false := by simpa using hs
        clear hs
        go_wp2_with fail
        go_quiet ((go_at_call 23; exact Calls.quiet_of_same (isSpace_any _ _)))
        go_wp2_with fail
        have ne : ((k : Int) == (n : Int)) = false := by simp; omega
        go_quiet (fail)
        go_wp2_with fail
        go_quiet (fail)
        go_wp2_with fail
        go_ret
        exact ⟨k, ⟨hk1, hk2, hsp, fun _ => hs'⟩, by rw [tok_in hlt]; rfl, c1, below_drewN (below_drewN (below_drewN bel _) _) _⟩
    · have hd : decide ((k : Int) < (n : Int)) = false := decide_eq_false (by omega)
      have ne : ((k : Int) == (n : Int)) = true := by simp; omega
      go_wp2_with fail
      go_quiet (fail)
      go_wp2_with fail
      go_quiet (fail)
      go_wp2_with fail
      go_ret
      exact ⟨k, ⟨hk1, hk2, hsp, fun h => absurd h hlt⟩, by rw [tok_end hlt]; rfl, c1, below_drewN (below_drewN bel _) _⟩

/-- An empty slice, wherever it lies: next answers 0 and stays. -/
theorem next_empty (a : Option Addr) (cap g : Nat) (w : World)
    (h0 : w.cell? ⟨g, 0, none⟩ = some (.slice a 0 cap)) (h1 : w.cell? ⟨g, 1, none⟩ = some (.int .i64 0)) :
    Calls Try.prog 21 #[.pointer (some ⟨g, 0, none⟩)] w fun e w' => e = .returned (.int .u8 0) ∧ w'.cell? ⟨g, 1, none⟩ = some (.int .i64 0) ∧ Below g w w' := by
  go_enter Try.func21, Try.ntmps21
  go_wp2
  refine wp_loop_rounds 1 ?_
  rw [rounds_succ]
  go_wp2_with fail
  go_quiet (fail)
  go_wp2_with fail
  go_quiet (fail)
  go_wp2_with fail
  go_ret
  exact ⟨rfl, h1, below_drewN (below_drewN (Below.refl _ _) _) _⟩

/-- The slice 'a', of n bytes, holds the bytes f. -/
def Holds (w : World) (a : Option Addr) (n : Nat) (f : Nat → Int) : Prop := n = 0 ∨ ∃ b off, a = some ⟨b, off, none⟩ ∧ b < w.heap.size ∧ ∀ i, i < n → w.cell? ⟨b, off + i, none⟩ = some (.int .u8 (f i))

set_option maxHeartbeats 400000 in
theorem zznext (a : Option Addr) (n cap p : Nat) (f : Nat → Int) (w : World) (hn : n ≤ 1048576) (hp : p ≤ n) (hh : Holds w a n f) :
    Calls Try.prog 8 #[.slice a n cap, .int .i64 p] w fun e w' => ∃ q : Nat, Lands f n p q ∧ e = .returned (.tuple #[.int .u8 (tok f n q), .int .i64 q]) ∧ Below w.heap.size w w' := by
  rcases hh with rfl | ⟨b, off, rfl, hb, hc⟩
  · obtain rfl : p = 0 := by omega
    go_enter Try.func8, Try.ntmps8
    go_wp2_with fail
    refine (next_empty a cap w.heap.size _ (by simp) (by simp)).mono ?_
    rintro e w1 ⟨rfl, hq, hb1⟩
    go_wp2_with fail
    go_quiet (fail)
    go_wp2_with fail
    go_ret2
    exact ⟨0, ⟨Nat.le_refl _, Nat.le_refl _, fun i _ h => absurd h (by omega), fun h => absurd h (by omega)⟩, rfl, below_drewN (((Below.refl _ _).alloc (Nat.le_refl _) _).trans hb1) _⟩
  · go_enter Try.func8, Try.ntmps8
    go_wp2_with fail
    refine (next_some b off n cap w.heap.size p f _ hn hp hb ?_ (by simp) (by simp) (by simp)).mono ?_
    · intro i hi
      rw [World.cell?_alloc_lt _ _ _ hb]
      exact hc i hi
    rintro e w1 ⟨q, hl, rfl, hq, hb1⟩
    clear hc
    go_wp2_with fail
    go_quiet (fail)
    go_wp2_with fail
    go_ret2
    exact ⟨q, hl, rfl, below_drewN (((Below.refl _ _).alloc (Nat.le_refl _) _).trans hb1) _⟩
end Go.Proofs.Qxb6618255a
