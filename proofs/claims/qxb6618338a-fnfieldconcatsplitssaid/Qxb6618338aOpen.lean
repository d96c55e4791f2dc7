/-
  FROM THE ROW's READING OF A []string TO 'Strs'.
-/
import Derived.Test.Qxb6618338aStrs
import Derived.ProofKit
import Derived.OpenShut
import Derived.Deep.Strs
namespace Go.Proofs.Qxb6618338a
open Go.ChangeShapes Go.WideShapes Go.ChangeAt Go.RowKit Go.Deep

theorem strs_of_trod {H : Type} {enc : TypeId × Value → H} {W : World} {held : Bool} {fuel : Nat} {a : Option Addr} {n c : Nat} {x : DataW H × List MemPlace} (h : DataW.trod enc Try.prog W 0 (fun _ => true) held fuel 22 [.slice a n c] = some x) : ∃ ss, Strs W W.heap.size (.slice a n c) ss := by
  rcases open_strs Try.underlying22 Try.underlying9 (by kernel_rfl) h with ⟨hcs, _⟩ | ⟨y, l, c', m, Sx, hcs, _, hl, hm, hmm, _, hcell⟩
  · simp at hcs
    obtain ⟨rfl, rfl, rfl⟩ := hcs
    exact ⟨[], _, _, rfl, fun h => absurd h (by simp)⟩
  · simp at hcs
    obtain ⟨rfl, rfl, rfl⟩ := hcs
    simp only [if_true] at hmm
    subst hmm
    refine ⟨(List.range n).map Sx, _, _, by simp; exact ⟨rfl, rfl⟩, fun h => ?_⟩
    simp only [List.length_map, List.length_range] at h ⊢
    obtain ⟨b, o, spot⟩ := y
    have h0 := (hcell 0 (by omega)).1
    rw [Addr.add_zero'] at h0
    obtain rfl : spot = none := World.cell?_spot h0
    refine ⟨b, o, rfl, block_lt_of_cell h0, fun i hi => ?_⟩
    have e : strAt ((List.range n).map Sx) i = Sx i := by simp [strAt, hi]
    rw [e, ← Addr.add_lit]
    exact (hcell i (by omega)).1
end Go.Proofs.Qxb6618338a
