/-
  FROM THE ROW's READING OF A [][]byte OR A []byte TO 'NBs', 'NB'.
-/
import Derived.Test.Qxb6618255aNames
import Derived.ProofKit
import Derived.OpenShut
import Derived.Deep.Matrix
namespace Go.Proofs.Qxb6618255a
open Go.ChangeShapes Go.WideShapes Go.ChangeAt Go.RowKit Go.Deep

theorem byteAt_of {zs : List Int} {n i : Nat} (hn : n ≤ zs.length) (hi : i < n) (hw : ∀ x ∈ zs, (Lit.int .u8 x).wf = true) : byteAt ((zs.take n).map fun x => UInt8.ofNat x.toNat) i = zs.getD i 0 := by
  have hz : i < zs.length := by omega
  have hb := bounds_u8 (hw zs[i] (List.getElem_mem hz))
  simp [byteAt, hi, hz]
  omega

/-- A slice of bytes, as 'open_ints' hands it. -/
theorem nb_of_cells {W : World} {a : Option Addr} {n c : Nat} {zs : List Int} (hnc : n ≤ c) (hz : zs.length = c) (hw : ∀ x ∈ zs, (Lit.int .u8 x).wf = true)
    (hnone : a = none → n = 0) (hcell : ∀ x, a = some x → ∀ i, i < c → W.cell? (x.add i) = some (.int .u8 (zs.getD i 0))) : NB W 0 W.heap.size (.slice a n c) ((zs.take n).map fun x => UInt8.ofNat x.toNat) := by
  have hl : ((zs.take n).map fun x => UInt8.ofNat x.toNat).length = n := by simp; omega
  refine ⟨a, c, by rw [hl], fun h => ?_⟩
  rw [hl] at h
  cases a with
  | none => have := hnone rfl; omega
  | some x =>
    obtain ⟨b, o, spot⟩ := x
    have h0 := hcell _ rfl 0 (by omega)
    rw [Addr.add_zero'] at h0
    obtain rfl : spot = none := World.cell?_spot h0
    refine ⟨b, o, rfl, Nat.zero_le _, block_lt_of_cell h0, fun i hi => ?_⟩
    rw [hl] at hi
    rw [byteAt_of (by omega) hi hw, ← Addr.add_lit]
    exact hcell _ rfl i (by omega)

section
variable {H : Type} {enc : TypeId × Value → H} {W : World}

theorem nb_of_trod {held : Bool} {fuel : Nat} {a : Option Addr} {n c : Nat} {x : DataW H × List MemPlace} (h : DataW.trod enc Try.prog W 0 (fun _ => true) held fuel 22 [.slice a n c] = some x) : ∃ l, NB W 0 W.heap.size (.slice a n c) l := by
  rcases open_ints Try.underlying22 Try.underlying5 (by kernel_rfl) h with ⟨hcs, _⟩ | ⟨y, l, c', zs, hcs, _, hl, hm, hz, _, hcell, hwz⟩
  · simp at hcs
    obtain ⟨rfl, rfl, rfl⟩ := hcs
    exact ⟨[], NB.nil _ _ _ _ _⟩
  · simp at hcs
    obtain ⟨rfl, rfl, rfl⟩ := hcs
    have hz' : zs.length = c := by simpa using hz
    exact ⟨_, nb_of_cells hl hz' hwz (fun h => by cases h) (fun x hx i hi => by obtain rfl := Option.some.inj hx; exact hcell i (by omega))⟩

theorem nbs_of_trod {held : Bool} {fuel : Nat} {a : Option Addr} {n c : Nat} {x : DataW H × List MemPlace} (h : DataW.trod enc Try.prog W 0 (fun _ => true) held fuel 29 [.slice a n c] = some x) : ∃ ls, NBs W W.heap.size (.slice a n c) ls := by
  rcases open_int_rows Try.underlying29 Try.underlying22 Try.underlying5 (by kernel_rfl) (by kernel_rfl) h with ⟨hcs, _⟩ | ⟨y, l, c', A, L, C, Z, hcs, _, hl, hm, _, hcell⟩
  · simp at hcs
    obtain ⟨rfl, rfl, rfl⟩ := hcs
    exact ⟨[], _, _, rfl, fun h => absurd h (by simp)⟩
  · simp at hcs
    obtain ⟨rfl, rfl, rfl⟩ := hcs
    refine ⟨(List.range n).map fun r => ((Z r).take (L r)).map fun x => UInt8.ofNat x.toNat, _, _, by simp; exact ⟨rfl, rfl⟩, fun h => ?_⟩
    simp only [List.length_map, List.length_range] at h ⊢
    obtain ⟨b, o, spot⟩ := y
    have h0 := (hcell 0 (by omega)).1
    rw [Addr.add_zero'] at h0
    obtain rfl : spot = none := World.cell?_spot h0
    refine ⟨b, o, rfl, block_lt_of_cell h0, fun i hi => ?_⟩
    obtain ⟨h1, h2, h3, h4, h5, h6, h7⟩ := hcell i (by omega)
    refine ⟨_, by rw [← Addr.add_lit]; exact h1, ?_⟩
    have e : nameAt ((List.range n).map fun r => ((Z r).take (L r)).map fun x => UInt8.ofNat x.toNat) i = ((Z i).take (L i)).map fun x => UInt8.ofNat x.toNat := by
      simp [nameAt, hi]
    rw [e]
    exact nb_of_cells h2 h4 h5 (fun h => by have := h6 h; omega) (fun x hx j hj => (h7 x hx).2 j hj)
end
end Go.Proofs.Qxb6618255a
