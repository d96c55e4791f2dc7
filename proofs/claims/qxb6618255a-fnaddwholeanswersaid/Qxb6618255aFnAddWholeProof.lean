/-
  THE STATEMENT 'Rows.FnAddWholeAnswerSaid', PROVED: the frame after the guide's own (its skeleton tool), typed at an int, a []string, a [][]byte and a []byte; the walk is Qxb6618255aWhole.lean.
-/
import Derived.Test.Qxb6618255aRows
import Derived.Test.Qxb6618255aWhole
import Derived.Test.Qxb6618255aOpen
import Derived.WalkKit
import Derived.ProofKit
import Derived.OpenShut
import Derived.ChangeOld
import Derived.Below
import Derived.Deep.Strs
namespace Go.Proofs.Qxb6618255a.fnAddWholeAnswer
open Go.ChangeShapes Go.WideShapes Go.ChangeAt Go.RowKit Go.Deep
set_option linter.unusedVariables false

theorem own : ownKnob Try.prog.godebug = none := by kernel_rfl
theorem laidOut : laidOutB Try.prog = true := by kernel_rfl

theorem strOf_data (s : ByteArray) : strOf s.data.toList = s := by simp [strOf]

section
variable {H : Type} {enc : TypeId × Value → H} {W : World}
theorem strs_of_trod {held : Bool} {fuel : Nat} {a : Option Addr} {n c : Nat} {x : DataW H × List MemPlace} (h : DataW.trod enc Try.prog W 0 (fun _ => true) held fuel 28 [.slice a n c] = some x) : ∃ ss, Strs W W.heap.size (.slice a n c) ss := by
  rcases open_strs Try.underlying28 Try.underlying9 (by kernel_rfl) h with ⟨hcs, _⟩ | ⟨y, l, c', m, Sx, hcs, _, hl, hm, hmm, _, hcell⟩
  · simp at hcs
    obtain ⟨rfl, rfl, rfl⟩ := hcs
    exact ⟨[], _, _, rfl, fun h => absurd h (by simp)⟩
  · simp at hcs
    obtain ⟨rfl, rfl, rfl⟩ := hcs
    simp only [if_true] at hmm
    subst hmm
    refine ⟨(List.range n).map fun i => (Sx i).data.toList, _, _, by simp; exact ⟨rfl, rfl⟩, fun h => ?_⟩
    simp only [List.length_map, List.length_range] at h ⊢
    obtain ⟨b, o, spot⟩ := y
    have h0 := (hcell 0 (by omega)).1
    rw [Addr.add_zero'] at h0
    obtain rfl : spot = none := World.cell?_spot h0
    refine ⟨b, o, rfl, block_lt_of_cell h0, fun i hi => ?_⟩
    have e : nameAt ((List.range n).map fun i => (Sx i).data.toList) i = (Sx i).data.toList := by simp [nameAt, hi]
    rw [e, strOf_data, ← Addr.add_lit]
    exact (hcell i (by omega)).1
theorem cap_of_trod {held : Bool} {fuel : Nat} {a : Option Addr} {n c : Nat} {x : DataW H × List MemPlace} (h : DataW.trod enc Try.prog W 0 (fun _ => true) held fuel 29 [.slice a n c] = some x) : n ≤ c := by
  rcases open_int_rows Try.underlying29 Try.underlying22 Try.underlying5 (by kernel_rfl) (by kernel_rfl) h with ⟨hcs, _⟩ | ⟨y, l, c', A, L, C, Z, hcs, _, hl, hm, _, hcell⟩
  · simp at hcs
    omega
  · simp at hcs
    omega
end

set_option maxRecDepth 100000 in
theorem lifted (os : Os) (started : os.Started) (H : Type) (enc : TypeId × Value → H) :
    ReturnsInHanded {} Try.checked os 5 .any (Rows.fnAddWholeAnswerSpec.pre6 enc Try.prog Try.f5 Rows.fnAddWholeAnswerRow.domain false) (Rows.fnAddWholeAnswerSpec.post enc Try.prog Try.f5 false true false false) := by
  refine returnsInHanded_of_change (C := Try.checked) own started (by kernel_rfl) Try.func5
    (ChangeSpec.witness6 (enc := enc) (C := Try.checked) false ⟨#[], #[.int .i64 0, .slice none 0 0, .slice none 0 0, .slice none 0 0], []⟩ 8 (by kernel_rfl) (by kernel_rfl) (by kernel_rfl) (by kernel_rfl)) ?_
  intro W base args ds gs before hval0 hW hcnd _
  have hval : ∀ (j : Nat) t v, Try.f5.params[j]? = some t → args[j]? = some v → Value.okWide Try.prog W .any base t v := hval0
  have hW' := hW
  obtain ⟨p, q, hA0, hV, rfl, hfz, hnd⟩ := hW
  have hA : DataW.TrodAll enc Try.prog W 0 (fun _ => true) true Try.f5.params.toList args.toList ds p := hA0
  rw [Try.params5] at hA hval
  obtain ⟨v0, vs0, d0, ds0, p0, q0, hargs, rfl, rfl, h0, r0⟩ := trodAll_cons hA
  obtain ⟨v1, vs1, d1, ds1, p1, q1, rfl, rfl, rfl, h1, r1⟩ := trodAll_cons r0
  obtain ⟨v2, vs2, d2, ds2, p2, q2, rfl, rfl, rfl, h2, r2⟩ := trodAll_cons r1
  obtain ⟨v3, vs3, d3, ds3, p3, q3, rfl, rfl, rfl, h3, r3⟩ := trodAll_cons r2
  obtain ⟨rfl, rfl, rfl⟩ := trodAll_nil r3
  obtain rfl : args = #[v0, v1, v2, v3] := by cases args; simp_all
  obtain ⟨rfl, rfl⟩ := trodVars_none hV
  obtain ⟨a0, rfl, rfl, rfl, w0⟩ := open_int Try.underlying3 (hval 0 3 v0 rfl rfl) h0
  obtain ⟨a1, len1, cap1, rfl⟩ := okWide_slice Try.underlying28 (hval 1 28 v1 rfl rfl)
  obtain ⟨a2, len2, cap2, rfl⟩ := okWide_slice Try.underlying29 (hval 2 29 v2 rfl rfl)
  obtain ⟨a3, len3, cap3, rfl⟩ := okWide_slice Try.underlying22 (hval 3 22 v3 rfl rfl)
  have k1 := h1
  have k2 := h2
  have k3 := h3
  have lt1 : ∀ x ∈ p1, x.block < W.heap.size := by obtain ⟨m, hm⟩ := k1; exact DataW.trod_lt m _ _ _ hm
  have lt2 : ∀ x ∈ p2, x.block < W.heap.size := by obtain ⟨m, hm⟩ := k2; exact DataW.trod_lt m _ _ _ hm
  have lt3 : ∀ x ∈ p3, x.block < W.heap.size := by obtain ⟨m, hm⟩ := k3; exact DataW.trod_lt m _ _ _ hm
  obtain ⟨ss, w1⟩ : ∃ ss, Strs W W.heap.size (.slice a1 len1 cap1) ss := by
    obtain ⟨fuel, hf⟩ := h1
    exact strs_of_trod (by simpa [Value.cells] using hf)
  obtain ⟨ls, w2⟩ : ∃ ls, NBs W W.heap.size (.slice a2 len2 cap2) ls := by
    obtain ⟨fuel, hf⟩ := h2
    exact nbs_of_trod (by simpa [Value.cells] using hf)
  have hc2 : len2 ≤ cap2 := by
    obtain ⟨fuel, hf⟩ := h2
    exact cap_of_trod (H := H) (enc := enc) (W := W) (by simpa [Value.cells] using hf)
  obtain ⟨l, w3⟩ : ∃ l, NB W 0 W.heap.size (.slice a3 len3 cap3) l := by
    obtain ⟨fuel, hf⟩ := h3
    exact nb_of_trod (by simpa [Value.cells] using hf)
  clear hA0 hval0
  refine (whole_law W a0 _ _ _ ss ls l w1 w2 w3 (fun a n c e => by simp at e; omega)).mono fun e W' ⟨he, bel⟩ => ?_
  subst he
  exact ⟨_, rfl, _, _, _, [], _, [], hW', trodAll_mk1 (shut_bool Try.underlying4 _), (trodAll_cons_mk (shut_int Try.underlying3 w0) (trodAll_cons_mk (Below.trod laidOut (by kernel_rfl) (of_decide_eq_true (by kernel_rfl)) k1 bel lt1) (trodAll_cons_mk (Below.trod laidOut (by kernel_rfl) (of_decide_eq_true (by kernel_rfl)) k2 bel lt2) (trodAll_cons_mk (Below.trod laidOut (by kernel_rfl) (of_decide_eq_true (by kernel_rfl)) k3 bel lt3) trodAll_mk0)))), rfl, bel.frame _, fun h => by cases h⟩

theorem over : Rows.fnAddWholeAnswerRow.holds Try.pinned (OpenSpec.ofChange Rows.fnAddWholeAnswerSpec) :=
  OpenClaim.holds_of_wide 5 Try.f5 rfl rfl rfl rfl rfl rfl rfl ⟨rfl, rfl, rfl, rfl, rfl⟩ rfl rfl rfl rfl rfl (by kernel_rfl) Try.func5 (by kernel_rfl)
    (of_decide_eq_true (by kernel_rfl)) (by unfold Func.isWrapper; first | (rw [if_pos (by decide +kernel)]; kernel_rfl) | (rw [if_neg (by decide +kernel)]; exact ⟨rfl, rfl⟩))
    (fun os started H enc _ => lifted os started H enc)

/-- THE STATEMENT -/
theorem proved : Rows.FnAddWholeAnswerSaid := over
end Go.Proofs.Qxb6618255a.fnAddWholeAnswer
