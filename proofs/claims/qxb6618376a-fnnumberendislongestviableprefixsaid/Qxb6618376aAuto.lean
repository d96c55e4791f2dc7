/-
  THE GRAMMAR OF NUMBERS AS AN AUTOMATON, with no Go in sight: where a run of it ends is ONE place; it moves with what stands ahead of it, and a cut there changes nothing.
-/
namespace Go.Proofs.Qxb6618376a

/-- The byte at i; 256, which is none, behind the end. -/
def bt (S : ByteArray) (i : Nat) : Int := if h : i < S.size then ((S[i]'h).toNat : Int) else 256
theorem bt_in {S : ByteArray} {i : Nat} (h : i < S.size) : bt S i = ((S[i]'h).toNat : Int) := by simp [bt, h]
theorem bt_out {S : ByteArray} {i : Nat} (h : ¬ i < S.size) : bt S i = 256 := by simp [bt, h]
theorem bt_lt {S : ByteArray} {i : Nat} {c : Int} (h : bt S i = c) (hc : c ≠ 256) : i < S.size := Classical.byContradiction fun k => hc (by rw [← h, bt_out k])

def dg (c : Int) : Bool := decide (48 ≤ c) && decide (c ≤ 57)
theorem dg_iff (c : Int) : dg c = true ↔ 48 ≤ c ∧ c ≤ 57 := by simp [dg]
theorem dg_lt {S : ByteArray} {i : Nat} (h : dg (bt S i) = true) : i < S.size := by
  refine Classical.byContradiction fun k => ?_
  rw [bt_out k] at h; cases h

/-- One step; -1 is dead. -/
def step (st c : Int) : Int :=
  if st = 0 then (if c = 45 then 1 else if c = 48 then 2 else if dg c = true then 3 else -1)
  else if st = 1 then (if c = 48 then 2 else if dg c = true then 3 else -1)
  else if st = 2 then (if c = 46 then 4 else if c = 101 ∨ c = 69 then 6 else -1)
  else if st = 3 then (if dg c = true then 3 else if c = 46 then 4 else if c = 101 ∨ c = 69 then 6 else -1)
  else if st = 4 then (if dg c = true then 5 else -1)
  else if st = 5 then (if dg c = true then 5 else if c = 101 ∨ c = 69 then 6 else -1)
  else if st = 6 then (if c = 43 ∨ c = 45 then 7 else if dg c = true then 8 else -1)
  else if st = 7 ∨ st = 8 then (if dg c = true then 8 else -1)
  else -1
def acc (st : Int) : Bool := st == 2 || st == 3 || st == 5 || st == 8

theorem step_dead (c : Int) : step (-1) c = -1 := by simp [step]
theorem step_range (st c : Int) : -1 ≤ step st c := by
  unfold step
  repeat' split
  all_goals omega

def run (f : Nat → Int) (off : Nat) : Nat → Int
  | 0 => 0
  | k + 1 => step (run f off k) (f (off + k))

theorem run_ge (f : Nat → Int) (off k : Nat) : -1 ≤ run f off k := by
  cases k
  · simp [run]
  · exact step_range _ _
theorem run_dead {f : Nat → Int} {off k : Nat} (h : run f off k = -1) (j : Nat) : run f off (k + j) = -1 := by
  induction j with
  | zero => exact h
  | succ j ih => rw [← Nat.add_assoc]; show step _ _ = _; rw [ih, step_dead]

/-- The run from off stands at i in st. -/
def At (f : Nat → Int) (off i : Nat) (st : Int) : Prop := off ≤ i ∧ run f off (i - off) = st
theorem At.start (f : Nat → Int) (off : Nat) : At f off off 0 := ⟨Nat.le_refl _, by simp [run]⟩
theorem At.next {f : Nat → Int} {off i : Nat} {st st' : Int} (h : At f off i st) (e : step st (f i) = st') : At f off (i + 1) st' := by
  obtain ⟨h1, h2⟩ := h
  refine ⟨by omega, ?_⟩
  rw [show i + 1 - off = (i - off) + 1 by omega]
  show step _ _ = _
  rw [h2, show off + (i - off) = i by omega, e]

/-- The run of digits from p ends at q. -/
def Digs (f : Nat → Int) (p q : Nat) : Prop := p ≤ q ∧ (∀ i, p ≤ i → i < q → dg (f i) = true) ∧ dg (f q) = false
theorem At.digs {f : Nat → Int} {off i q : Nat} {st st' : Int} (h : At f off i st) (hd : Digs f i q) (h1 : dg (f i) = true)
    (e : step st (f i) = st') (e' : ∀ c, dg c = true → step st' c = st') : At f off q st' := by
  obtain ⟨a1, a2, a3⟩ := hd
  have hlt : i < q := by
    rcases Nat.lt_or_ge i q with k | k
    · exact k
    · rw [show q = i by omega, h1] at a3; cases a3
  have : ∀ k, i + 1 + k ≤ q → At f off (i + 1 + k) st' := by
    intro k
    induction k with
    | zero => exact fun _ => h.next e
    | succ k ih => exact fun hk => (ih (by omega)).next (e' _ (a2 _ (by omega) (by omega)))
  have := this (q - (i + 1)) (by omega)
  rwa [show i + 1 + (q - (i + 1)) = q by omega] at this

/-- The run from off dies at r; ok: what was read is whole. -/
def Ends (f : Nat → Int) (off r : Nat) (ok : Bool) : Prop := ∃ st : Int, At f off r st ∧ 0 ≤ st ∧ step st (f r) = -1 ∧ ok = acc st

theorem Ends.not_lt {f : Nat → Int} {off r r' : Nat} {ok ok' : Bool} (h : Ends f off r ok) (h' : Ends f off r' ok') : ¬ r < r' := by
  intro hlt
  obtain ⟨st, ha, h0, hd, -⟩ := h
  obtain ⟨st', ha', h0', -, -⟩ := h'
  have hn := ha.next hd
  have := run_dead hn.2 (r' - (r + 1))
  rw [show r + 1 - off + (r' - (r + 1)) = r' - off by have := ha.1; omega, ha'.2] at this
  omega
theorem Ends.one {f : Nat → Int} {off r r' : Nat} {ok ok' : Bool} (h : Ends f off r ok) (h' : Ends f off r' ok') : r' = r ∧ ok' = ok := by
  have e : r' = r := by have := h.not_lt h'; have := h'.not_lt h; omega
  subst e
  obtain ⟨st, ha, h0, hd, rfl⟩ := h
  obtain ⟨st', ha', h0', -, rfl⟩ := h'
  have : st = st' := ha.2.symm.trans ha'.2
  exact ⟨rfl, by rw [this]⟩

theorem step_out (st : Int) : step st 256 = -1 := by
  have : dg 256 = false := rfl
  unfold step
  simp [this]
/-- The same bytes give the same run. -/
theorem run_same {f g : Nat → Int} {off off' k : Nat} (h : ∀ i, i < k → g (off' + i) = f (off + i)) : run g off' k = run f off k := by
  induction k with
  | zero => rfl
  | succ k ih => show step _ _ = step _ _; rw [ih (fun i hi => h i (by omega)), h k (by omega)]
theorem Ends.shift {f g : Nat → Int} {off r k : Nat} {ok : Bool} (h : Ends f off r ok) (hg : ∀ i, g (i + k) = f i) : Ends g (off + k) (r + k) ok := by
  obtain ⟨st, ⟨h1, h2⟩, h0, hd, rfl⟩ := h
  refine ⟨st, ⟨by omega, ?_⟩, h0, by rw [hg]; exact hd, rfl⟩
  rw [← h2, show r + k - (off + k) = r - off by omega]
  exact run_same fun i _ => by rw [show off + k + i = (off + i) + k by omega, hg]
theorem Ends.cut {f g : Nat → Int} {off r : Nat} {ok : Bool} (h : Ends f off r ok) (hg : ∀ i, i < r → g i = f i) (hr : g r = 256) : Ends g off r ok := by
  obtain ⟨st, ⟨h1, h2⟩, h0, hd, rfl⟩ := h
  refine ⟨st, ⟨h1, ?_⟩, h0, by rw [hr, step_out], rfl⟩
  rw [← h2]
  exact run_same fun i hi => hg _ (by omega)
/-- No byte is read behind the end. -/
theorem Ends.le {S : ByteArray} {off r : Nat} {ok : Bool} (h : Ends (bt S) off r ok) (ho : off ≤ S.size) : r ≤ S.size := by
  obtain ⟨st, ⟨h1, h2⟩, h0, hd, rfl⟩ := h
  refine Classical.byContradiction fun k => ?_
  have e : run (bt S) off (S.size - off + 1) = -1 := by
    show step _ _ = _
    rw [bt_out (by omega), step_out]
  have := run_dead e (r - (S.size + 1))
  rw [show S.size - off + 1 + (r - (S.size + 1)) = r - off by omega, h2] at this
  omega
theorem Ends.le_off {f : Nat → Int} {off r : Nat} {ok : Bool} (h : Ends f off r ok) : off ≤ r := by
  obtain ⟨st, ⟨h1, h2⟩, -⟩ := h
  exact h1
/-- Behind the end there is nothing to read. -/
theorem Ends.out {S : ByteArray} {off r : Nat} {ok : Bool} (h : Ends (bt S) off r ok) (ho : S.size ≤ off) : r = off ∧ ok = false := by
  have k : Ends (bt S) off off false := ⟨0, At.start _ _, by omega, by rw [bt_out (by omega), step_out], rfl⟩
  exact k.one h

theorem bt_append (P S : ByteArray) (i : Nat) : bt (P ++ S) (i + P.size) = bt S i := by
  unfold bt
  by_cases h : i < S.size
  · have h' : i + P.size < (P ++ S).size := by rw [ByteArray.size_append]; omega
    rw [dif_pos h, dif_pos h', ByteArray.getElem_append_right (by omega)]
    simp
  · have h' : ¬ i + P.size < (P ++ S).size := by rw [ByteArray.size_append]; omega
    rw [dif_neg h, dif_neg h']
theorem bt_extract (S : ByteArray) (r i : Nat) (hr : r ≤ S.size) : bt (S.extract 0 r) i = if i < r then bt S i else 256 := by
  have hs : (S.extract 0 r).size = r := by rw [ByteArray.size_extract]; omega
  by_cases h : i < r
  · rw [if_pos h, bt_in (by omega), bt_in (by omega : i < S.size), ByteArray.getElem_extract]
    simp
  · rw [if_neg h, bt_out (by omega)]
end Go.Proofs.Qxb6618376a
