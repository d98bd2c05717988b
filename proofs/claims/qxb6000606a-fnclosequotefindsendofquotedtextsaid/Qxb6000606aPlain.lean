/-
  THE PLAIN FUNCTIONS AND LAWS of this seat: digits, numbers, quotes, over lists of bytes. No Go in sight.
-/
namespace Go.Proofs.Qxb6000606a.Pl

/-- An ASCII digit. -/
def dig (c : UInt8) : Bool := decide (48 ≤ (c.toNat : Int)) && decide ((c.toNat : Int) ≤ 57)

/-- How many digits lead the list. -/
def lead : List UInt8 → Nat
  | [] => 0
  | c :: l => if dig c then lead l + 1 else 0

/-- Where the digits at place i end. -/
def skip (l : List UInt8) (i : Nat) : Nat := i + lead (l.drop i)

theorem lead_le (l : List UInt8) : lead l ≤ l.length := by
  induction l with
  | nil => simp [lead]
  | cons c l ih => simp only [lead]; split <;> simp <;> omega

theorem skip_ge (l : List UInt8) (i : Nat) : i ≤ skip l i := by unfold skip; omega

theorem skip_le (l : List UInt8) (i : Nat) (h : i ≤ l.length) : skip l i ≤ l.length := by
  unfold skip
  have := lead_le (l.drop i)
  simp at this
  omega

theorem drop_cons (l : List UInt8) (i : Nat) (c : UInt8) (h : l[i]? = some c) : l.drop i = c :: l.drop (i + 1) := by
  obtain ⟨hi, rfl⟩ := List.getElem?_eq_some_iff.1 h
  exact List.drop_eq_getElem_cons hi

theorem drop_none (l : List UInt8) (i : Nat) (h : l[i]? = none) : l.drop i = [] := by
  simpa using h

theorem skip_step (l : List UInt8) (i : Nat) (c : UInt8) (h : l[i]? = some c) (hd : dig c = true) : skip l (i + 1) = skip l i := by
  unfold skip
  rw [drop_cons l i c h]
  simp only [lead, hd, if_true]
  omega

theorem skip_stop (l : List UInt8) (i : Nat) (c : UInt8) (h : l[i]? = some c) (hd : dig c = false) : skip l i = i := by
  unfold skip
  rw [drop_cons l i c h]
  simp [lead, hd]

theorem skip_end (l : List UInt8) (i : Nat) (h : l.length ≤ i) : skip l i = i := by
  unfold skip
  rw [List.drop_eq_nil_of_le h]
  simp [lead]

/-- The bytes ahead of the end are digits. -/
theorem lead_dig (l : List UInt8) (k : Nat) (h : k < lead l) : ∃ c, l[k]? = some c ∧ dig c = true := by
  induction l generalizing k with
  | nil => simp [lead] at h
  | cons c l ih =>
    simp only [lead] at h
    split at h
    · cases k with
      | zero => exact ⟨c, by simp, by assumption⟩
      | succ k => simpa using ih k (by omega)
    · omega

theorem skip_dig (l : List UInt8) (i k : Nat) (h1 : i ≤ k) (h2 : k < skip l i) : ∃ c, l[k]? = some c ∧ dig c = true := by
  unfold skip at h2
  obtain ⟨c, hc, hd⟩ := lead_dig (l.drop i) (k - i) (by omega)
  refine ⟨c, ?_, hd⟩
  rw [List.getElem?_drop] at hc
  rw [← hc]
  congr 1
  omega

/-- The byte at the end is none. -/
theorem lead_not (l : List UInt8) (c : UInt8) (h : l[lead l]? = some c) : dig c = false := by
  induction l with
  | nil => simp at h
  | cons d l ih =>
    simp only [lead] at h
    split at h
    · exact ih (by simpa using h)
    · simp at h; subst h; simp_all

theorem skip_not (l : List UInt8) (i : Nat) (c : UInt8) (h : l[skip l i]? = some c) : dig c = false := by
  unfold skip at h
  exact lead_not (l.drop i) c (by rw [List.getElem?_drop]; exact h)

theorem skip_idem (l : List UInt8) (i : Nat) : skip l (skip l i) = skip l i := by
  cases h : l[skip l i]? with
  | none => exact skip_end _ _ (by simpa using h)
  | some c => exact skip_stop _ _ c h (skip_not _ _ _ h)

theorem skip_shift (l : List UInt8) (i j : Nat) : skip (l.drop i) j + i = skip l (i + j) := by
  unfold skip
  rw [List.drop_drop]
  omega

theorem lead_take (l : List UInt8) (n : Nat) : lead (l.take n) = min n (lead l) := by
  induction l generalizing n with
  | nil => simp [lead]
  | cons c l ih =>
    cases n with
    | zero => simp [lead]
    | succ n =>
      simp only [List.take_succ_cons, lead, ih]
      split <;> omega

theorem skip_take (l : List UInt8) (n i : Nat) (h : i ≤ n) : skip (l.take n) i = min n (skip l i) := by
  unfold skip
  rw [List.drop_take, lead_take]
  omega

/-! ### The number -/

def sgn (c : UInt8) : Bool := decide ((c.toNat : Int) = 43) || decide ((c.toNat : Int) = 45)
def isE (c : UInt8) : Bool := decide ((c.toNat : Int) = 101) || decide ((c.toNat : Int) = 69)
def isDot (c : UInt8) : Bool := decide ((c.toNat : Int) = 46)

/-- Does the byte at place k pass the test? -/
def at? (p : UInt8 → Bool) (l : List UInt8) (k : Nat) : Bool := (l[k]?.map p).getD false

/-- The end of the exponent that begins at place e (e itself where there is none). -/
def expo (l : List UInt8) (e : Nat) : Nat :=
  if at? isE l e then
    if at? sgn l (e + 1) then (if e + 2 < skip l (e + 2) then skip l (e + 2) else e)
    else (if e + 1 < skip l (e + 1) then skip l (e + 1) else e)
  else e

/-- Where the number at place i ends. -/
def numEnd (l : List UInt8) (i : Nat) : Nat :=
  if at? isDot l (skip l i) then
    if skip l i = i ∧ skip l (skip l i + 1) = skip l i + 1 then i else expo l (skip l (skip l i + 1))
  else if skip l i = i then i else expo l (skip l i)

theorem at_none (p : UInt8 → Bool) (l : List UInt8) (k : Nat) (h : l.length ≤ k) : at? p l k = false := by
  simp [at?, List.getElem?_eq_none h]

theorem at_lt {p : UInt8 → Bool} {l : List UInt8} {k : Nat} (h : at? p l k = true) : k < l.length := by
  by_cases hk : l.length ≤ k
  · rw [at_none p l k hk] at h; simp at h
  · omega

theorem at_some (p : UInt8 → Bool) (l : List UInt8) (k : Nat) (h : k < l.length) : at? p l k = p l[k] := by
  simp [at?, List.getElem?_eq_getElem h]

theorem at_drop (p : UInt8 → Bool) (l : List UInt8) (i k : Nat) : at? p (l.drop i) k = at? p l (i + k) := by
  simp [at?, List.getElem?_drop]

theorem at_take (p : UInt8 → Bool) (l : List UInt8) (n k : Nat) (h : k < n) : at? p (l.take n) k = at? p l k := by
  simp [at?, h]

theorem at_take_none (p : UInt8 → Bool) (l : List UInt8) (n k : Nat) (h : n ≤ k) : at? p (l.take n) k = false := by
  apply at_none; simp; omega

theorem expo_ge (l : List UInt8) (e : Nat) : e ≤ expo l e := by
  have h1 := skip_ge l (e + 1)
  have h2 := skip_ge l (e + 2)
  unfold expo
  split <;> (try split) <;> (try split) <;> omega

theorem expo_le (l : List UInt8) (e : Nat) (h : e ≤ l.length) : expo l e ≤ l.length := by
  unfold expo
  split
  · have := at_lt (by assumption : at? isE l e = true)
    have h1 := skip_le l (e + 1) (by omega)
    split
    · have := at_lt (by assumption : at? sgn l (e + 1) = true)
      have h2 := skip_le l (e + 2) (by omega)
      split <;> omega
    · split <;> omega
  · omega

theorem numEnd_ge (l : List UInt8) (i : Nat) : i ≤ numEnd l i := by
  have h1 := skip_ge l i
  have h2 := skip_ge l (skip l i + 1)
  have h3 := expo_ge l (skip l i)
  have h4 := expo_ge l (skip l (skip l i + 1))
  unfold numEnd
  split <;> split <;> omega

theorem numEnd_le (l : List UInt8) (i : Nat) (h : i ≤ l.length) : numEnd l i ≤ l.length := by
  unfold numEnd
  have h1 := skip_le l i h
  split
  · have := at_lt (by assumption : at? isDot l (skip l i) = true)
    have h2 := skip_le l (skip l i + 1) (by omega)
    split
    · omega
    · exact expo_le _ _ h2
  · split
    · omega
    · exact expo_le _ _ h1

theorem expo_shift (l : List UInt8) (i e : Nat) : expo (l.drop i) e + i = expo l (i + e) := by
  have h1 := skip_shift l i (e + 1)
  have h2 := skip_shift l i (e + 2)
  unfold expo
  rw [at_drop, at_drop, show i + e + 1 = i + (e + 1) from by omega, show i + e + 2 = i + (e + 2) from by omega]
  split
  · split
    · split <;> split <;> omega
    · split <;> split <;> omega
  · omega

theorem numEnd_shift (l : List UInt8) (i : Nat) : numEnd (l.drop i) 0 + i = numEnd l i := by
  have h0 := skip_shift l i 0
  rw [Nat.add_zero] at h0
  have e0 : i + skip (l.drop i) 0 = skip l i := by omega
  have h1 := skip_shift l i (skip (l.drop i) 0 + 1)
  rw [show i + (skip (l.drop i) 0 + 1) = skip l i + 1 from by omega] at h1
  have h3 := expo_shift l i (skip (l.drop i) 0)
  rw [e0] at h3
  have h4 := expo_shift l i (skip (l.drop i) (skip (l.drop i) 0 + 1))
  rw [show i + skip (l.drop i) (skip (l.drop i) 0 + 1) = skip l (skip l i + 1) from by omega] at h4
  unfold numEnd
  rw [at_drop, e0]
  split
  · split <;> split <;> omega
  · split <;> split <;> omega

theorem expo_cases (l : List UInt8) (e : Nat) :
    (expo l e = e) ∨ (at? isE l e = true ∧ at? sgn l (e + 1) = true ∧ e + 2 < skip l (e + 2) ∧ expo l e = skip l (e + 2)) ∨
    (at? isE l e = true ∧ at? sgn l (e + 1) = false ∧ e + 1 < skip l (e + 1) ∧ expo l e = skip l (e + 1)) := by
  unfold expo
  split
  · split
    · split
      · right; left; simp_all
      · left; rfl
    · split
      · right; right; simp_all
      · left; rfl
  · left; rfl

/-- Cut at its own end, or at its mantissa's, the number's exponent ends where it did. -/
theorem expo_take (l : List UInt8) (e : Nat) : expo (l.take (expo l e)) e = expo l e := by
  rcases expo_cases l e with h | ⟨h1, h2, h3, h⟩ | ⟨h1, h2, h3, h⟩
  · rw [h]
    unfold expo
    rw [at_take_none _ _ _ _ (Nat.le_refl _)]
    simp
  · rw [h]
    have t1 := at_take isE l (skip l (e + 2)) e (by omega)
    have t2 := at_take sgn l (skip l (e + 2)) (e + 1) (by omega)
    have t3 := skip_take l (skip l (e + 2)) (e + 2) (by omega)
    unfold expo
    rw [t1, h1, t2, h2, t3]
    simp
    omega
  · rw [h]
    have t1 := at_take isE l (skip l (e + 1)) e (by omega)
    have t2 := at_take sgn l (skip l (e + 1)) (e + 1) (by omega)
    have t3 := skip_take l (skip l (e + 1)) (e + 1) (by omega)
    unfold expo
    rw [t1, h1, t2, h2, t3]
    simp
    omega

theorem numEnd_take (l : List UInt8) (i : Nat) : numEnd (l.take (numEnd l i)) i = numEnd l i := by
  have h1 := skip_ge l i
  have h2 := skip_ge l (skip l i + 1)
  have h3 := expo_ge l (skip l i)
  have h4 := expo_ge l (skip l (skip l i + 1))
  generalize hn : numEnd l i = n
  have hn' := hn
  unfold numEnd at hn
  split at hn
  · rename_i hdot
    split at hn
    · subst hn
      rename_i hz
      unfold numEnd
      rw [skip_take _ _ _ (Nat.le_refl _), hz.1, Nat.min_self, at_take_none _ _ _ _ (Nat.le_refl _)]
      simp
    · rename_i hz
      have t1 := skip_take l n i (by omega)
      rw [Nat.min_eq_right (by omega)] at t1
      have t2 := skip_take l n (skip l i + 1) (by omega)
      rw [Nat.min_eq_right (by omega)] at t2
      unfold numEnd
      rw [t1, at_take _ _ _ _ (by omega), hdot, if_pos rfl, t2, if_neg hz]
      subst hn
      exact expo_take _ _
  · rename_i hdot
    split at hn
    · subst hn
      rename_i hz
      unfold numEnd
      rw [skip_take _ _ _ (Nat.le_refl _), hz, Nat.min_self, at_take_none _ _ _ _ (Nat.le_refl _)]
      simp
    · rename_i hz
      have t1 := skip_take l n i (by omega)
      rw [Nat.min_eq_right (by omega)] at t1
      have t3 : at? isDot (l.take n) (skip l i) = false := by
        by_cases hk : skip l i < n
        · rw [at_take _ _ _ _ hk]; simpa using hdot
        · exact at_take_none _ _ _ _ (by omega)
      unfold numEnd
      rw [t1, t3, if_neg (by simp), if_neg hz]
      subst hn
      exact expo_take _ _

/-- A number never ends inside a run of digits. -/
theorem expo_skip (l : List UInt8) (e : Nat) (h : skip l e = e) : skip l (expo l e) = expo l e := by
  rcases expo_cases l e with h0 | ⟨h1, h2, h3, h0⟩ | ⟨h1, h2, h3, h0⟩ <;> rw [h0]
  · exact h
  · exact skip_idem _ _
  · exact skip_idem _ _

theorem numEnd_skip (l : List UInt8) (i : Nat) : skip l (numEnd l i) = numEnd l i := by
  unfold numEnd
  split
  · split
    · rename_i h; exact h.1
    · exact expo_skip _ _ (skip_idem _ _)
  · split
    · assumption
    · exact expo_skip _ _ (skip_idem _ _)

theorem numEnd_ge_skip (l : List UInt8) (i : Nat) : skip l i ≤ numEnd l i := by
  have h2 := skip_ge l (skip l i + 1)
  have h3 := expo_ge l (skip l i)
  have h4 := expo_ge l (skip l (skip l i + 1))
  unfold numEnd
  split <;> split <;> omega

end Go.Proofs.Qxb6000606a.Pl
