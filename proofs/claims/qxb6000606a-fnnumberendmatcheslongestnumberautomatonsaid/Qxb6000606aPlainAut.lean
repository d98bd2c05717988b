import Derived.Test.Qxb6000606aPlain
namespace Go.Proofs.Qxb6000606a.Pl

/-! ### The automaton -/

/-- The next state, or -1. -/
def nxt (st : Int) (c : UInt8) : Int :=
  if st = 0 then (if dig c then 1 else if isDot c then 2 else -1)
  else if st = 1 then (if dig c then 1 else if isDot c then 3 else if isE c then 4 else -1)
  else if st = 2 then (if dig c then 3 else -1)
  else if st = 3 then (if dig c then 3 else if isE c then 4 else -1)
  else if st = 4 then (if dig c then 6 else if sgn c then 5 else -1)
  else if st = 5 then (if dig c then 6 else -1)
  else if st = 6 then (if dig c then 6 else -1)
  else -1

def acc (st : Int) : Bool := decide (st = 1) || decide (st = 3) || decide (st = 6)

/-- The automaton from state st at place j, the best end so far. -/
def aut (st : Int) (best j : Nat) : List UInt8 → Nat
  | [] => best
  | c :: l => if nxt st c < 0 then best else aut (nxt st c) (if acc (nxt st c) then j + 1 else best) (j + 1) l

def autAt (l : List UInt8) (st : Int) (best j : Nat) : Nat := aut st best j (l.drop j)

theorem autAt_end (l : List UInt8) (st : Int) (best j : Nat) (h : l.length ≤ j) : autAt l st best j = best := by
  unfold autAt
  rw [List.drop_eq_nil_of_le h]
  rfl

theorem autAt_stop (l : List UInt8) (st : Int) (best j : Nat) (c : UInt8) (h : l[j]? = some c) (hn : nxt st c < 0) : autAt l st best j = best := by
  unfold autAt
  rw [drop_cons l j c h, aut, if_pos hn]

theorem autAt_step (l : List UInt8) (st : Int) (best j : Nat) (c : UInt8) (h : l[j]? = some c) (hn : ¬ nxt st c < 0) :
    autAt l (nxt st c) (if acc (nxt st c) then j + 1 else best) (j + 1) = autAt l st best j := by
  unfold autAt
  rw [drop_cons l j c h, aut, if_neg hn]

theorem aut6 (l : List UInt8) (b j : Nat) : aut 6 b j l = if 0 < lead l then j + lead l else b := by
  induction l generalizing b j with
  | nil => simp [aut, lead]
  | cons c l ih =>
    by_cases hd : dig c = true
    · simp [aut, lead, nxt, hd, acc, ih]; split <;> omega
    · simp [aut, lead, nxt, hd]

theorem aut5 (l : List UInt8) (b j : Nat) : aut 5 b j l = if 0 < lead l then j + lead l else b := by
  cases l with
  | nil => simp [aut, lead]
  | cons c l =>
    by_cases hd : dig c = true
    · simp [aut, lead, nxt, hd, acc, aut6]; split <;> omega
    · simp [aut, lead, nxt, hd]

theorem sgn_not_dig (c : UInt8) (h : sgn c = true) : dig c = false := by
  simp only [sgn, Bool.or_eq_true, decide_eq_true_eq] at h
  simp only [dig, Bool.and_eq_false_iff, decide_eq_false_iff_not]
  omega

theorem isE_not_dig (c : UInt8) (h : isE c = true) : dig c = false := by
  simp only [isE, Bool.or_eq_true, decide_eq_true_eq] at h
  simp only [dig, Bool.and_eq_false_iff, decide_eq_false_iff_not]
  omega

theorem isDot_not_dig (c : UInt8) (h : isDot c = true) : dig c = false := by
  simp only [isDot, decide_eq_true_eq] at h
  simp only [dig, Bool.and_eq_false_iff, decide_eq_false_iff_not]
  omega

theorem isDot_not_E (c : UInt8) (h : isDot c = true) : isE c = false := by
  simp only [isDot, decide_eq_true_eq] at h
  simp only [isE, Bool.or_eq_false_iff, decide_eq_false_iff_not]
  omega

theorem aut4 (l : List UInt8) (b j : Nat) : aut 4 b j l = if at? sgn l 0 then (if 0 < lead (l.drop 1) then j + 1 + lead (l.drop 1) else b) else (if 0 < lead l then j + lead l else b) := by
  cases l with
  | nil => simp [aut, lead, at?]
  | cons c l =>
    by_cases hs : sgn c = true
    · simp [aut, at?, nxt, hs, acc, aut5, sgn_not_dig c hs]
    · by_cases hd : dig c = true
      · simp [aut, lead, at?, nxt, hd, hs, acc, aut6]; split <;> omega
      · simp [aut, lead, at?, nxt, hd, hs]

/-- The exponent, read from an offset. -/
theorem expo_eq (l : List UInt8) (e : Nat) : expo l e =
    if at? isE l e then (if at? sgn (l.drop (e + 1)) 0 then (if 0 < lead ((l.drop (e + 1)).drop 1) then e + 1 + 1 + lead ((l.drop (e + 1)).drop 1) else e)
      else (if 0 < lead (l.drop (e + 1)) then e + 1 + lead (l.drop (e + 1)) else e)) else e := by
  unfold expo
  rw [at_drop, List.drop_drop]
  have s1 : skip l (e + 1) = e + 1 + lead (l.drop (e + 1)) := rfl
  have s2 : skip l (e + 2) = e + 2 + lead (l.drop (e + 2)) := rfl
  rw [show e + 1 + 1 = e + 2 from rfl, Nat.add_zero]
  split
  · split
    · by_cases h : 0 < lead (l.drop (e + 2))
      · rw [if_pos h, if_pos (by omega), s2]
      · rw [if_neg h, if_neg (by omega)]
    · by_cases h : 0 < lead (l.drop (e + 1))
      · rw [if_pos h, if_pos (by omega), s1]
      · rw [if_neg h, if_neg (by omega)]
  · rfl

/-- The best end at an accepting state that reads no digit more. -/
theorem autAt4 (l : List UInt8) (e : Nat) (h : at? isE l e = true) : autAt l 4 e (e + 1) = expo l e := by
  rw [expo_eq, if_pos h]
  unfold autAt
  rw [aut4]

theorem at_get {p : UInt8 → Bool} {l : List UInt8} {k : Nat} {c : UInt8} (h : l[k]? = some c) : at? p l k = p c := by simp [at?, h]

theorem autAt3 (l : List UInt8) (n : Nat) : ∀ j, l.length - j = n → autAt l 3 j j = expo l (skip l j) := by
  induction n with
  | zero =>
    intro j hj
    have hl : l.length ≤ j := by omega
    rw [autAt_end _ _ _ _ hl, skip_end _ _ hl]
    unfold expo
    rw [at_none _ _ _ hl]
    simp
  | succ n ih =>
    intro j hj
    obtain ⟨c, hc⟩ : ∃ c, l[j]? = some c := ⟨l[j]'(by omega), by simp⟩
    by_cases hd : dig c = true
    · have hs := autAt_step l 3 j j c hc (by simp [nxt, hd])
      rw [← hs, ← skip_step l j c hc hd, ← ih (j + 1) (by omega)]
      simp [nxt, hd, acc]
    · rw [skip_stop l j c hc (by simpa using hd)]
      by_cases he : isE c = true
      · have hs := autAt_step l 3 j j c hc (by simp [nxt, hd, he])
        rw [← hs, ← autAt4 l j (by rw [at_get hc]; exact he)]
        simp [nxt, hd, he, acc]
      · rw [autAt_stop l 3 j j c hc (by simp [nxt, hd, he])]
        unfold expo
        rw [at_get hc]
        simp [he]

theorem autAt1 (l : List UInt8) (n : Nat) : ∀ j, l.length - j = n → autAt l 1 j j = if at? isDot l (skip l j) then expo l (skip l (skip l j + 1)) else expo l (skip l j) := by
  induction n with
  | zero =>
    intro j hj
    have hl : l.length ≤ j := by omega
    rw [autAt_end _ _ _ _ hl, skip_end _ _ hl, at_none _ _ _ hl]
    unfold expo
    rw [at_none _ _ _ hl]
    simp
  | succ n ih =>
    intro j hj
    obtain ⟨c, hc⟩ : ∃ c, l[j]? = some c := ⟨l[j]'(by omega), by simp⟩
    by_cases hd : dig c = true
    · have hs := autAt_step l 1 j j c hc (by simp [nxt, hd])
      rw [← hs, ← skip_step l j c hc hd, ← ih (j + 1) (by omega)]
      simp [nxt, hd, acc]
    · rw [skip_stop l j c hc (by simpa using hd), at_get hc]
      by_cases hp : isDot c = true
      · have hs := autAt_step l 1 j j c hc (by simp [nxt, hd, hp])
        rw [← hs, if_pos hp, ← autAt3 l _ (j + 1) rfl]
        simp [nxt, hd, hp, acc]
      · rw [if_neg hp]
        by_cases he : isE c = true
        · have hs := autAt_step l 1 j j c hc (by simp [nxt, hd, hp, he])
          rw [← hs, ← autAt4 l j (by rw [at_get hc]; exact he)]
          simp [nxt, hd, hp, he, acc]
        · rw [autAt_stop l 1 j j c hc (by simp [nxt, hd, hp, he])]
          unfold expo
          rw [at_get hc]
          simp [he]

theorem autAt2 (l : List UInt8) (i j : Nat) : autAt l 2 i j = if skip l j = j then i else expo l (skip l j) := by
  cases hc : l[j]? with
  | none =>
    have hl : l.length ≤ j := by simpa using hc
    rw [autAt_end _ _ _ _ hl, skip_end _ _ hl, if_pos rfl]
  | some c =>
    by_cases hd : dig c = true
    · have hs := autAt_step l 2 i j c hc (by simp [nxt, hd])
      have hk := skip_step l j c hc hd
      have hg := skip_ge l (j + 1)
      rw [← hs, if_neg (show ¬ skip l j = j from by omega), ← hk, ← autAt3 l _ (j + 1) rfl]
      simp [nxt, hd, acc]
    · rw [skip_stop l j c hc (by simpa using hd), if_pos rfl, autAt_stop l 2 i j c hc (by simp [nxt, hd])]

/-- THE LAW: the automaton's longest match is the number. -/
theorem aut_num (l : List UInt8) (i : Nat) : autAt l 0 i i = numEnd l i := by
  cases hc : l[i]? with
  | none =>
    have hl : l.length ≤ i := by simpa using hc
    unfold numEnd
    rw [autAt_end _ _ _ _ hl, skip_end _ _ hl, at_none _ _ _ hl]
    simp
  | some c =>
    by_cases hd : dig c = true
    · have hs := autAt_step l 0 i i c hc (by simp [nxt, hd])
      have hk := skip_step l i c hc hd
      have hg := skip_ge l (i + 1)
      have h1 := autAt1 l _ (i + 1) rfl
      rw [← hs]
      have hx : nxt 0 c = 1 := by simp [nxt, hd]
      rw [hx, show acc 1 = true from rfl, if_pos rfl, h1, hk]
      unfold numEnd
      rw [if_neg (show ¬ (skip l i = i ∧ skip l (skip l i + 1) = skip l i + 1) from by omega), if_neg (show ¬ skip l i = i from by omega)]
    · have hk := skip_stop l i c hc (by simpa using hd)
      by_cases hp : isDot c = true
      · have hs := autAt_step l 0 i i c hc (by simp [nxt, hd, hp])
        have h2 := autAt2 l i (i + 1)
        rw [← hs]
        have hx : nxt 0 c = 2 := by simp [nxt, hd, hp]
        rw [hx, show acc 2 = false from rfl, if_neg (by simp), h2]
        unfold numEnd
        rw [hk, at_get hc, hp]
        simp
      · rw [autAt_stop l 0 i i c hc (by simp [nxt, hd, hp])]
        unfold numEnd
        rw [hk, at_get hc]
        simp [hp]

end Go.Proofs.Qxb6000606a.Pl
