import Derived.Test.Qxb6000606aPlain
namespace Go.Proofs.Qxb6000606a.Pl

/-! ### The closing quote -/

def isBs (c : UInt8) : Bool := decide ((c.toNat : Int) = 92)

/-- How many bytes up to and with the closing quote; the list begins behind the opening one. -/
def cq (q : UInt8) (bs : Bool) : List UInt8 → Option Nat
  | [] => none
  | [c] => if bs && isBs c then none else if c = q then some 1 else none
  | c :: d :: l => if bs && isBs c then (cq q bs l).map (· + 2) else if c = q then (if d = q then (cq q bs l).map (· + 2) else some 1) else (cq q bs (d :: l)).map (· + 1)

theorem cq_bs (q : UInt8) (bs : Bool) (c : UInt8) (l : List UInt8) (h : (bs && isBs c) = true) : cq q bs (c :: l) = (cq q bs (l.drop 1)).map (· + 2) := by
  cases l with
  | nil => simp [cq, h]
  | cons d l => simp [cq, h]

theorem cq_other (q : UInt8) (bs : Bool) (c : UInt8) (l : List UInt8) (h : (bs && isBs c) = false) (hc : c ≠ q) : cq q bs (c :: l) = (cq q bs l).map (· + 1) := by
  cases l with
  | nil => simp [cq, h, hc]
  | cons d l => simp [cq, h, hc]

theorem cq_dbl (q : UInt8) (bs : Bool) (l : List UInt8) (h : (bs && isBs q) = false) : cq q bs (q :: q :: l) = (cq q bs l).map (· + 2) := by
  simp [cq, h]

theorem cq_stop (q : UInt8) (bs : Bool) (l : List UInt8) (h : (bs && isBs q) = false) (hl : ∀ d, l[0]? = some d → d ≠ q) : cq q bs (q :: l) = some 1 := by
  cases l with
  | nil => simp [cq, h]
  | cons d l => simp [cq, h, hl d (by simp)]

/-- The index behind the closing quote, read from place j; -1 where there is none. -/
def closeAt (l : List UInt8) (q : UInt8) (bs : Bool) (j : Nat) : Int :=
  match cq q bs (l.drop j) with
  | some n => (j : Int) + n
  | none => -1

theorem closeAt_end (l : List UInt8) (q : UInt8) (bs : Bool) (j : Nat) (h : l.length ≤ j) : closeAt l q bs j = -1 := by
  unfold closeAt
  rw [List.drop_eq_nil_of_le h]
  rfl

theorem closeAt_map1 (l m : List UInt8) (q : UInt8) (bs : Bool) (j k : Nat) (h : cq q bs (l.drop j) = (cq q bs (l.drop (j + k))).map (· + k)) (_hm : m = l) : closeAt l q bs (j + k) = closeAt l q bs j := by
  unfold closeAt
  rw [h]
  cases cq q bs (l.drop (j + k)) with
  | none => rfl
  | some n => simp only [Option.map_some]; omega

theorem closeAt_bs (l : List UInt8) (q : UInt8) (bs : Bool) (j : Nat) (c : UInt8) (h : l[j]? = some c) (hb : (bs && isBs c) = true) : closeAt l q bs (j + 2) = closeAt l q bs j :=
  closeAt_map1 l l q bs j 2 (by rw [drop_cons l j c h, cq_bs _ _ _ _ hb, List.drop_drop]) rfl

theorem closeAt_other (l : List UInt8) (q : UInt8) (bs : Bool) (j : Nat) (c : UInt8) (h : l[j]? = some c) (hb : (bs && isBs c) = false) (hc : c ≠ q) : closeAt l q bs (j + 1) = closeAt l q bs j :=
  closeAt_map1 l l q bs j 1 (by rw [drop_cons l j c h, cq_other _ _ _ _ hb hc]) rfl

theorem closeAt_dbl (l : List UInt8) (q : UInt8) (bs : Bool) (j : Nat) (h : l[j]? = some q) (h1 : l[j + 1]? = some q) (hb : (bs && isBs q) = false) : closeAt l q bs (j + 2) = closeAt l q bs j :=
  closeAt_map1 l l q bs j 2 (by rw [drop_cons l j q h, drop_cons l (j + 1) q h1, cq_dbl _ _ _ hb]) rfl

theorem closeAt_stop (l : List UInt8) (q : UInt8) (bs : Bool) (j : Nat) (h : l[j]? = some q) (h1 : ∀ d, l[j + 1]? = some d → d ≠ q) (hb : (bs && isBs q) = false) : closeAt l q bs j = (j : Int) + 1 := by
  unfold closeAt
  rw [drop_cons l j q h, cq_stop _ _ _ hb (by intro d hd; rw [List.getElem?_drop] at hd; exact h1 d hd)]
  rfl

/-- What a close tells: it lies within, it stands at a quote; what is laid behind it, if no quote opens it, does not turn it. -/
theorem cq_facts (q : UInt8) (bs : Bool) (t : List UInt8) (ht : ∀ d, t[0]? = some d → d ≠ q) : ∀ (k : Nat) (m : List UInt8) (n : Nat), m.length ≤ k → cq q bs m = some n →
    1 ≤ n ∧ n ≤ m.length ∧ m[n - 1]? = some q ∧ cq q bs (m.take n ++ t) = some n := by
  intro k
  induction k with
  | zero =>
    intro m n hm h
    have : m = [] := by cases m with
      | nil => rfl
      | cons a b => simp at hm
    subst this
    simp [cq] at h
  | succ k ih =>
    intro m n hm h
    cases m with
    | nil => simp [cq] at h
    | cons c l =>
      simp only [List.length_cons] at hm
      by_cases hb : (bs && isBs c) = true
      · rw [cq_bs _ _ _ _ hb] at h
        cases l with
        | nil => simp [cq] at h
        | cons d l =>
          simp only [List.length_cons] at hm
          simp only [List.drop_succ_cons, List.drop_zero, Option.map_eq_some_iff] at h
          obtain ⟨n', h', rfl⟩ := h
          obtain ⟨i1, i2, i3, i4⟩ := ih l n' (by omega) h'
          refine ⟨by omega, by simp; omega, ?_, ?_⟩
          · rw [show n' + 2 - 1 = (n' - 1) + 1 + 1 from by omega]; simpa using i3
          · simp only [List.take_succ_cons, List.cons_append]
            rw [cq_bs _ _ _ _ hb]
            simp [i4]
      · have hb' : (bs && isBs c) = false := by simpa using hb
        by_cases hc : c = q
        · subst hc
          cases l with
          | nil =>
            rw [cq_stop _ _ _ hb' (by simp)] at h
            simp only [Option.some.injEq] at h
            subst h
            refine ⟨by omega, by simp, by simp, ?_⟩
            simp only [List.take_succ_cons, List.take_nil, List.cons_append, List.nil_append]
            exact cq_stop _ _ _ hb' ht
          | cons d l =>
            simp only [List.length_cons] at hm
            by_cases hd : d = c
            · subst hd
              rw [cq_dbl _ _ _ hb', Option.map_eq_some_iff] at h
              obtain ⟨n', h', rfl⟩ := h
              obtain ⟨i1, i2, i3, i4⟩ := ih l n' (by omega) h'
              refine ⟨by omega, by simp; omega, ?_, ?_⟩
              · rw [show n' + 2 - 1 = (n' - 1) + 1 + 1 from by omega]; simpa using i3
              · simp only [List.take_succ_cons, List.cons_append]
                rw [cq_dbl _ _ _ hb', i4]
                rfl
            · rw [cq_stop _ _ _ hb' (by simpa using hd)] at h
              simp only [Option.some.injEq] at h
              subst h
              refine ⟨by omega, by simp, by simp, ?_⟩
              simp only [List.take_succ_cons, List.take_zero, List.cons_append, List.nil_append]
              exact cq_stop _ _ _ hb' ht
        · rw [cq_other _ _ _ _ hb' hc, Option.map_eq_some_iff] at h
          obtain ⟨n', h', rfl⟩ := h
          obtain ⟨i1, i2, i3, i4⟩ := ih l n' (by omega) h'
          refine ⟨by omega, by simp; omega, ?_, ?_⟩
          · rw [show n' + 1 - 1 = (n' - 1) + 1 from by omega]; simpa using i3
          · simp only [List.take_succ_cons, List.cons_append]
            rw [cq_other _ _ _ _ hb' hc, i4]
            rfl

theorem closeAt_cases (l : List UInt8) (q : UInt8) (bs : Bool) (j : Nat) : (closeAt l q bs j = -1 ∧ cq q bs (l.drop j) = none) ∨ ∃ n : Nat, closeAt l q bs j = (j : Int) + n ∧ cq q bs (l.drop j) = some n := by
  unfold closeAt
  cases cq q bs (l.drop j) with
  | none => exact Or.inl ⟨rfl, rfl⟩
  | some n => exact Or.inr ⟨n, rfl, rfl⟩

/-- No close, and the text ahead of the quote dropped: no close. -/
theorem close_none (l : List UInt8) (q : UInt8) (bs : Bool) (o : Nat) (h : closeAt l q bs (o + 1) = -1) : closeAt (l.drop o) q bs 1 = -1 := by
  rcases closeAt_cases l q bs (o + 1) with ⟨_, h1⟩ | ⟨n, h1, _⟩
  · unfold closeAt
    rw [List.drop_drop, h1]
  · omega

/-- A close at r: all that the law asks. -/
theorem close_some (l : List UInt8) (q : UInt8) (bs : Bool) (o : Nat) (ho : o < l.length) (h : ¬ closeAt l q bs (o + 1) = -1) :
    ∃ r : Nat, closeAt l q bs (o + 1) = (r : Int) ∧ o + 2 ≤ r ∧ r ≤ l.length ∧ l[r - 1]? = some q ∧ closeAt (l.drop o) q bs 1 = (r : Int) - (o : Int) ∧
      ∀ t : List UInt8, (∀ d, t[0]? = some d → d ≠ q) → closeAt (l.take r ++ t) q bs (o + 1) = (r : Int) := by
  rcases closeAt_cases l q bs (o + 1) with ⟨h1, _⟩ | ⟨n, h1, h2⟩
  · exact absurd h1 h
  · obtain ⟨i1, i2, i3, _⟩ := cq_facts q bs [] (by simp) _ _ n (Nat.le_refl _) h2
    simp only [List.length_drop] at i2
    rw [List.getElem?_drop] at i3
    refine ⟨o + 1 + n, by omega, by omega, by omega, ?_, ?_, ?_⟩
    · rw [show o + 1 + n - 1 = o + 1 + (n - 1) from by omega]; exact i3
    · unfold closeAt
      rw [List.drop_drop, h2]
      simp only
      omega
    · intro t ht
      obtain ⟨_, _, _, i4⟩ := cq_facts q bs t ht _ _ n (Nat.le_refl _) h2
      unfold closeAt
      rw [List.drop_append_of_le_length (by simp; omega), List.drop_take, show o + 1 + n - (o + 1) = n from by omega, i4]
      simp

/-! ### Quoted text -/

def esc (q : UInt8) (bs : Bool) (c : UInt8) : List UInt8 := if c = q then [q, q] else if bs && isBs c then [92, 92] else [c]

def enc (q : UInt8) (bs : Bool) (b : List UInt8) : List UInt8 := b.flatMap (esc q bs)

theorem enc_nil (q : UInt8) (bs : Bool) : enc q bs [] = [] := rfl
theorem enc_cons (q : UInt8) (bs : Bool) (c : UInt8) (b : List UInt8) : enc q bs (c :: b) = esc q bs c ++ enc q bs b := by simp [enc]
theorem enc_snoc (q : UInt8) (bs : Bool) (c : UInt8) (b : List UInt8) : enc q bs (b ++ [c]) = enc q bs b ++ esc q bs c := by simp [enc]

theorem isBs_eq {c : UInt8} (h : isBs c = true) : c = 92 := by
  simp only [isBs, decide_eq_true_eq] at h
  apply UInt8.toNat_inj.1
  have : c.toNat = 92 := by omega
  rw [this]
  rfl

theorem esc_len (q : UInt8) (bs : Bool) (c : UInt8) : (esc q bs c).length ≤ 2 := by
  unfold esc
  split
  · simp
  · split <;> simp

theorem enc_len (q : UInt8) (bs : Bool) (b : List UInt8) : (enc q bs b).length ≤ 2 * b.length := by
  induction b with
  | nil => simp [enc_nil]
  | cons c b ih =>
    have := esc_len q bs c
    rw [enc_cons]
    simp
    omega

theorem cq_enc (q : UInt8) (bs : Bool) (b t : List UInt8) (hq : (bs && isBs q) = false) : cq q bs (enc q bs b ++ t) = (cq q bs t).map (· + (enc q bs b).length) := by
  induction b with
  | nil =>
    simp only [enc_nil, List.nil_append, List.length_nil, Nat.add_zero]
    cases cq q bs t <;> rfl
  | cons c b ih =>
    rw [enc_cons]
    unfold esc
    by_cases hc : c = q
    · subst hc
      rw [if_pos rfl]
      simp only [List.cons_append, List.nil_append]
      rw [cq_dbl _ _ _ hq, ih]
      cases cq c bs t with
      | none => rfl
      | some n => simp; omega
    · rw [if_neg hc]
      by_cases hb : (bs && isBs c) = true
      · rw [if_pos hb]
        have h92 : (bs && isBs 92) = true := by simp only [Bool.and_eq_true] at hb ⊢; exact ⟨hb.1, by rw [← isBs_eq hb.2]; exact hb.2⟩
        simp only [List.cons_append, List.nil_append]
        rw [cq_bs _ _ _ _ h92]
        simp only [List.drop_succ_cons, List.drop_zero]
        rw [ih]
        cases cq q bs t with
        | none => rfl
        | some n => simp; omega
      · rw [if_neg hb]
        simp only [List.cons_append, List.nil_append]
        rw [cq_other _ _ _ _ (by simpa using hb) hc, ih]
        cases cq q bs t with
        | none => rfl
        | some n => simp; omega

/-- THE ROUND TRIP: the close of a quoted text is its end. -/
theorem close_quoted (p b s : List UInt8) (q : UInt8) (bs : Bool) (hq : (bs && isBs q) = false) (hs : ∀ d, s[0]? = some d → d ≠ q) :
    closeAt (p ++ (q :: enc q bs b ++ [q]) ++ s) q bs (p.length + 1) = ((p.length + ((enc q bs b).length + 2) : Nat) : Int) := by
  unfold closeAt
  have e : (p ++ (q :: enc q bs b ++ [q]) ++ s).drop (p.length + 1) = enc q bs b ++ (q :: s) := by
    rw [show p ++ (q :: enc q bs b ++ [q]) ++ s = (p ++ [q]) ++ (enc q bs b ++ (q :: s)) from by simp]
    rw [show p.length + 1 = (p ++ [q]).length from by simp]
    exact List.drop_left
  rw [e, cq_enc _ _ _ _ hq, cq_stop _ _ _ hq hs]
  simp only [Option.map_some]
  omega

theorem close_open (p b : List UInt8) (q : UInt8) (bs : Bool) (hq : (bs && isBs q) = false) :
    closeAt (p ++ (q :: enc q bs b)) q bs (p.length + 1) = -1 := by
  unfold closeAt
  have e : (p ++ (q :: enc q bs b)).drop (p.length + 1) = enc q bs b ++ [] := by
    rw [show p ++ (q :: enc q bs b) = (p ++ [q]) ++ (enc q bs b) from by simp]
    rw [show p.length + 1 = (p ++ [q]).length from by simp]
    simp
  rw [e, cq_enc _ _ _ _ hq]
  rfl

end Go.Proofs.Qxb6000606a.Pl
