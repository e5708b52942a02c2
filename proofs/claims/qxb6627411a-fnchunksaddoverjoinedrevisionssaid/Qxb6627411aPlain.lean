/-
  PLAIN LAWS: no Go in sight: the count of chunks over a list of nodes, each told by two things: is it a node over a run; the index just past the nodes below it.
-/
namespace Go.Proofs.Qxb6627411a.Pl
set_option linter.unusedSimpArgs false

/-- The count from index i on, at most f steps. -/
def cnt (ns : List (Bool × Int)) : Nat → Nat → Nat
  | 0, _ => 0
  | f + 1, i => if i < ns.length then (if (ns[i]?.getD (false, 0)).1 then cnt ns f (i + 1) else cnt ns f (ns[i]?.getD (false, 0)).2.toNat + 1) else 0

/-- Each node after the root ends past itself and no further than the list. -/
def Ok (ns : List (Bool × Int)) : Prop := ∀ i, 1 ≤ i → i < ns.length → (i : Int) < (ns[i]?.getD (false, 0)).2 ∧ (ns[i]?.getD (false, 0)).2 ≤ ns.length

/-- The count from index i on. -/
def C (ns : List (Bool × Int)) (i : Nat) : Nat := cnt ns ns.length i

theorem fuel (ns : List (Bool × Int)) (h : Ok ns) : ∀ (f g i : Nat), 1 ≤ i → ns.length ≤ f + i → ns.length ≤ g + i → cnt ns f i = cnt ns g i := by
  intro f
  induction f with
  | zero =>
    intro g i hi hf hg
    cases g with
    | zero => rfl
    | succ g => rw [cnt, cnt, if_neg (by omega)]
  | succ f ih =>
    intro g i hi hf hg
    cases g with
    | zero => rw [cnt, cnt, if_neg (by omega)]
    | succ g =>
      rw [cnt, cnt]
      by_cases hlt : i < ns.length
      · have ho := h i hi hlt
        rw [if_pos hlt, if_pos hlt, ih g (i + 1) (by omega) (by omega) (by omega), ih g _ (by omega) (by omega) (by omega)]
      · rw [if_neg hlt, if_neg hlt]

theorem C_run (ns : List (Bool × Int)) (h : Ok ns) (i : Nat) (hi : 1 ≤ i) (hlt : i < ns.length) (hr : (ns[i]?.getD (false, 0)).1 = true) : C ns i = C ns (i + 1) := by
  unfold C
  rw [fuel ns h ns.length (ns.length + 1) i hi (by omega) (by omega), cnt, if_pos hlt, if_pos hr]

theorem C_one (ns : List (Bool × Int)) (h : Ok ns) (i : Nat) (hi : 1 ≤ i) (hlt : i < ns.length) (hr : (ns[i]?.getD (false, 0)).1 = false) : C ns i = C ns (ns[i]?.getD (false, 0)).2.toNat + 1 := by
  unfold C
  rw [fuel ns h ns.length (ns.length + 1) i hi (by omega) (by omega), cnt, if_pos hlt, if_neg (by simp [hr])]

theorem C_out (ns : List (Bool × Int)) (i : Nat) (hge : ns.length ≤ i) : C ns i = 0 := by
  unfold C
  cases hn : ns.length with
  | zero => rfl
  | succ n => rw [cnt, if_neg (by omega)]

theorem C_le (ns : List (Bool × Int)) (h : Ok ns) : ∀ (d i : Nat), 1 ≤ i → ns.length ≤ d + i → C ns i + i ≤ ns.length ∨ C ns i = 0 := by
  intro d
  induction d with
  | zero => intro i hi hd; exact .inr (C_out ns i (by omega))
  | succ d ih =>
    intro i hi hd
    by_cases hlt : i < ns.length
    · have ho := h i hi hlt
      cases hr : (ns[i]?.getD (false, 0)).1 with
      | true =>
        rw [C_run ns h i hi hlt hr]
        rcases ih (i + 1) (by omega) (by omega) with h1 | h1
        · exact .inl (by omega)
        · exact .inr h1
      | false =>
        rw [C_one ns h i hi hlt hr]
        rcases ih (ns[i]?.getD (false, 0)).2.toNat (by omega) (by omega) with h1 | h1
        · exact .inl (by omega)
        · exact .inl (by omega)
    · exact .inr (C_out ns i (by omega))

/-- Two lists, the one's nodes from place m on being the other's from place 1 on, moved. -/
theorem C_shift (ns bs : List (Bool × Int)) (m : Nat) (hn : Ok ns) (hb : Ok bs) (hm : 1 ≤ m) (hl : ns.length + 1 = m + bs.length ∨ (bs.length = 0 ∧ ns.length = m))
    (hx : ∀ j, 1 ≤ j → j < bs.length → ns[m + j - 1]?.getD (false, 0) = ((bs[j]?.getD (false, 0)).1, (bs[j]?.getD (false, 0)).2 + m - 1)) :
    ∀ (d j : Nat), 1 ≤ j → bs.length ≤ d + j → C ns (m + j - 1) = C bs j := by
  intro d
  induction d with
  | zero =>
    intro j hj hd
    rw [C_out bs j (by omega), C_out ns _ (by omega)]
  | succ d ih =>
    intro j hj hd
    by_cases hlt : j < bs.length
    · have ho := hb j hj hlt
      have e := hx j hj hlt
      have hlt' : m + j - 1 < ns.length := by omega
      cases hr : (bs[j]?.getD (false, 0)).1 with
      | true =>
        rw [C_run bs hb j hj hlt hr, C_run ns hn _ (by omega) hlt' (by rw [e]; exact hr), ← ih (j + 1) (by omega) (by omega)]
        congr 1
        omega
      | false =>
        rw [C_one bs hb j hj hlt hr, C_one ns hn _ (by omega) hlt' (by rw [e]; exact hr), e]
        have := ih (bs[j]?.getD (false, 0)).2.toNat (by omega) (by omega)
        rw [← this]
        congr 2
        simp only []
        omega
    · rw [C_out bs j (by omega), C_out ns _ (by omega)]

/-- A list whose nodes up to place m are another's. -/
theorem C_front (ns as : List (Bool × Int)) (m : Nat) (hn : Ok ns) (ha : Ok as) (hm : 1 ≤ m) (hl : as.length = m ∨ (as.length = 0 ∧ m = 1)) (hlm : m ≤ ns.length) (hx : ∀ j, 1 ≤ j → j < as.length → ns[j]?.getD (false, 0) = as[j]?.getD (false, 0)) :
    ∀ (d j : Nat), 1 ≤ j → j ≤ m → m ≤ d + j → C ns j = C as j + C ns m := by
  intro d
  induction d with
  | zero =>
    intro j hj hjm hd
    obtain rfl : j = m := by omega
    rw [C_out as j (by omega)]
    omega
  | succ d ih =>
    intro j hj hjm hd
    by_cases hlt : j < m
    · have hlt' : j < as.length := by omega
      have ho := ha j hj hlt'
      have e := hx j hj hlt'
      cases hr : (as[j]?.getD (false, 0)).1 with
      | true =>
        rw [C_run as ha j hj hlt' hr, C_run ns hn j hj (by omega) (by rw [e]; exact hr), ih (j + 1) (by omega) (by omega) (by omega)]
      | false =>
        rw [C_one as ha j hj hlt' hr, C_one ns hn j hj (by omega) (by rw [e]; exact hr), e, ih _ (by omega) (by omega) (by omega)]
        omega
    · obtain rfl : j = m := by omega
      rw [C_out as j (by omega)]
      omega

/-- THE JOINED LIST: the root of a, a's nodes below it, b's nodes below its root, each moved. -/
def joined (r : Bool × Int) (as bs : List (Bool × Int)) (m : Nat) : List (Bool × Int) := r :: (as.tail ++ bs.tail.map fun x => (x.1, x.2 + (m : Int) - 1))

theorem tail_getD (l : List (Bool × Int)) (j : Nat) (hj : 1 ≤ j) : l.tail[j - 1]? = l[j]? := by
  obtain ⟨j, rfl⟩ : ∃ q, j = q + 1 := ⟨j - 1, by omega⟩
  cases l <;> simp

theorem joined_length (r : Bool × Int) (as bs : List (Bool × Int)) (m : Nat) : (joined r as bs m).length = 1 + (as.length - 1) + (bs.length - 1) := by
  simp [joined]; omega

theorem joined_a (r : Bool × Int) (as bs : List (Bool × Int)) (m j : Nat) (hj : 1 ≤ j) (hlt : j < as.length) : (joined r as bs m)[j]?.getD (false, 0) = as[j]?.getD (false, 0) := by
  obtain ⟨j, rfl⟩ : ∃ q, j = q + 1 := ⟨j - 1, by omega⟩
  have : (joined r as bs m)[j + 1]? = (as.tail ++ bs.tail.map fun x => (x.1, x.2 + (m : Int) - 1))[j]? := by simp [joined]
  rw [this, List.getElem?_append_left (by simp; omega)]
  have := tail_getD as (j + 1) hj
  simp only [Nat.add_sub_cancel] at this
  rw [this]

theorem joined_b (r : Bool × Int) (as bs : List (Bool × Int)) (m j : Nat) (hm : m = 1 + (as.length - 1)) (hj : 1 ≤ j) (hlt : j < bs.length) :
    (joined r as bs m)[m + j - 1]?.getD (false, 0) = ((bs[j]?.getD (false, 0)).1, (bs[j]?.getD (false, 0)).2 + m - 1) := by
  have h1 : m + j - 1 = (as.length - 1 + (j - 1)) + 1 := by omega
  have : (joined r as bs m)[m + j - 1]? = (as.tail ++ bs.tail.map fun x => (x.1, x.2 + (m : Int) - 1))[as.length - 1 + (j - 1)]? := by rw [h1]; simp [joined]
  rw [this, List.getElem?_append_right (by simp)]
  have h2 : as.length - 1 + (j - 1) - as.tail.length = j - 1 := by simp
  rw [h2, List.getElem?_map, tail_getD bs j hj]
  have : bs[j]? = some bs[j] := by simp [hlt]
  rw [this]
  simp

theorem joined_ok (r : Bool × Int) (as bs : List (Bool × Int)) (m : Nat) (hm : m = 1 + (as.length - 1)) (ha : Ok as) (hb : Ok bs) : Ok (joined r as bs m) := by
  intro i hi hlt
  rw [joined_length] at hlt
  rw [joined_length]
  by_cases h : i < as.length
  · rw [joined_a r as bs m i hi h]
    have := ha i hi h
    omega
  · have h1 : i = m + (i - m + 1) - 1 := by omega
    have h2 : i - m + 1 < bs.length := by omega
    rw [h1, joined_b r as bs m (i - m + 1) hm (by omega) h2]
    have := hb (i - m + 1) (by omega) h2
    simp only []
    omega

theorem joined_count (r : Bool × Int) (as bs : List (Bool × Int)) (m : Nat) (hm : m = 1 + (as.length - 1)) (ha : Ok as) (hb : Ok bs) : C (joined r as bs m) 1 = C as 1 + C bs 1 := by
  have ho := joined_ok r as bs m hm ha hb
  have hl := joined_length r as bs m
  have h1 := C_front (joined r as bs m) as m ho ha (by omega) (by omega) (by omega) (fun j hj hlt => joined_a r as bs m j hj hlt) m 1 (by omega) (by omega) (by omega)
  have h2 := C_shift (joined r as bs m) bs m ho hb (by omega) (by omega) (fun j hj hlt => joined_b r as bs m j hm hj hlt) bs.length 1 (by omega) (by omega)
  rw [h1, ← h2]
  congr 2

/-- THE WRAPPED LIST: the root, one node over all the rest, the nodes below the root, each moved by one. -/
def wrapped (r x : Bool × Int) (as : List (Bool × Int)) : List (Bool × Int) := r :: x :: as.tail.map fun y => (y.1, y.2 + 1)

theorem wrapped_length (r x : Bool × Int) (as : List (Bool × Int)) : (wrapped r x as).length = 2 + (as.length - 1) := by
  simp [wrapped]; omega

theorem wrapped_at (r x : Bool × Int) (as : List (Bool × Int)) (j : Nat) (hj : 1 ≤ j) (hlt : j < as.length) : (wrapped r x as)[2 + j - 1]?.getD (false, 0) = ((as[j]?.getD (false, 0)).1, (as[j]?.getD (false, 0)).2 + (2 : Nat) - 1) := by
  have h1 : 2 + j - 1 = (j - 1) + 2 := by omega
  have : (wrapped r x as)[2 + j - 1]? = (as.tail.map fun y => (y.1, y.2 + 1))[j - 1]? := by rw [h1]; simp [wrapped]
  rw [this, List.getElem?_map, tail_getD as j hj]
  have : as[j]? = some as[j] := by simp [hlt]
  rw [this]
  simp
  omega

theorem wrapped_ok (r x : Bool × Int) (as : List (Bool × Int)) (ha : Ok as) (hx : x.2 = 2 + (as.length - 1 : Nat)) : Ok (wrapped r x as) := by
  intro i hi hlt
  rw [wrapped_length] at hlt
  rw [wrapped_length]
  by_cases h : i = 1
  · subst h
    simp [wrapped, hx]
    omega
  · have h1 : i = 2 + (i - 1) - 1 := by omega
    have h2 : i - 1 < as.length := by omega
    rw [h1, wrapped_at r x as (i - 1) (by omega) h2]
    have := ha (i - 1) (by omega) h2
    simp only []
    omega

theorem wrapped_run (r x : Bool × Int) (as : List (Bool × Int)) (ha : Ok as) (hx : x.2 = 2 + (as.length - 1 : Nat)) (hr : x.1 = true) : C (wrapped r x as) 1 = C as 1 := by
  have ho := wrapped_ok r x as ha hx
  have hl := wrapped_length r x as
  rw [C_run _ ho 1 (by omega) (by omega) (by simp [wrapped, hr])]
  exact C_shift (wrapped r x as) as 2 ho ha (by omega) (by omega) (fun j hj hlt => wrapped_at r x as j hj hlt) as.length 1 (by omega) (by omega)

theorem wrapped_chunk (r x : Bool × Int) (as : List (Bool × Int)) (ha : Ok as) (hx : x.2 = 2 + (as.length - 1 : Nat)) (hr : x.1 = false) : C (wrapped r x as) 1 = 1 := by
  have ho := wrapped_ok r x as ha hx
  have hl := wrapped_length r x as
  rw [C_one _ ho 1 (by omega) (by omega) (by simp [wrapped, hr])]
  rw [C_out]
  simp [wrapped] at hl ⊢
  omega

end Go.Proofs.Qxb6627411a.Pl
