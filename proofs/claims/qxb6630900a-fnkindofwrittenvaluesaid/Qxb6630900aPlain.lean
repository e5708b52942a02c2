/-
  PLAIN LAWS: no Go in sight: white space at the head of a list of bytes, and the kind that the first other byte names.
-/
namespace Go.Proofs.Qxb6630900a.Pl
set_option linter.unusedSimpArgs false

/-- The four bytes of white space. -/
def ws (c : Int) : Bool := c == 32 || c == 9 || c == 10 || c == 13

/-- How many bytes of white space stand at the head. -/
def spaces (zs : List Int) : Nat := (zs.takeWhile ws).length

/-- The name that a byte gives. -/
def nameOf (c : Int) : ByteArray :=
  if c == 123 then ⟨#[111, 98, 106, 101, 99, 116]⟩
  else if c == 91 then ⟨#[108, 105, 115, 116]⟩
  else if c == 34 then ⟨#[115, 116, 114, 105, 110, 103]⟩
  else if c == 116 then ⟨#[98, 111, 111, 108, 101, 97, 110]⟩
  else if c == 102 then ⟨#[98, 111, 111, 108, 101, 97, 110]⟩
  else if c == 110 then ⟨#[110, 117, 108, 108]⟩
  else ⟨#[110, 117, 109, 98, 101, 114]⟩

/-- The kind of a text. -/
def kindOf (zs : List Int) : ByteArray :=
  match zs.dropWhile ws with
  | [] => ⟨#[110, 111, 116, 104, 105, 110, 103]⟩
  | c :: _ => nameOf c

theorem spaces_eq (zs : List Int) (k : Nat) (hk : k ≤ zs.length) (h : ∀ j, j < k → ws (zs[j]?.getD 0) = true) (he : k = zs.length ∨ ws (zs[k]?.getD 0) = false) : spaces zs = k := by
  unfold spaces
  induction zs generalizing k with
  | nil => simp at hk; subst hk; rfl
  | cons c r ih =>
    cases k with
    | zero =>
      rcases he with he | he
      · simp at he
      · simp at he
        simp [List.takeWhile_cons, he]
    | succ k =>
      have h0 := h 0 (by omega)
      simp at h0
      simp only [List.length_cons] at hk he
      have := ih k (by omega) (fun j hj => by have := h (j + 1) (by omega); simpa using this) (by
        rcases he with he | he
        · exact .inl (by omega)
        · exact .inr (by simpa using he))
      simp [List.takeWhile_cons, h0, this]

theorem spaces_le (zs : List Int) : spaces zs ≤ zs.length := by
  unfold spaces
  exact (List.takeWhile_sublist _).length_le

theorem all_iff (zs : List Int) : zs.all ws = decide (spaces zs = zs.length) := by
  unfold spaces
  induction zs with
  | nil => rfl
  | cons c r ih =>
    by_cases h : ws c = true
    · simp [List.takeWhile_cons, h]
      simpa using ih
    · simp [List.takeWhile_cons, h]

theorem kind_nothing (zs : List Int) (h : spaces zs = zs.length) : kindOf zs = ⟨#[110, 111, 116, 104, 105, 110, 103]⟩ := by
  have hd : zs.dropWhile ws = [] := by
    have e : zs.takeWhile ws ++ zs.dropWhile ws = zs := List.takeWhile_append_dropWhile
    have := congrArg List.length e
    simp only [List.length_append] at this
    unfold spaces at h
    exact List.eq_nil_of_length_eq_zero (by omega)
  unfold kindOf
  rw [hd]

theorem kind_at (zs : List Int) (h : spaces zs < zs.length) : kindOf zs = nameOf (zs[spaces zs]?.getD 0) := by
  unfold spaces at h ⊢
  unfold kindOf
  induction zs with
  | nil => simp at h
  | cons c r ih =>
    by_cases hc : ws c = true
    · have e1 : (c :: r).takeWhile ws = c :: r.takeWhile ws := by simp [List.takeWhile_cons, hc]
      have e2 : (c :: r).dropWhile ws = r.dropWhile ws := by simp [List.dropWhile_cons, hc]
      rw [e1] at h
      rw [e1, e2]
      simp only [List.length_cons] at h
      rw [ih (by omega)]
      simp
    · simp [List.takeWhile_cons, List.dropWhile_cons, hc]

theorem not_ws_at (zs : List Int) (h : spaces zs < zs.length) : ws (zs[spaces zs]?.getD 0) = false := by
  unfold spaces at h ⊢
  induction zs with
  | nil => simp at h
  | cons c r ih =>
    by_cases hc : ws c = true
    · have e1 : (c :: r).takeWhile ws = c :: r.takeWhile ws := by simp [List.takeWhile_cons, hc]
      rw [e1] at h ⊢
      simp only [List.length_cons] at h ⊢
      have := ih (by omega)
      simpa using this
    · simp [List.takeWhile_cons, hc]

theorem kind_append_ws (a b : List Int) (h : a.all ws = true) : kindOf (a ++ b) = kindOf b := by
  unfold kindOf
  have : (a ++ b).dropWhile ws = b.dropWhile ws := by
    induction a with
    | nil => rfl
    | cons c r ih =>
      simp only [List.all_cons, Bool.and_eq_true] at h
      simp [List.dropWhile_cons, h.1, ih h.2]
  rw [this]

theorem kind_append_not (a b : List Int) (h : a.all ws = false) : kindOf (a ++ b) = kindOf a := by
  unfold kindOf
  induction a with
  | nil => simp at h
  | cons c r ih =>
    by_cases hc : ws c = true
    · simp only [List.all_cons, hc, Bool.true_and] at h
      have := ih h
      simpa [List.dropWhile_cons, hc] using this
    · simp [List.dropWhile_cons, hc]

theorem nameOf_cases (c : Int) : nameOf c = ⟨#[111, 98, 106, 101, 99, 116]⟩ ∨ nameOf c = ⟨#[108, 105, 115, 116]⟩ ∨ nameOf c = ⟨#[115, 116, 114, 105, 110, 103]⟩ ∨ nameOf c = ⟨#[98, 111, 111, 108, 101, 97, 110]⟩ ∨
    nameOf c = ⟨#[110, 117, 109, 98, 101, 114]⟩ ∨ nameOf c = ⟨#[110, 117, 108, 108]⟩ := by
  unfold nameOf
  by_cases h1 : c = 123
  · simp [h1]
  by_cases h2 : c = 91
  · simp [h2]
  by_cases h3 : c = 34
  · simp [h3]
  by_cases h4 : c = 116
  · simp [h4]
  by_cases h5 : c = 102
  · simp [h5]
  by_cases h6 : c = 110
  · simp [h6]
  · simp [h1, h2, h3, h4, h5, h6]

theorem kind_cases (zs : List Int) (h : zs.all ws = false) : kindOf zs = ⟨#[111, 98, 106, 101, 99, 116]⟩ ∨ kindOf zs = ⟨#[108, 105, 115, 116]⟩ ∨ kindOf zs = ⟨#[115, 116, 114, 105, 110, 103]⟩ ∨ kindOf zs = ⟨#[98, 111, 111, 108, 101, 97, 110]⟩ ∨
    kindOf zs = ⟨#[110, 117, 109, 98, 101, 114]⟩ ∨ kindOf zs = ⟨#[110, 117, 108, 108]⟩ := by
  rw [all_iff] at h
  have := spaces_le zs
  have h' : spaces zs ≠ zs.length := by simpa using h
  rw [kind_at zs (by omega)]
  exact nameOf_cases _

end Go.Proofs.Qxb6630900a.Pl
