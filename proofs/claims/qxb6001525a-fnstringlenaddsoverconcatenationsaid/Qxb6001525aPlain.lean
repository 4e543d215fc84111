/- The plain side of seat b6001525a: the encoder and the measure as functions on lists of numbers. No Go in sight. -/
namespace Go.Proofs.Qxb6001525a.Plain

/-- a hex digit's byte -/
def hexd (n : Int) : Int := if n < 10 then 48 + n else 87 + n

/-- what zzEncode lays down for one byte -/
def encB (c : Int) : List Int :=
  if c = 34 then [92, 34] else if c = 92 then [92, 92] else if c = 47 then [92, 47]
  else if c < 32 then [92, 117, 48, 48, hexd (c / 16), hexd (c % 16)] else [c]

/-- what lies between the quotes -/
def body (zs : List Int) : List Int := zs.flatMap encB

/-- the opening quote and the body -/
def encP (zs : List Int) : List Int := 34 :: body zs

/-- the whole literal -/
def encW (zs : List Int) : List Int := encP zs ++ [34]

/-- no quote stands bare; no backslash stands last. The Bool: behind a backslash. -/
def safe : Bool → List Int → Bool
  | esc, [] => !esc
  | true, _ :: t => safe false t
  | false, c :: t => if c = 34 then false else if c = 92 then safe true t else safe false t

theorem hexd_plain (n : Int) (h0 : 0 ≤ n) (h1 : n < 16) : hexd n ≠ 34 ∧ hexd n ≠ 92 := by
  unfold hexd; split <;> omega

theorem safe_encB (c : Int) (h0 : 0 ≤ c) (t : List Int) : safe false (encB c ++ t) = safe false t := by
  unfold encB
  split
  · simp [safe]
  · split
    · simp [safe]
    · split
      · simp [safe]
      · split
        · have h1 := hexd_plain (c / 16) (by omega) (by omega)
          have h2 := hexd_plain (c % 16) (by omega) (by omega)
          simp [safe, h1, h2]
        · rename_i a b _ _
          simp [safe, a, b]

theorem safe_body (zs : List Int) (h : ∀ n ∈ zs, 0 ≤ n) : safe false (body zs) = true := by
  induction zs with
  | nil => simp [body, safe]
  | cons c t ih =>
    have e : body (c :: t) = encB c ++ body t := by simp [body]
    rw [e, safe_encB c (h c (by simp))]
    exact ih (fun n hn => h n (by simp [hn]))

theorem encB_len (c : Int) : 1 ≤ (encB c).length ∧ (encB c).length ≤ 6 := by
  unfold encB; repeat' split
  all_goals simp

theorem body_len (zs : List Int) : (body zs).length ≤ 6 * zs.length := by
  induction zs with
  | nil => simp [body]
  | cons c t ih =>
    have e : body (c :: t) = encB c ++ body t := by simp [body]
    have := encB_len c
    rw [e]; simp; omega

theorem encP_len (zs : List Int) : (encP zs).length ≤ 6 * zs.length + 1 := by
  have := body_len zs
  simp [encP]; omega

theorem encP_snoc (zs : List Int) (k : Nat) (h : k < zs.length) : encP (zs.take (k + 1)) = encP (zs.take k) ++ encB (zs.getD k 0) := by
  have e : zs.getD k 0 = zs[k] := by simp [List.getD, h]
  rw [e, List.take_succ_eq_append_getElem h]
  show 34 :: (zs.take k ++ [zs[k]]).flatMap encB = _
  rw [List.flatMap_append]
  simp [encP, body]

theorem body_append (a b : List Int) : body (a ++ b) = body a ++ body b := by simp [body]

/-- one round of the measure, inside the body -/
theorem safe_step (b : List Int) (j : Nat) (hj : j < b.length) (hs : safe false (b.drop j) = true) :
    b.getD j 0 ≠ 34 ∧ (b.getD j 0 = 92 → j + 2 ≤ b.length ∧ safe false (b.drop (j + 2)) = true) ∧ (b.getD j 0 ≠ 92 → safe false (b.drop (j + 1)) = true) := by
  rw [List.drop_eq_getElem_cons hj] at hs
  have e : b.getD j 0 = b[j] := by simp [List.getD, hj]
  rw [e]
  simp only [safe] at hs
  split at hs
  · simp at hs
  · rename_i h34
    refine ⟨h34, ?_, ?_⟩
    · intro h92
      simp only [h92] at hs
      by_cases h1 : j + 1 < b.length
      · rw [List.drop_eq_getElem_cons h1] at hs
        simp only [safe] at hs
        exact ⟨by omega, by simpa using hs⟩
      · rw [List.drop_eq_nil_of_le (by omega)] at hs
        simp [safe] at hs
    · intro h92
      simpa [h92] using hs

/-- the cells of a measured literal -/
theorem at_body (b suf : List Int) (j : Nat) (hj : j < b.length) : (34 :: (b ++ 34 :: suf)).getD (j + 1) 0 = b.getD j 0 := by
  simp [List.getD, List.getElem?_append, hj]
theorem at_end (b suf : List Int) : (34 :: (b ++ 34 :: suf)).getD (b.length + 1) 0 = 34 := by
  simp [List.getD]

end Go.Proofs.Qxb6001525a.Plain
