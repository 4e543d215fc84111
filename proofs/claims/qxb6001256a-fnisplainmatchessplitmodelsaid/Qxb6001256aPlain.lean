/- The plain side of seat b6001256a: the scanner and the split model as functions on lists of bytes. No Go in sight. -/
namespace Go.Proofs.Qxb6001256a.Plain

/-- an ASCII digit -/
def dig (c : UInt8) : Bool := decide (48 ≤ c.toNat) && decide (c.toNat ≤ 57)

theorem dig_yes (c : UInt8) (h1 : 48 ≤ c.toNat) (h2 : c.toNat ≤ 57) : dig c = true := by simp [dig, h1, h2]
theorem dig_no (c : UInt8) (h : c.toNat < 48 ∨ 57 < c.toNat) : dig c = false := by
  have : ¬ (48 ≤ c.toNat ∧ c.toNat ≤ 57) := by omega
  simpa [dig] using this

/-- isPlain's loop: digits ahead of the point, the point seen, digits behind it -/
def scan : List UInt8 → Nat → Bool → Nat → Bool
  | [], i, p, f => decide (0 < i) && (!p || decide (0 < f))
  | c :: t, i, p, f => if dig c then (if p then scan t i p (f + 1) else scan t (i + 1) p f) else if c.toNat = 46 ∧ p = false then scan t i true f else false

/-- a run of digits that is not empty -/
def digs (l : List UInt8) : Bool := !l.isEmpty && l.all dig

/-- what stands ahead of the first point, and what behind it, if there is one -/
def spl : List UInt8 → List UInt8 × Option (List UInt8)
  | [] => ([], none)
  | c :: t => if c.toNat = 46 then ([], some t) else (c :: (spl t).1, (spl t).2)

/-- the split model -/
def mdl (l : List UInt8) : Bool := match spl l with
  | (b, none) => digs b
  | (b, some a) => digs b && digs a

theorem scan_true (l : List UInt8) (i f : Nat) : scan l i true f = (decide (0 < i) && l.all dig && decide (0 < f + l.length)) := by
  induction l generalizing f with
  | nil => simp [scan]
  | cons c t ih =>
    cases h : dig c with
    | true =>
      have e : f + 1 + t.length = f + (t.length + 1) := by omega
      simp [scan, h, ih, e]
    | false => simp [scan, h]

theorem scan_false (l : List UInt8) (i : Nat) : scan l i false 0 =
    match spl l with
    | (b, none) => decide (0 < i + b.length) && b.all dig
    | (b, some a) => (decide (0 < i + b.length) && b.all dig) && digs a := by
  induction l generalizing i with
  | nil => simp [scan, spl]
  | cons c t ih =>
    by_cases h46 : c.toNat = 46
    · have hd : dig c = false := dig_no c (by omega)
      simp only [scan, hd, spl, h46]
      simp [scan_true, digs]
      cases t <;> simp
    · cases hd : dig c with
      | true =>
        have e1 : scan (c :: t) i false 0 = scan t (i + 1) false 0 := by simp [scan, hd]
        have e2 : spl (c :: t) = (c :: (spl t).1, (spl t).2) := by simp [spl, h46]
        rw [e1, e2, ih (i + 1)]
        rcases hs : spl t with ⟨b, o⟩
        have e3 : i + 1 + b.length = i + (b.length + 1) := by omega
        cases o with
        | none => simp [hd, e3]
        | some a => simp [hd, e3]
      | false =>
        simp only [scan, hd, spl, h46]
        rcases hs : spl t with ⟨b, o⟩
        cases o with
        | none => simp [hd]
        | some a => simp [hd]

theorem scan_mdl (l : List UInt8) : scan l 0 false 0 = mdl l := by
  rw [scan_false, mdl]
  rcases hs : spl l with ⟨b, o⟩
  cases o with
  | none => cases b <;> simp [digs]
  | some a => cases b <;> simp [digs]

/-- no point among them -/
def bare (l : List UInt8) : Prop := ∀ c ∈ l, ¬ c.toNat = 46

theorem spl_bare (l : List UInt8) (h : bare l) : spl l = (l, none) := by
  induction l with
  | nil => rfl
  | cons c t ih =>
    have h1 := h c (by simp)
    have h2 := ih (fun x hx => h x (by simp [hx]))
    simp [spl, h1, h2]

theorem spl_point (l t : List UInt8) (c : UInt8) (h : bare l) (hc : c.toNat = 46) : spl (l ++ c :: t) = (l, some t) := by
  induction l with
  | nil => simp [spl, hc]
  | cons d l ih =>
    have h1 := h d (by simp)
    have h2 := ih (fun x hx => h x (by simp [hx]))
    simp [spl, h1, h2]

/-- zzAllDigits -/
def allDig (s : ByteArray) (lo hi : Nat) : Bool := digs ((s.data.toList.drop lo).take (hi - lo))

theorem drop_cons (s : ByteArray) (k : Nat) (h : k < s.size) : s.data.toList.drop k = s[k] :: s.data.toList.drop (k + 1) := by
  rw [List.drop_eq_getElem_cons (by simpa using h)]; rfl

theorem take_more (s : ByteArray) (lo k : Nat) (hlo : lo ≤ k) (h : k < s.size) : (s.data.toList.drop lo).take (k + 1 - lo) = (s.data.toList.drop lo).take (k - lo) ++ [s[k]] := by
  have hl : k - lo < (s.data.toList.drop lo).length := by rw [List.length_drop]; simp; omega
  rw [show k + 1 - lo = (k - lo) + 1 by omega, List.take_succ_eq_append_getElem hl]
  congr 2
  rw [List.getElem_drop]
  have e : lo + (k - lo) = k := by omega
  simp only [e]
  rfl

theorem allDig_no (s : ByteArray) (lo hi k : Nat) (hlo : lo ≤ k) (hk : k < hi) (hhi : hi ≤ s.size) (hd : dig (s[k]'(by omega)) = false) : allDig s lo hi = false := by
  have hks : k < s.size := by omega
  have hm : s[k] ∈ (s.data.toList.drop lo).take (hi - lo) := by
    have e := take_more s lo k hlo hks
    have : s[k] ∈ (s.data.toList.drop lo).take (k + 1 - lo) := by rw [e]; simp
    exact (List.take_subset_take_left _ (by omega)) this
  have : ((s.data.toList.drop lo).take (hi - lo)).all dig = false := by
    rw [List.all_eq_false]
    exact ⟨_, hm, by simp [hd]⟩
  simp [allDig, digs, this]

theorem allDig_yes (s : ByteArray) (lo hi : Nat) (h : lo < hi) (hhi : hi ≤ s.size) (ha : ((s.data.toList.drop lo).take (hi - lo)).all dig = true) : allDig s lo hi = true := by
  have hne : ((s.data.toList.drop lo).take (hi - lo)).length = hi - lo := by simp; omega
  unfold allDig digs
  rw [ha]
  cases hq : (s.data.toList.drop lo).take (hi - lo) with
  | nil => rw [hq] at hne; simp at hne; omega
  | cons => simp

theorem allDig_none (s : ByteArray) (lo hi : Nat) (h : hi ≤ lo) : allDig s lo hi = false := by
  simp [allDig, digs, show hi - lo = 0 by omega]

/-- the model, the point at k -/
theorem mdl_point (s : ByteArray) (st k : Nat) (hst : st ≤ k) (hk : k < s.size) (hb : bare ((s.data.toList.drop st).take (k - st))) (hc : s[k].toNat = 46) :
    mdl (s.data.toList.drop st) = (allDig s st k && allDig s (k + 1) s.size) := by
  have e : s.data.toList.drop st = (s.data.toList.drop st).take (k - st) ++ s[k] :: s.data.toList.drop (k + 1) := by
    have q := (List.take_append_drop (k - st) (s.data.toList.drop st)).symm
    rw [List.drop_drop, show st + (k - st) = k by omega, drop_cons s k hk] at q
    exact q
  have e2 : (s.data.toList.drop (k + 1)).take (s.size - (k + 1)) = s.data.toList.drop (k + 1) := List.take_of_length_le (by simp)
  unfold mdl
  rw [e, spl_point _ _ _ hb hc]
  simp only [allDig, e2]

/-- the model, no point -/
theorem mdl_bare (s : ByteArray) (st : Nat) (hb : bare ((s.data.toList.drop st).take (s.size - st))) : mdl (s.data.toList.drop st) = allDig s st s.size := by
  have e2 : (s.data.toList.drop st).take (s.size - st) = s.data.toList.drop st := List.take_of_length_le (by simp)
  unfold mdl allDig
  rw [e2] at hb ⊢
  rw [spl_bare _ hb]

/-- how many bytes the minus sign takes -/
def sign (s : ByteArray) : Nat := if h : 0 < s.size then (if (s[0]'h).toNat = 45 then 1 else 0) else 0

end Go.Proofs.Qxb6001256a.Plain
