/- The plain side of seat b6001617a: counts, sums and cuts over lists of bytes. No Go in sight. -/
import Derived.Lib.Join
namespace Go.Proofs.Qxb6001617a.Plain

/-- how many commas -/
def cnt (l : List UInt8) : Nat := l.count 44

theorem cnt_le (l : List UInt8) : cnt l ≤ l.length := List.count_le_length

theorem cnt_append (a b : List UInt8) : cnt (a ++ b) = cnt a + cnt b := by simp [cnt, List.count_append]

theorem take_snoc (s : ByteArray) (k : Nat) (h : k < s.size) : s.data.toList.take (k + 1) = s.data.toList.take k ++ [s[k]] := by
  rw [List.take_succ_eq_append_getElem (by simpa using h)]; rfl

theorem cnt_snoc (s : ByteArray) (k : Nat) (h : k < s.size) : cnt (s.data.toList.take (k + 1)) = cnt (s.data.toList.take k) + (if s[k].toNat = 44 then 1 else 0) := by
  rw [take_snoc s k h, cnt_append]
  congr 1
  by_cases hc : s[k] = 44
  · simp [cnt, hc]
  · have : ¬ s[k].toNat = 44 := fun e => hc (UInt8.toNat_inj.1 (by simpa using e))
    simp [cnt, hc, this]

/-- the bytes of a list of strings -/
def total (ss : List ByteArray) : Nat := (ss.map (·.size)).sum
/-- the commas of a list of strings -/
def commas (ss : List ByteArray) : Nat := (ss.map fun s => cnt s.data.toList).sum
/-- the joined value -/
def J (ss : List ByteArray) : List UInt8 := Lib.join (ss.map (·.data.toList)) [44]

theorem total_snoc (ss : List ByteArray) (k : Nat) (h : k < ss.length) : total (ss.take (k + 1)) = total (ss.take k) + (ss.getD k ByteArray.empty).size := by
  have e : ss.getD k ByteArray.empty = ss[k] := by simp [List.getD, h]
  rw [e, List.take_succ_eq_append_getElem h]
  unfold total
  rw [List.map_append, List.sum_append]
  simp

theorem commas_snoc (ss : List ByteArray) (k : Nat) (h : k < ss.length) : commas (ss.take (k + 1)) = commas (ss.take k) + cnt (ss.getD k ByteArray.empty).data.toList := by
  have e : ss.getD k ByteArray.empty = ss[k] := by simp [List.getD, h]
  rw [e, List.take_succ_eq_append_getElem h]
  unfold commas
  rw [List.map_append, List.sum_append]
  simp

theorem total_take_le (ss : List ByteArray) (k : Nat) : total (ss.take k) ≤ total ss := by
  induction ss generalizing k with
  | nil => simp [total]
  | cons s t ih =>
    cases k with
    | zero => simp [total]
    | succ k =>
      have := ih k
      simp only [total, List.take_succ_cons, List.map_cons, List.sum_cons] at this ⊢
      omega

theorem commas_le (ss : List ByteArray) : commas ss ≤ total ss := by
  induction ss with
  | nil => simp [commas, total]
  | cons s t ih =>
    have h := cnt_le s.data.toList
    have e : s.data.toList.length = s.size := by simp
    simp only [commas, total, List.map_cons, List.sum_cons] at ih ⊢
    omega

theorem lens_total (ss : List ByteArray) : Lib.lens (ss.map (·.data.toList)) = total ss := by
  induction ss with
  | nil => rfl
  | cons s t ih =>
    simp only [Lib.lens, total, List.map_cons, List.sum_cons] at ih ⊢
    rw [ih]
    have e : s.data.toList.length = s.size := by simp
    omega

theorem J_length (ss : List ByteArray) : (J ss).length = total ss + (ss.length - 1) := by
  cases ss with
  | nil => rfl
  | cons s t =>
    have h := Lib.join_length s.data.toList (t.map (·.data.toList)) [44]
    have e := lens_total (s :: t)
    simp only [List.map_cons] at e
    unfold J
    rw [List.map_cons, h, e]
    simp
    omega

theorem cnt_tail (r : List (List UInt8)) : cnt (Lib.joinTail [44] r) = r.length + (r.map cnt).sum := by
  induction r with
  | nil => rfl
  | cons y r ih =>
    have e : Lib.joinTail [44] (y :: r) = [44] ++ y ++ Lib.joinTail [44] r := by simp [Lib.joinTail]
    rw [e, cnt_append, cnt_append, ih]
    have : cnt [44] = 1 := by decide
    simp
    omega

theorem J_commas (ss : List ByteArray) : cnt (J ss) = commas ss + (ss.length - 1) := by
  cases ss with
  | nil => rfl
  | cons s t =>
    unfold J
    rw [List.map_cons, Lib.join_cons, cnt_append, cnt_tail]
    have e : ((t.map (·.data.toList)).map cnt).sum = commas t := by simp [commas, Function.comp_def]
    have e2 : commas (s :: t) = cnt s.data.toList + commas t := by simp [commas]
    rw [e, e2]
    simp
    omega

end Go.Proofs.Qxb6001617a.Plain
