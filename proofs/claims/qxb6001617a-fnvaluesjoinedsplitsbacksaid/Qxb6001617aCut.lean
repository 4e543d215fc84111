/- The plain side, second part: cutting at commas undoes joining at commas. -/
import Derived.Test.Qxb6001617aPlain
namespace Go.Proofs.Qxb6001617a.Plain

/-- put a byte ahead of the first piece -/
def ahead (c : UInt8) : List (List UInt8) → List (List UInt8)
  | [] => [[c]]
  | p :: ps => (c :: p) :: ps

/-- the pieces between the commas -/
def cut : List UInt8 → List (List UInt8)
  | [] => [[]]
  | c :: t => if c = 44 then [] :: cut t else ahead c (cut t)

theorem cnt_cons (c : UInt8) (t : List UInt8) : cnt (c :: t) = cnt t + if c = 44 then 1 else 0 := by
  by_cases h : c = 44 <;> simp [cnt, h]

theorem cut_plain (a : List UInt8) (h : cnt a = 0) : cut a = [a] := by
  induction a with
  | nil => rfl
  | cons c t ih =>
    rw [cnt_cons] at h
    have hc : ¬ c = 44 := by intro e; simp [e] at h
    have ht : cnt t = 0 := by omega
    simp [cut, hc, ih ht, ahead]

theorem cut_comma (a b : List UInt8) (h : cnt a = 0) : cut (a ++ 44 :: b) = a :: cut b := by
  induction a with
  | nil => simp [cut]
  | cons c t ih =>
    rw [cnt_cons] at h
    have hc : ¬ c = 44 := by intro e; simp [e] at h
    have ht : cnt t = 0 := by omega
    simp [cut, hc, ih ht, ahead]

theorem cut_tail (x : List UInt8) (r : List (List UInt8)) (hx : cnt x = 0) (hr : ∀ y ∈ r, cnt y = 0) : cut (x ++ Lib.joinTail [44] r) = x :: r := by
  induction r generalizing x with
  | nil => simp [Lib.joinTail, cut_plain x hx]
  | cons y r ih =>
    have e : Lib.joinTail [44] (y :: r) = 44 :: (y ++ Lib.joinTail [44] r) := by simp [Lib.joinTail]
    rw [e, cut_comma x _ hx, ih y (hr y (by simp)) (fun z hz => hr z (by simp [hz]))]

theorem cut_J (ts : List ByteArray) (h0 : ts ≠ []) (h : ∀ t ∈ ts, cnt t.data.toList = 0) : cut (J ts) = ts.map (·.data.toList) := by
  cases ts with
  | nil => exact absurd rfl h0
  | cons s t =>
    unfold J
    rw [List.map_cons, Lib.join_cons, cut_tail]
    · exact h s (by simp)
    · intro y hy
      obtain ⟨u, hu, rfl⟩ := List.mem_map.1 hy
      exact h u (by simp [hu])

theorem bytes_inj {a b : ByteArray} (h : a.data.toList = b.data.toList) : a = b := by
  cases a with
  | mk x =>
    cases b with
    | mk y =>
      have : x = y := Array.toList_inj.1 h
      rw [this]

theorem strings_inj {a b : List ByteArray} (h : a.map (·.data.toList) = b.map (·.data.toList)) : a = b := by
  induction a generalizing b with
  | nil => cases b with
    | nil => rfl
    | cons y b => simp at h
  | cons x a ih =>
    cases b with
    | nil => simp at h
    | cons y b =>
      simp only [List.map_cons, List.cons.injEq] at h
      rw [bytes_inj h.1, ih h.2]

/-- the state of the cutting loop: what is done, and where the open piece begins -/
def Cutting (s : ByteArray) (done : List ByteArray) (st k : Nat) : Prop :=
  st ≤ k ∧ done.length ≤ k ∧ cut s.data.toList = done.map (·.data.toList) ++ cut (s.data.toList.drop st) ∧ cnt ((s.data.toList.drop st).take (k - st)) = 0

theorem Cutting.start (s : ByteArray) : Cutting s [] 0 0 := ⟨Nat.le_refl _, Nat.le_refl _, by simp, by simp [cnt]⟩

theorem Cutting.comma {s : ByteArray} {done : List ByteArray} {st k : Nat} (h : Cutting s done st k) (hk : k < s.size) (hc : s[k].toNat = 44) : Cutting s (done ++ [s.extract st k]) (k + 1) (k + 1) := by
  obtain ⟨h1, h2, h3, h4⟩ := h
  refine ⟨Nat.le_refl _, by simp; omega, ?_, by simp [cnt]⟩
  have hk' : k < s.data.toList.length := by simpa using hk
  have e44 : s.data.toList[k] = 44 := by
    have : s[k] = 44 := UInt8.toNat_inj.1 (by simpa using hc)
    exact this
  have e : s.data.toList.drop st = (s.data.toList.drop st).take (k - st) ++ 44 :: s.data.toList.drop (k + 1) := by
    have q := (List.take_append_drop (k - st) (s.data.toList.drop st)).symm
    rw [List.drop_drop, show st + (k - st) = k by omega, List.drop_eq_getElem_cons hk', e44] at q
    exact q
  rw [h3, e, cut_comma _ _ h4, List.map_append]
  simp

theorem Cutting.other {s : ByteArray} {done : List ByteArray} {st k : Nat} (h : Cutting s done st k) (hk : k < s.size) (hc : ¬ s[k].toNat = 44) : Cutting s done st (k + 1) := by
  obtain ⟨h1, h2, h3, h4⟩ := h
  refine ⟨by omega, by omega, h3, ?_⟩
  have hk' : k < s.data.toList.length := by simpa using hk
  have hn : ¬ s.data.toList[k] = 44 := fun e => hc (by
    have : s[k] = 44 := e
    rw [this]; rfl)
  have hl : k - st < (s.data.toList.drop st).length := by rw [List.length_drop]; omega
  have e : (s.data.toList.drop st).take (k + 1 - st) = (s.data.toList.drop st).take (k - st) ++ [s.data.toList[k]] := by
    rw [show k + 1 - st = (k - st) + 1 by omega, List.take_succ_eq_append_getElem hl]
    congr 2
    rw [List.getElem_drop]
    congr 1
    omega
  rw [e, cnt_append, h4, cnt_cons, if_neg hn]
  rfl

theorem Cutting.last {s : ByteArray} {done : List ByteArray} {st : Nat} (h : Cutting s done st s.size) : (done ++ [s.extract st s.size]).map (·.data.toList) = cut s.data.toList := by
  obtain ⟨h1, h2, h3, h4⟩ := h
  have e : (s.data.toList.drop st).take (s.size - st) = s.data.toList.drop st := List.take_of_length_le (by simp)
  rw [e] at h4
  rw [h3, cut_plain _ h4, List.map_append]
  simp only [List.map_cons, List.map_nil, Lib.extract_data, e]

end Go.Proofs.Qxb6001617a.Plain
