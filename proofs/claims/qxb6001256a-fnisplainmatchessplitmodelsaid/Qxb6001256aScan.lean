import Derived.Test.Qxb6001256aCalls
namespace Go.Proofs.Qxb6001256a.Walk
open Go.RowKit
open Go.Proofs.Qxb6001256a.Plain

theorem scan_point (c : UInt8) (l : List UInt8) (x y : Nat) (hd : dig c = false) (h : c.toNat = 46) : scan (c :: l) x false y = scan l x true y := by simp [scan, hd, h]
theorem scan_bad (c : UInt8) (l : List UInt8) (x : Nat) (q : Bool) (y : Nat) (hd : dig c = false) (h : ¬ c.toNat = 46 ∨ q = true) : scan (c :: l) x q y = false := by
  rcases h with h | h <;> simp [scan, hd, h]
theorem scan_int (c : UInt8) (l : List UInt8) (x y : Nat) (hd : dig c = true) : scan (c :: l) x false y = scan l (x + 1) false y := by simp [scan, hd]
theorem scan_frac (c : UInt8) (l : List UInt8) (x y : Nat) (hd : dig c = true) : scan (c :: l) x true y = scan l x true (y + 1) := by simp [scan, hd]

set_option maxHeartbeats 2000000 in
/-- isPlain at a string that opens with a minus sign -/
theorem plain13_minus (s t : ByteArray) (X : Bool) (w : World) (h0 : 0 < s.size) (h45 : (s[0]'h0).toNat = 45) (hs : s.size ≤ 1048576) (ht : s.extract 1 s.size = t) (hts : t.size ≤ 1048576) (hX : X = scan t.data.toList 0 false 0) :
    Calls Try.prog 13 #[.string s] w fun e w' => e = .returned (.bool X) ∧ w' = w := by
  have HX : Hid (X = scan (t.data.toList.drop 0) 0 false 0) := by rw [List.drop_zero]; exact hX
  have t45 : (((s[0]'h0).toNat : Int) == 45) = true := by simp [h45]
  clear hX h45
  go_enter Try.func13, Try.ntmps13
  go_wp2
  clear t45
  have HT := hid ht
  clear ht
  go_loop [3, 4, 5, 6] (fun a p b i => ∃ (k x y : Nat) (q : Bool), k ≤ t.size ∧ x ≤ k ∧ y ≤ k ∧ i = .int .i64 k ∧ a = .int .i64 x ∧ b = .int .i64 y ∧ p = .bool q ∧ Hid (X = scan (t.data.toList.drop k) x q y)) (fun _ _ _ i => t.size - (intOf i).toNat)
  case atStart => exact ⟨0, 0, 0, false, by omega, by omega, by omega, rfl, rfl, rfl, rfl, HX⟩
  case round =>
    obtain ⟨k, x, y, q, hk, hx, hy, rfl, rfl, rfl, rfl, HK⟩ := hrel
    by_cases hlt : k < t.size
    · have HS := hid (HK.out.trans (by rw [drop_cons t k hlt]))
      by_cases c1 : t[k].toNat < 48
      · have t1 : (t[k].toNat : Int) < 48 := by omega
        have hd := dig_no t[k] (Or.inl c1)
        by_cases h46 : t[k].toNat = 46
        · have t2 : ((t[k].toNat : Int) == 46) = true := by simp [h46]
          cases q with
          | false =>
            have HE := hid (HS.out.trans (scan_point _ _ _ _ hd h46))
            clear c1 hd h46
            go_wp2
            go_round
            case rel => exact ⟨k + 1, x, y, true, by omega, by omega, by omega, by go_num, rfl, rfl, rfl, HE⟩
            case measure => simp [intOf]; omega
          | true =>
            have HE := hid (HS.out.trans (scan_bad _ _ _ _ _ hd (Or.inr rfl)))
            clear c1 hd h46
            go_wp2
            go_ret
            exact ⟨ret_bool HE.out.symm, rfl⟩
        · have t2 : ((t[k].toNat : Int) == 46) = false := by simp; omega
          have HE := hid (HS.out.trans (scan_bad _ _ _ _ _ hd (Or.inl h46)))
          clear c1 hd h46
          go_wp2
          go_ret
          exact ⟨ret_bool HE.out.symm, rfl⟩
      · have t1 : (48 : Int) ≤ (t[k].toNat : Int) := by omega
        by_cases c2 : 57 < t[k].toNat
        · have t2 : (57 : Int) < (t[k].toNat : Int) := by omega
          have t3 : ((t[k].toNat : Int) == 46) = false := by simp; omega
          have HE := hid (HS.out.trans (scan_bad _ _ _ _ _ (dig_no t[k] (Or.inr c2)) (Or.inl (by omega))))
          clear c1 c2
          go_wp2
          go_ret
          exact ⟨ret_bool HE.out.symm, rfl⟩
        · have t2 : (t[k].toNat : Int) ≤ 57 := by omega
          have hd := dig_yes t[k] (by omega) (by omega)
          clear c1 c2
          cases q with
          | false =>
            have HE := hid (HS.out.trans (scan_int _ _ _ _ hd))
            clear hd
            go_wp2
            go_round
            case rel => exact ⟨k + 1, x + 1, y, false, by omega, by omega, by omega, by go_num, by go_num, rfl, rfl, HE⟩
            case measure => simp [intOf]; omega
          | true =>
            have HE := hid (HS.out.trans (scan_frac _ _ _ _ hd))
            clear hd
            go_wp2
            go_round
            case rel => exact ⟨k + 1, x, y + 1, true, by omega, by omega, by omega, by go_num, rfl, by go_num, rfl, HE⟩
            case measure => simp [intOf]; omega
    · have HE := hid (show X = scan [] x q y by rw [HK.out, List.drop_eq_nil_of_le (by simp; omega)])
      by_cases hx0 : 0 < x
      · cases q with
        | false =>
          have HF := hid (show X = true by rw [HE.out]; simp [scan, hx0])
          go_wp2
          go_ret
          exact ⟨ret_bool HF.out.symm, rfl⟩
        | true =>
          by_cases hy0 : 0 < y
          · have HF := hid (show X = true by rw [HE.out]; simp [scan, hx0, hy0])
            go_wp2
            go_ret
            exact ⟨ret_bool HF.out.symm, rfl⟩
          · have HF := hid (show X = false by rw [HE.out]; simp [scan, hy0])
            go_wp2
            go_ret
            exact ⟨ret_bool HF.out.symm, rfl⟩
      · have HF := hid (show X = false by rw [HE.out]; simp [scan, hx0])
        go_wp2
        go_ret
        exact ⟨ret_bool HF.out.symm, rfl⟩

set_option maxHeartbeats 2000000 in
/-- isPlain at a string that opens otherwise -/
theorem plain13_other (t : ByteArray) (X : Bool) (w : World) (h0 : 0 < t.size) (h45 : ¬ (t[0]'h0).toNat = 45) (hts : t.size ≤ 1048576) (hX : X = scan t.data.toList 0 false 0) :
    Calls Try.prog 13 #[.string t] w fun e w' => e = .returned (.bool X) ∧ w' = w := by
  have HX : Hid (X = scan (t.data.toList.drop 0) 0 false 0) := by rw [List.drop_zero]; exact hX
  have t45 : (((t[0]'h0).toNat : Int) == 45) = false := by simp; omega
  clear hX h45
  go_enter Try.func13, Try.ntmps13
  go_wp2
  clear t45
  go_loop [3, 4, 5, 6] (fun a p b i => ∃ (k x y : Nat) (q : Bool), k ≤ t.size ∧ x ≤ k ∧ y ≤ k ∧ i = .int .i64 k ∧ a = .int .i64 x ∧ b = .int .i64 y ∧ p = .bool q ∧ Hid (X = scan (t.data.toList.drop k) x q y)) (fun _ _ _ i => t.size - (intOf i).toNat)
  case atStart => exact ⟨0, 0, 0, false, by omega, by omega, by omega, rfl, rfl, rfl, rfl, HX⟩
  case round =>
    obtain ⟨k, x, y, q, hk, hx, hy, rfl, rfl, rfl, rfl, HK⟩ := hrel
    by_cases hlt : k < t.size
    · have HS := hid (HK.out.trans (by rw [drop_cons t k hlt]))
      by_cases c1 : t[k].toNat < 48
      · have t1 : (t[k].toNat : Int) < 48 := by omega
        have hd := dig_no t[k] (Or.inl c1)
        by_cases h46 : t[k].toNat = 46
        · have t2 : ((t[k].toNat : Int) == 46) = true := by simp [h46]
          cases q with
          | false =>
            have HE := hid (HS.out.trans (scan_point _ _ _ _ hd h46))
            clear c1 hd h46
            go_wp2
            go_round
            case rel => exact ⟨k + 1, x, y, true, by omega, by omega, by omega, by go_num, rfl, rfl, rfl, HE⟩
            case measure => simp [intOf]; omega
          | true =>
            have HE := hid (HS.out.trans (scan_bad _ _ _ _ _ hd (Or.inr rfl)))
            clear c1 hd h46
            go_wp2
            go_ret
            exact ⟨ret_bool HE.out.symm, rfl⟩
        · have t2 : ((t[k].toNat : Int) == 46) = false := by simp; omega
          have HE := hid (HS.out.trans (scan_bad _ _ _ _ _ hd (Or.inl h46)))
          clear c1 hd h46
          go_wp2
          go_ret
          exact ⟨ret_bool HE.out.symm, rfl⟩
      · have t1 : (48 : Int) ≤ (t[k].toNat : Int) := by omega
        by_cases c2 : 57 < t[k].toNat
        · have t2 : (57 : Int) < (t[k].toNat : Int) := by omega
          have t3 : ((t[k].toNat : Int) == 46) = false := by simp; omega
          have HE := hid (HS.out.trans (scan_bad _ _ _ _ _ (dig_no t[k] (Or.inr c2)) (Or.inl (by omega))))
          clear c1 c2
          go_wp2
          go_ret
          exact ⟨ret_bool HE.out.symm, rfl⟩
        · have t2 : (t[k].toNat : Int) ≤ 57 := by omega
          have hd := dig_yes t[k] (by omega) (by omega)
          clear c1 c2
          cases q with
          | false =>
            have HE := hid (HS.out.trans (scan_int _ _ _ _ hd))
            clear hd
            go_wp2
            go_round
            case rel => exact ⟨k + 1, x + 1, y, false, by omega, by omega, by omega, by go_num, by go_num, rfl, rfl, HE⟩
            case measure => simp [intOf]; omega
          | true =>
            have HE := hid (HS.out.trans (scan_frac _ _ _ _ hd))
            clear hd
            go_wp2
            go_round
            case rel => exact ⟨k + 1, x, y + 1, true, by omega, by omega, by omega, by go_num, rfl, by go_num, rfl, HE⟩
            case measure => simp [intOf]; omega
    · have HE := hid (show X = scan [] x q y by rw [HK.out, List.drop_eq_nil_of_le (by simp; omega)])
      by_cases hx0 : 0 < x
      · cases q with
        | false =>
          have HF := hid (show X = true by rw [HE.out]; simp [scan, hx0])
          go_wp2
          go_ret
          exact ⟨ret_bool HF.out.symm, rfl⟩
        | true =>
          by_cases hy0 : 0 < y
          · have HF := hid (show X = true by rw [HE.out]; simp [scan, hx0, hy0])
            go_wp2
            go_ret
            exact ⟨ret_bool HF.out.symm, rfl⟩
          · have HF := hid (show X = false by rw [HE.out]; simp [scan, hy0])
            go_wp2
            go_ret
            exact ⟨ret_bool HF.out.symm, rfl⟩
      · have HF := hid (show X = false by rw [HE.out]; simp [scan, hx0])
        go_wp2
        go_ret
        exact ⟨ret_bool HF.out.symm, rfl⟩

set_option maxHeartbeats 400000 in
/-- isPlain at the empty string -/
theorem plain13_empty (t : ByteArray) (w : World) (h0 : ¬ 0 < t.size) : Calls Try.prog 13 #[.string t] w fun e w' => e = .returned (.bool false) ∧ w' = w := by
  go_enter Try.func13, Try.ntmps13
  go_wp2
  refine wp_loop_rounds 1 ?_
  rw [rounds_succ]
  go_wp2
  go_ret
  exact ⟨rfl, rfl⟩
end Go.Proofs.Qxb6001256a.Walk
