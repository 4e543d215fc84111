import Derived.Test.Qxb6001765aRows
import Derived.Test.Qxb6001765aPlain
import Derived.WalkKit
import Derived.WalkSpells
namespace Go.Proofs.Qxb6001765a.Walk
open Go.RowKit
open Go.Proofs.Qxb6001765a.Plain

theorem hid {p : Prop} (h : p) : Hid p := h
theorem ret_int {k : IntKind} {a b : Int} (h : a = b) : Ending.returned (.int k a) = .returned (.int k b) := by rw [h]

set_option maxHeartbeats 400000 in
/-- backoff.Delay -/
theorem delay10 (d L a : Int) (w : World) (d0 : 0 ≤ d) (d1 : d ≤ 9223372036854775807) (l0 : 0 ≤ L) (l1 : L ≤ 9223372036854775807) (a0 : -9223372036854775807 ≤ a) (a1 : a ≤ 9223372036854775807) :
    Calls Try.prog 10 #[.int .i64 d, .int .i64 L, .int .i64 a] w fun e w' => e = .returned (.int .i64 (del L (a - 1).toNat d)) ∧ w' = w := by
  obtain ⟨N, hN⟩ : ∃ N, N = (a - 1).toNat := ⟨_, rfl⟩
  rw [← hN]
  obtain ⟨D, hD⟩ : ∃ D, D = del L N d := ⟨_, rfl⟩
  rw [← hD]
  have HN := hid hN
  have HD := hid hD
  clear hN hD
  go_enter Try.func10, Try.ntmps10
  go_wp2
  go_loop [7, 11] (fun t i => ∃ (k : Nat) (x : Int), k ≤ N ∧ i = .int .i64 k ∧ t = .int .i64 x ∧ 0 ≤ x ∧ x ≤ 9223372036854775807 ∧ Hid (D = del L (N - k) x)) (fun _ i => N - (intOf i).toNat)
  case atStart => exact ⟨0, d, Nat.zero_le _, rfl, rfl, d0, d1, HD⟩
  case round =>
    obtain ⟨k, x, hk, rfl, rfl, x0, x1, HX⟩ := hrel
    by_cases hlt : (k : Int) < a - 1
    · have hkn : k < N := by have := HN.out; omega
      by_cases hq : L / 2 < x
      · have HE := hid (show D = L by rw [HX.out, show N - k = (N - k - 1) + 1 by omega, del_stop L x _ hq])
        go_wp2
        go_ret
        exact ⟨ret_int HE.out.symm, rfl⟩
      · have HE := hid (show D = del L (N - (k + 1)) (2 * x) by rw [HX.out, show N - k = (N - (k + 1)) + 1 by omega, del_go L x _ hq])
        have hx2 : x ≤ L / 2 := by omega
        clear hq
        go_wp2
        go_round
        case rel => exact ⟨k + 1, 2 * x, by omega, by go_num, by go_num, by omega, by omega, HE⟩
        case measure => simp [intOf]; omega
    · have hkn : N - k = 0 := by have := HN.out; omega
      have HE := hid (show D = x by rw [HX.out, hkn]; rfl)
      clear hkn
      go_wp2
      go_ret
      exact ⟨ret_int HE.out.symm, rfl⟩

/-- ZZDelay, its answer a letter -/
theorem delay7 (d L a D : Int) (w : World) (d0 : 0 ≤ d) (d1 : d ≤ 9223372036854775807) (l0 : 0 ≤ L) (l1 : L ≤ 9223372036854775807) (a0 : -9223372036854775807 ≤ a) (a1 : a ≤ 9223372036854775807) (hD : D = del L (a - 1).toNat d) :
    Calls Try.prog 7 #[.int .i64 d, .int .i64 L, .int .i64 a] w fun e w' => e = .returned (.int .i64 D) ∧ w' = w := by
  have C := hid (delay10 d L a w d0 d1 l0 l1 a0 a1)
  rw [← hD] at C
  clear hD
  go_enter Try.func7, Try.ntmps7
  go_wp2_with fail
  refine (C.out).mono ?_
  rintro e w' ⟨rfl, rfl⟩
  go_wp2
  go_ret
  exact ⟨rfl, rfl⟩

set_option maxHeartbeats 400000 in
/-- zzDelayModel at an attempt from 2 on -/
theorem model8 (d L a D : Int) (w : World) (d0 : 0 ≤ d) (d1 : d ≤ 9223372036854775807) (l0 : 0 ≤ L) (l1 : L ≤ 9223372036854775807) (a0 : -9223372036854775807 ≤ a) (a1 : a ≤ 65536) (hD : D = del L (a - 1).toNat d) :
    Calls Try.prog 8 #[.int .i64 d, .int .i64 L, .int .i64 a] w fun e w' => e = .returned (.int .i64 D) ∧ w' = w := by
  by_cases h1 : a ≤ 1
  · have HE := hid (show D = d by rw [hD, show (a - 1).toNat = 0 by omega]; rfl)
    clear hD
    go_enter Try.func8, Try.ntmps8
    go_wp2
    go_ret
    exact ⟨ret_int HE.out.symm, rfl⟩
  · by_cases h2 : d = 0
    · have HE := hid (show D = 0 by rw [hD, h2, del_zero L l0])
      have t : (d == 0) = true := by simpa using h2
      clear hD h2
      go_enter Try.func8, Try.ntmps8
      go_wp2
      go_ret
      exact ⟨ret_int HE.out.symm, rfl⟩
    · have t : (d == 0) = false := by simpa using h2
      by_cases h3 : 64 ≤ a
      · have HE := hid (show D = L by
          rw [hD]
          exact del_late L 63 _ d (by omega) (by omega) (by omega) (by omega))
        clear hD h2
        go_enter Try.func8, Try.ntmps8
        go_wp2
        go_ret
        exact ⟨ret_int HE.out.symm, rfl⟩
      · have hk : (a - 1).toNat = a.toNat - 1 := by omega
        have hcl := del_closed L d (a - 1).toNat d0 l0 (by omega)
        rw [← hD, hk] at hcl
        have hp : (0 : Int) < 2 ^ (a.toNat - 1) := Int.pow_pos (by omega)
        by_cases hq : L / 2 ^ (a.toNat - 1) < d
        · rw [if_pos hq] at hcl
          have HE := hid hcl
          clear hD h2 hcl hk hp
          go_enter Try.func8, Try.ntmps8
          go_wp2
          go_ret
          exact ⟨ret_int HE.out.symm, rfl⟩
        · rw [if_neg hq] at hcl
          have hle : d * 2 ^ (a.toNat - 1) ≤ L := (Int.le_ediv_iff_mul_le hp).1 (by omega)
          have hge : 0 ≤ d * 2 ^ (a.toNat - 1) := Int.mul_nonneg d0 (Int.le_of_lt hp)
          have HE := hid (show wrap64 (d * 2 ^ (a.toNat - 1)) = D by rw [hcl]; unfold wrap64; omega)
          clear hD h2 hcl hk hp hle hge
          go_enter Try.func8, Try.ntmps8
          go_wp2
          go_ret
          exact ⟨ret_int HE.out, rfl⟩
end Go.Proofs.Qxb6001765a.Walk
