import Derived.Test.Qxb6001256aRows
import Derived.Test.Qxb6001256aPlain
import Derived.WalkKit
import Derived.WalkSpells
import Derived.Lib.Strings
namespace Go.Proofs.Qxb6001256a.Walk
open Go.RowKit
open Go.Proofs.Qxb6001256a.Plain

theorem hid {p : Prop} (h : p) : Hid p := h
theorem ret_bool {a b : Bool} (h : a = b) : Ending.returned (.bool a) = .returned (.bool b) := by rw [h]

set_option maxHeartbeats 400000 in
/-- zzAllDigits -/
theorem all14 (s : ByteArray) (lo hi : Nat) (X : Bool) (w : World) (hs : s.size ≤ 1000000000) (hhi : hi ≤ s.size) (_hlo : lo ≤ 1000000001) (hX : X = allDig s lo hi) :
    Calls Try.prog 14 #[.string s, .int .i64 lo, .int .i64 hi] w fun e w' => e = .returned (.bool X) ∧ w' = w := by
  have HX := hid hX
  clear hX
  by_cases hle : hi ≤ lo
  · have HE := hid (HX.out.trans (allDig_none s lo hi hle))
    go_enter Try.func14, Try.ntmps14
    go_wp2
    go_ret
    exact ⟨ret_bool HE.out.symm, rfl⟩
  · go_enter Try.func14, Try.ntmps14
    go_wp2
    go_loop [7] (fun i => ∃ k : Nat, lo ≤ k ∧ k ≤ hi ∧ i = .int .i64 k ∧ Hid (((s.data.toList.drop lo).take (k - lo)).all dig = true)) (fun i => hi - (intOf i).toNat)
    case atStart => exact ⟨lo, Nat.le_refl _, by omega, rfl, by show _ = true; simp⟩
    case round =>
      obtain ⟨k, hk1, hk2, rfl, HK⟩ := hrel
      by_cases hlt : k < hi
      · have hks : k < s.size := by omega
        by_cases c1 : s[k].toNat < 48
        · have HE := hid (HX.out.trans (allDig_no s lo hi k hk1 hlt hhi (dig_no _ (Or.inl c1))))
          have t1 : (s[k].toNat : Int) < 48 := by omega
          clear c1
          go_wp2
          go_ret
          exact ⟨ret_bool HE.out.symm, rfl⟩
        · by_cases c2 : 57 < s[k].toNat
          · have HE := hid (HX.out.trans (allDig_no s lo hi k hk1 hlt hhi (dig_no _ (Or.inr c2))))
            have t1 : (48 : Int) ≤ (s[k].toNat : Int) := by omega
            have t2 : (57 : Int) < (s[k].toNat : Int) := by omega
            clear c1 c2
            go_wp2
            go_ret
            exact ⟨ret_bool HE.out.symm, rfl⟩
          · have HE := hid (show ((s.data.toList.drop lo).take (k + 1 - lo)).all dig = true by
              rw [take_more s lo k hk1 hks, List.all_append, HK.out]
              simp [dig_yes _ (show 48 ≤ s[k].toNat by omega) (show s[k].toNat ≤ 57 by omega)])
            have t1 : (48 : Int) ≤ (s[k].toNat : Int) := by omega
            have t2 : (s[k].toNat : Int) ≤ 57 := by omega
            clear c1 c2
            go_wp2
            go_round
            case rel => exact ⟨k + 1, by omega, by omega, by go_num, HE⟩
            case measure => simp [intOf]; omega
      · have hke : k = hi := by omega
        have HE := hid (HX.out.trans (allDig_yes s lo hi (by omega) hhi (by have := HK.out; rw [hke] at this; exact this)))
        clear hke
        go_wp2
        go_ret
        exact ⟨ret_bool HE.out.symm, rfl⟩

/-- the same, its bounds as the walk spells them -/
theorem all14i (s : ByteArray) (lo hi : Nat) (lo' hi' : Int) (X : Bool) (w : World) (e1 : lo' = (lo : Int)) (e2 : hi' = (hi : Int)) (hs : s.size ≤ 1000000000) (hhi : hi ≤ s.size) (hlo : lo ≤ 1000000001) (hX : X = allDig s lo hi) :
    Calls Try.prog 14 #[.string s, .int .i64 lo', .int .i64 hi'] w fun e w' => e = .returned (.bool X) ∧ w' = w := by
  subst e1 e2
  exact all14 s lo hi X w hs hhi hlo hX

theorem bare_more (s : ByteArray) (st k : Nat) (hst : st ≤ k) (h : k < s.size) (hb : bare ((s.data.toList.drop st).take (k - st))) (hc : ¬ s[k].toNat = 46) : bare ((s.data.toList.drop st).take (k + 1 - st)) := by
  rw [take_more s st k hst h]
  intro c hm
  rcases List.mem_append.1 hm with h1 | h1
  · exact hb c h1
  · simp at h1; subst h1; exact hc

set_option maxHeartbeats 1000000 in
/-- zzModelPlain -/
theorem model8 (s : ByteArray) (X : Bool) (w : World) (hs : s.size ≤ 1048576) (hX : X = mdl (s.data.toList.drop (sign s))) :
    Calls Try.prog 8 #[.string s] w fun e w' => e = .returned (.bool X) ∧ w' = w := by
  by_cases h0 : 0 < s.size
  · by_cases h45 : (s[0]'h0).toNat = 45
    · have HX := hid (show X = mdl (s.data.toList.drop 1) by rw [hX]; simp [sign, h0, h45])
      have t45 : (((s[0]'h0).toNat : Int) == 45) = true := by simp [h45]
      clear hX h45
      go_enter Try.func8, Try.ntmps8
      go_wp2
      go_loop [4, 5] (fun d i => ∃ k : Nat, 1 ≤ k ∧ k ≤ s.size ∧ d = .int .i64 (-1) ∧ i = .int .i64 k ∧ Hid (bare ((s.data.toList.drop 1).take (k - 1)))) (fun _ i => s.size - (intOf i).toNat)
      case atStart => exact ⟨1, by omega, by omega, rfl, rfl, by intro c hc; simp at hc⟩
      case round =>
        obtain ⟨k, hk1, hk2, rfl, rfl, HK⟩ := hrel
        by_cases hlt : k < s.size
        · by_cases h46 : s[k].toNat = 46
          · have HM := hid (HX.out.trans (mdl_point s 1 k hk1 hlt HK.out h46))
            have t1 : ((s[k].toNat : Int) == 46) = true := by simp [h46]
            clear h46
            obtain ⟨x, hx⟩ : ∃ x, x = allDig s 1 k := ⟨_, rfl⟩
            obtain ⟨y, hy⟩ : ∃ y, y = allDig s (k + 1) s.size := ⟨_, rfl⟩
            rw [← hx, ← hy] at HM
            have A1 := hid (all14i s 1 k 1 k x w rfl rfl (by omega) (by omega) (by omega) hx)
            have A2 := hid (all14i s (k + 1) s.size (k + 1) s.size y w (by omega) rfl (by omega) (by omega) (by omega) hy)
            clear hx hy
            cases x with
            | false =>
              go_wp2_with fail
              refine (A1.out).mono ?_
              rintro e w1 ⟨rfl, rfl⟩
              go_wp2
              go_ret
              exact ⟨ret_bool HM.out.symm, rfl⟩
            | true =>
              go_wp2_with fail
              refine (A1.out).mono ?_
              rintro e w1 ⟨rfl, rfl⟩
              go_wp2_with fail
              refine (A2.out).mono ?_
              rintro e w2 ⟨rfl, rfl⟩
              go_wp2
              go_ret
              exact ⟨ret_bool HM.out.symm, rfl⟩
          · have HN := hid (bare_more s 1 k hk1 hlt HK.out h46)
            have t1 : ((s[k].toNat : Int) == 46) = false := by simp; omega
            clear h46
            go_wp2
            go_round
            case rel => exact ⟨k + 1, by omega, by omega, rfl, by go_num, HN⟩
            case measure => simp [intOf]; omega
        · have hke : k = s.size := by omega
          have HM := hid (HX.out.trans (mdl_bare s 1 (by have := HK.out; rw [hke] at this; exact this)))
          clear hke
          have A1 := hid (all14i s 1 s.size 1 s.size X w rfl rfl (by omega) (by omega) (by omega) HM.out)
          go_wp2_with fail
          refine (A1.out).mono ?_
          rintro e w1 ⟨rfl, rfl⟩
          go_wp2
          go_ret
          exact ⟨rfl, rfl⟩
    · have HX := hid (show X = mdl (s.data.toList.drop 0) by rw [hX]; simp [sign, h0, h45])
      have t45 : (((s[0]'h0).toNat : Int) == 45) = false := by simp; omega
      clear hX h45
      go_enter Try.func8, Try.ntmps8
      go_wp2
      go_loop [4, 5] (fun d i => ∃ k : Nat, 0 ≤ k ∧ k ≤ s.size ∧ d = .int .i64 (-1) ∧ i = .int .i64 k ∧ Hid (bare ((s.data.toList.drop 0).take (k - 0)))) (fun _ i => s.size - (intOf i).toNat)
      case atStart => exact ⟨0, by omega, by omega, rfl, rfl, by intro c hc; simp at hc⟩
      case round =>
        obtain ⟨k, hk1, hk2, rfl, rfl, HK⟩ := hrel
        by_cases hlt : k < s.size
        · by_cases h46 : s[k].toNat = 46
          · have HM := hid (HX.out.trans (mdl_point s 0 k hk1 hlt HK.out h46))
            have t1 : ((s[k].toNat : Int) == 46) = true := by simp [h46]
            clear h46
            obtain ⟨x, hx⟩ : ∃ x, x = allDig s 0 k := ⟨_, rfl⟩
            obtain ⟨y, hy⟩ : ∃ y, y = allDig s (k + 1) s.size := ⟨_, rfl⟩
            rw [← hx, ← hy] at HM
            have A1 := hid (all14i s 0 k 0 k x w rfl rfl (by omega) (by omega) (by omega) hx)
            have A2 := hid (all14i s (k + 1) s.size (k + 1) s.size y w (by omega) rfl (by omega) (by omega) (by omega) hy)
            clear hx hy
            cases x with
            | false =>
              go_wp2_with fail
              refine (A1.out).mono ?_
              rintro e w1 ⟨rfl, rfl⟩
              go_wp2
              go_ret
              exact ⟨ret_bool HM.out.symm, rfl⟩
            | true =>
              go_wp2_with fail
              refine (A1.out).mono ?_
              rintro e w1 ⟨rfl, rfl⟩
              go_wp2_with fail
              refine (A2.out).mono ?_
              rintro e w2 ⟨rfl, rfl⟩
              go_wp2
              go_ret
              exact ⟨ret_bool HM.out.symm, rfl⟩
          · have HN := hid (bare_more s 0 k hk1 hlt HK.out h46)
            have t1 : ((s[k].toNat : Int) == 46) = false := by simp; omega
            clear h46
            go_wp2
            go_round
            case rel => exact ⟨k + 1, by omega, by omega, rfl, by go_num, HN⟩
            case measure => simp [intOf]; omega
        · have hke : k = s.size := by omega
          have HM := hid (HX.out.trans (mdl_bare s 0 (by have := HK.out; rw [hke] at this; exact this)))
          clear hke
          have A1 := hid (all14i s 0 s.size 0 s.size X w rfl rfl (by omega) (by omega) (by omega) HM.out)
          go_wp2_with fail
          refine (A1.out).mono ?_
          rintro e w1 ⟨rfl, rfl⟩
          go_wp2
          go_ret
          exact ⟨rfl, rfl⟩
  · have HX := hid (show X = mdl (s.data.toList.drop 0) by rw [hX]; simp [sign, h0])
    clear hX
    go_enter Try.func8, Try.ntmps8
    go_wp2
    go_loop [4, 5] (fun d i => ∃ k : Nat, 0 ≤ k ∧ k ≤ s.size ∧ d = .int .i64 (-1) ∧ i = .int .i64 k ∧ Hid (bare ((s.data.toList.drop 0).take (k - 0)))) (fun _ i => s.size - (intOf i).toNat)
    case atStart => exact ⟨0, by omega, by omega, rfl, rfl, by intro c hc; simp at hc⟩
    case round =>
      obtain ⟨k, hk1, hk2, rfl, rfl, HK⟩ := hrel
      by_cases hlt : k < s.size
      · exact absurd hlt (by omega)
      · have hke : k = s.size := by omega
        have HM := hid (HX.out.trans (mdl_bare s 0 (by have := HK.out; rw [hke] at this; exact this)))
        clear hke
        have A1 := hid (all14i s 0 s.size 0 s.size X w rfl rfl (by omega) (by omega) (by omega) HM.out)
        go_wp2_with fail
        refine (A1.out).mono ?_
        rintro e w1 ⟨rfl, rfl⟩
        go_wp2
        go_ret
        exact ⟨rfl, rfl⟩
end Go.Proofs.Qxb6001256a.Walk
