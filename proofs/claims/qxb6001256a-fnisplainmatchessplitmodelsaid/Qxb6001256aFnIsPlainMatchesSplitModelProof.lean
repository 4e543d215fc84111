/- The proof of 'Rows.FnIsPlainMatchesSplitModelSaid': the frame by the guide's proof-skeleton; the walk by hand. -/
import Derived.Test.Qxb6001256aRows
import Derived.WalkKit
import Derived.ProofKit
import Derived.OpenShut
import Derived.ShutString
import Derived.Test.Qxb6001256aScan
namespace Go.Proofs.Qxb6001256a.fnIsPlainMatchesSplitModel
open Go.ChangeShapes Go.WideShapes Go.ChangeAt Go.RowKit
open Go.ChangeMaps (open_string shut_string)
open Go.Proofs.Qxb6001256a.Walk Go.Proofs.Qxb6001256a.Plain
set_option linter.unusedVariables false      -- a walk need not use every 'w<i>' (that an integer argument fits its kind)

theorem own : ownKnob Try.prog.godebug = none := by kernel_rfl

theorem bytes6 (s : ByteArray) (w : World) (h : s.size ≤ 1048576) : Calls Try.prog 6 #[.string s] w fun e w' => e = .returned (.bool true) ∧ w' = w := by
  go_enter Try.func6, Try.ntmps6
  go_wp2
  go_ret
  exact ⟨rfl, rfl⟩

/-- isPlain, whatever the string -/
theorem plain13 (s : ByteArray) (X : Bool) (w : World) (hs : s.size ≤ 1048576) (hX : X = scan (s.data.toList.drop (sign s)) 0 false 0) :
    Calls Try.prog 13 #[.string s] w fun e w' => e = .returned (.bool X) ∧ w' = w := by
  by_cases h0 : 0 < s.size
  · by_cases h45 : (s[0]'h0).toNat = 45
    · have e : (s.extract 1 s.size).data.toList = s.data.toList.drop 1 := by
        rw [Lib.extract_data, List.take_of_length_le (by simp)]
      have ez : (s.extract 1 s.size).size ≤ 1048576 := by
        rw [Lib.size_eq, e, List.length_drop, ← Lib.size_eq]
        omega
      refine plain13_minus s _ X w h0 h45 hs rfl ez ?_
      rw [hX, e]
      simp [sign, h0, h45]
    · refine plain13_other s X w h0 h45 hs ?_
      rw [hX]
      simp [sign, h0, h45]
  · have hn : s.data.toList = [] := List.eq_nil_of_length_eq_zero (by rw [← Lib.size_eq]; omega)
    have e : X = false := by rw [hX, hn]; simp [scan]
    subst e
    exact plain13_empty s w h0

theorem plain7 (s : ByteArray) (X : Bool) (w : World) (hs : s.size ≤ 1048576) (hX : X = scan (s.data.toList.drop (sign s)) 0 false 0) :
    Calls Try.prog 7 #[.string s] w fun e w' => e = .returned (.bool X) ∧ w' = w := by
  have P := hid (plain13 s X w hs hX)
  clear hX
  go_enter Try.func7, Try.ntmps7
  go_wp2_with fail
  refine (P.out).mono ?_
  rintro e w' ⟨rfl, rfl⟩
  go_wp2
  go_ret
  exact ⟨rfl, rfl⟩

/-! ### STEP 1: THE WALK: the Go text returns true. 'Grown w w'': the world has at most new blocks (Derived/RowKit3.lean). Part the cases AHEAD of 'go_enter' where a test parts the walk; take each callee by a contract of your own. -/
theorem walk (a0 : ByteArray) (w0 : a0.size ≤ maxLen) (w : World) :
    Calls Try.prog 3 #[.string a0] w fun e w' => e = .returned (.bool true) ∧ Grown w w' := by
  unfold maxLen at w0
  by_cases h : a0.size ≤ 1048576
  · obtain ⟨X, hX⟩ : ∃ X, X = scan (a0.data.toList.drop (sign a0)) 0 false 0 := ⟨_, rfl⟩
    have P := hid (plain7 a0 X w h hX)
    have M := hid (model8 a0 X w (by omega) (hX.trans (scan_mdl _)))
    have B := hid (bytes6 a0 w h)
    clear hX
    go_enter Try.func3, Try.ntmps3
    go_wp2_with fail
    refine (B.out).mono ?_
    rintro e w1 ⟨rfl, rfl⟩
    go_wp2_with fail
    refine (P.out).mono ?_
    rintro e w2 ⟨rfl, rfl⟩
    go_wp2_with fail
    refine (M.out).mono ?_
    rintro e w3 ⟨rfl, rfl⟩
    go_wp2
    go_ret
    exact ⟨by simp, Grown.refl _⟩
  · go_enter Try.func3, Try.ntmps3
    go_wp2
    go_ret
    exact ⟨rfl, Grown.refl _⟩

/-! ### THE ROW's STEP: WRITTEN OUT: LEAVE IT -/
set_option maxRecDepth 100000 in
theorem lifted (os : Os) (started : os.Started) (H : Type) (enc : TypeId × Value → H) :
    ReturnsInHanded {} Try.checked os 3 .any (Rows.fnIsPlainMatchesSplitModelSpec.pre6 enc Try.prog Try.f3 Rows.fnIsPlainMatchesSplitModelRow.domain false) (Rows.fnIsPlainMatchesSplitModelSpec.post enc Try.prog Try.f3 false true false false) := by
  refine returnsInHanded_of_change (C := Try.checked) own started (by kernel_rfl) Try.func3
    (ChangeSpec.witness6 (enc := enc) (C := Try.checked) false ⟨#[], #[.string ByteArray.empty], []⟩ 8 (by kernel_rfl) (by kernel_rfl) (by kernel_rfl) (by kernel_rfl)) ?_
  intro W base args ds gs before hval0 hW hcnd _
  have hval : ∀ (j : Nat) t v, Try.f3.params[j]? = some t → args[j]? = some v → Value.okWide Try.prog W .any base t v := hval0
  have hW' := hW
  obtain ⟨p, q, hA0, hV, rfl, hfz, hnd⟩ := hW
  have hA : DataW.TrodAll enc Try.prog W 0 (fun _ => true) true Try.f3.params.toList args.toList ds p := hA0
  rw [Try.params3] at hA hval
  obtain ⟨v0, vs0, d0, ds0, p0, q0, hargs, rfl, rfl, h0, r0⟩ := trodAll_cons hA
  obtain ⟨rfl, rfl, rfl⟩ := trodAll_nil r0
  obtain rfl : args = #[v0] := by cases args; simp_all
  obtain ⟨rfl, rfl⟩ := trodVars_none hV
  obtain ⟨a0, rfl, rfl, rfl, w0⟩ := open_string Try.underlying9 (hval 0 9 v0 rfl rfl) h0
  clear hA0 hval0
  simp only [List.append_nil] at hW'
  refine (walk a0 w0 W).mono fun e W' ⟨he, hg⟩ => ?_
  subst he
  exact ⟨_, rfl, post_of_same (pa := []) (pv := []) hW' (fun _ _ _ => (trodAll_cons_mk (shut_bool Try.underlying4 _) trodAll_mk0)) (fun sp _ => (trodAll_cons_mk (shut_string Try.underlying9 w0) trodAll_mk0)) (fun _ _ => rfl) rfl
    (hg.frame _) hg.2.1 (ok_one (by kernel_rfl) rfl (okWide_bool_mk Try.underlying4 _))⟩

theorem over : Rows.fnIsPlainMatchesSplitModelRow.holds Try.pinned (OpenSpec.ofChange Rows.fnIsPlainMatchesSplitModelSpec) :=
  OpenClaim.holds_of_wide 3 Try.f3 rfl rfl rfl rfl rfl rfl rfl ⟨rfl, rfl, rfl, rfl, rfl⟩ rfl rfl rfl rfl rfl (by kernel_rfl) Try.func3 (by kernel_rfl)
    (of_decide_eq_true (by kernel_rfl)) (by unfold Func.isWrapper; first | (rw [if_pos (by decide +kernel)]; kernel_rfl) | (rw [if_neg (by decide +kernel)]; exact ⟨rfl, rfl⟩))
    (fun os started H enc _ => lifted os started H enc)

/-- ████ THE STATEMENT ████ -/
theorem proved : Rows.FnIsPlainMatchesSplitModelSaid :=
  over
#print axioms proved
end Go.Proofs.Qxb6001256a.fnIsPlainMatchesSplitModel
