/- The proof of 'Rows.FnStringLenMeasuresEscapedStringSaid': the frame by the guide's proof-skeleton; the walk by hand. -/
import Derived.Test.Qxb6001525aRows
import Derived.WalkKit
import Derived.ProofKit
import Derived.OpenShut
import Derived.ShutString
import Derived.ChangeOld
import Derived.Below
import Derived.Test.Qxb6001525aEnc
namespace Go.Proofs.Qxb6001525a.fnStringLenMeasuresEscapedString
open Go.ChangeShapes Go.WideShapes Go.ChangeAt Go.RowKit
open Go.ChangeMaps (open_string shut_string)
open Go.Proofs.Qxb6001525a.Walk Go.Proofs.Qxb6001525a.Plain
set_option linter.unusedVariables false

theorem own : ownKnob Try.prog.godebug = none := by kernel_rfl
theorem laidOut : laidOutB Try.prog = true := by kernel_rfl

/-- WHAT THE WALK IS TOLD OF A SLICE OF INTEGERS THAT CAME IN: it is nil; or it leads to a row of 'cap' cells, the numbers 'zs' (the first 'len' are its elements, the rest its spare room), each fitting its kind. -/
def IsRow (k : IntKind) (w : World) (a : Option Addr) (len cap : Nat) (zs : List Int) : Prop :=
  (a = none ∧ len = 0 ∧ cap = 0 ∧ zs = []) ∨
  ∃ x, a = some x ∧ len ≤ cap ∧ cap ≤ maxLen ∧ zs.length = cap ∧ (∀ i, i < zs.length → w.cell? (x.add i) = some (.int k (zs.getD i 0))) ∧ ∀ n ∈ zs, (Lit.int k n).wf = true

/-- from the row's own view of a slice to the callees' -/
theorem rd_of_row {w : World} {a : Option Addr} {len cap : Nat} {zs : List Int} (h : IsRow .u8 w a len cap zs) : Rd w a len cap (zs.take len) ∧ ∀ x ∈ zs.take len, 0 ≤ x ∧ x ≤ 255 := by
  rcases h with ⟨rfl, rfl, rfl, rfl⟩ | ⟨x, rfl, hl, hm, hz, hcell, hwz⟩
  · exact ⟨⟨rfl, fun _ => ⟨rfl, rfl⟩, fun ad had => by cases had⟩, fun x hx => by simp at hx⟩
  · refine ⟨⟨by simp; omega, (fun h => by cases h), ?_⟩, ?_⟩
    · intro ad had j u hu
      obtain rfl := Option.some.inj had
      have hj : j < zs.length := by
        have := (List.getElem?_eq_some_iff.1 hu).1
        simp at this; omega
      have hj2 : j < len := by
        have := (List.getElem?_eq_some_iff.1 hu).1
        simp at this; omega
      rw [hcell j hj]
      simpa [List.getElem?_take, hj, hj2, List.getD] using hu
    · intro n hn
      have := hwz n (List.mem_of_mem_take hn)
      exact bounds_u8 this
theorem rd_len {w : World} {a : Option Addr} {len cap : Nat} {zs : List Int} (h : IsRow .u8 w a len cap zs) : len ≤ maxLen := by
  rcases h with ⟨rfl, rfl, rfl, rfl⟩ | ⟨x, rfl, hl, hm, hz, hcell, hwz⟩
  · simp
  · omega

theorem bytes5 (a0 : Option Addr) (len0 cap0 : Nat) (a1 : Option Addr) (len1 cap1 : Nat) (w : World) (h0 : len0 ≤ 65536) (h1 : len1 ≤ 65536) :
    Calls Try.prog 5 #[.slice a0 len0 cap0, .slice a1 len1 cap1] w fun e w' => e = .returned (.bool true) ∧ w' = w := by
  go_enter Try.func5, Try.ntmps5
  go_wp2
  go_ret
  exact ⟨rfl, rfl⟩

/-! ### STEP 1: THE WALK: the Go text returns true, AND WRITES NOTHING THAT WAS THERE: 'Below w.heap.size w w'' (Derived/Below.lean: '.refl', '.alloc', '.drew', '.setCell' at a new block, '.trans'). Open each 'IsRow' by 'rcases' AHEAD of 'go_enter'; part every test ahead of the walk. -/
theorem walk (a0 : Option Addr) (len0 cap0 : Nat) (z0 : List Int) (a1 : Option Addr) (len1 cap1 : Nat) (z1 : List Int) (w : World) (w0 : IsRow .u8 w a0 len0 cap0 z0) (w1 : IsRow .u8 w a1 len1 cap1 z1) :
    Calls Try.prog 3 #[.slice a0 len0 cap0, .slice a1 len1 cap1] w fun e w' => e = .returned (.bool true) ∧ Below w.heap.size w w' := by
  have r0 := rd_of_row w0
  have r1 := rd_of_row w1
  have l0 := rd_len w0
  have l1 := rd_len w1
  unfold maxLen at l0 l1
  clear w0 w1
  obtain ⟨r0, hz0⟩ := r0
  obtain ⟨r1, hz1⟩ := r1
  by_cases h0 : len0 ≤ 65536
  · by_cases h1 : len1 ≤ 65536
    · have B5 := hid (bytes5 a0 len0 cap0 a1 len1 cap1 w h0 h1)
      have E := hid (enc_any a0 len0 cap0 (z0.take len0) w r0 hz0 (by omega))
      have R1 := hid r1
      have HZ := hid hz0
      have hbl := body_len (z0.take len0)
      have htl := r0.1
      rw [htl] at hbl
      have EF := hid (encW_form (z0.take len0))
      have EL := hid (encW_len (z0.take len0))
      clear r0 r1 hz0 hz1 htl
      obtain ⟨xs, hxs⟩ : ∃ xs, xs = encW (z0.take len0) := ⟨_, rfl⟩
      rw [← hxs] at E EF EL
      clear hxs
      obtain ⟨n, hn⟩ : ∃ n, n = xs.length := ⟨_, rfl⟩
      rw [← hn] at E EL
      have HN := hid hn
      clear hn
      have hnb : n ≤ 400000 := by have := EL.out; omega
      go_enter Try.func3, Try.ntmps3
      go_wp2_with fail
      refine (B5.out).mono ?_
      rintro e w' ⟨rfl, rfl⟩
      go_wp2_with fail
      refine (E.out).mono ?_
      rintro e w1 ⟨g, cap, rfl, hg1, hg2, RX, bel1⟩
      have RY := hid (R1.out.later bel1)
      have RX' := hid RX
      clear RX
      go_wp2_with fail
      refine (concat_any _ _ _ _ _ _ _ _ _ RX'.out RY.out (by omega) (by omega)).mono ?_
      rintro e w2 ⟨rfl, RC, bel2, _⟩
      have RC' := hid RC
      clear RC
      have bel : Below w'.heap.size w' w2 := bel1.trans (bel2.mono (by omega))
      clear bel1 bel2
      go_wp2_with fail
      refine (zzstrlen_any _ _ _ _ (body (z0.take len0)) (z1.take len1) _ RC'.out (by rw [EF.out]; simp) (safe_body _ fun x hx => (HZ.out x hx).1) (by omega)).mono ?_
      rintro e w3 ⟨rfl, rfl⟩
      have EI : (n : Int) = ((body (z0.take len0)).length : Int) + 2 := by have := EL.out; omega
      go_wp2
      go_ret
      exact ⟨by simp, bel⟩
    · go_enter Try.func3, Try.ntmps3
      go_wp2
      all_goals (go_ret; exact ⟨rfl, Below.refl _ _⟩)
  · go_enter Try.func3, Try.ntmps3
    go_wp2
    all_goals (go_ret; exact ⟨rfl, Below.refl _ _⟩)

/-! ### THE ROW's STEP: WRITTEN OUT: LEAVE IT -/
set_option maxRecDepth 100000 in
theorem lifted (os : Os) (started : os.Started) (H : Type) (enc : TypeId × Value → H) :
    ReturnsInHanded {} Try.checked os 3 .any (Rows.fnStringLenMeasuresEscapedStringSpec.pre6 enc Try.prog Try.f3 Rows.fnStringLenMeasuresEscapedStringRow.domain false) (Rows.fnStringLenMeasuresEscapedStringSpec.post enc Try.prog Try.f3 false true false false) := by
  refine returnsInHanded_of_change (C := Try.checked) own started (by kernel_rfl) Try.func3
    (ChangeSpec.witness6 (enc := enc) (C := Try.checked) false ⟨#[], #[.slice none 0 0, .slice none 0 0], []⟩ 8 (by kernel_rfl) (by kernel_rfl) (by kernel_rfl) (by kernel_rfl)) ?_
  intro W base args ds gs before hval0 hW hcnd _
  have hval : ∀ (j : Nat) t v, Try.f3.params[j]? = some t → args[j]? = some v → Value.okWide Try.prog W .any base t v := hval0
  have hW' := hW
  obtain ⟨p, q, hA0, hV, rfl, hfz, hnd⟩ := hW
  have hA : DataW.TrodAll enc Try.prog W 0 (fun _ => true) true Try.f3.params.toList args.toList ds p := hA0
  rw [Try.params3] at hA hval
  obtain ⟨v0, vs0, d0, ds0, p0, q0, hargs, rfl, rfl, h0, r0⟩ := trodAll_cons hA
  obtain ⟨v1, vs1, d1, ds1, p1, q1, rfl, rfl, rfl, h1, r1⟩ := trodAll_cons r0
  obtain ⟨rfl, rfl, rfl⟩ := trodAll_nil r1
  obtain rfl : args = #[v0, v1] := by cases args; simp_all
  obtain ⟨rfl, rfl⟩ := trodVars_none hV
  obtain ⟨a0, len0, cap0, rfl⟩ := okWide_slice Try.underlying22 (hval 0 22 v0 rfl rfl)
  have k0 := h0
  have lt0 : ∀ x ∈ p0, x.block < W.heap.size := by obtain ⟨m, hm⟩ := k0; exact DataW.trod_lt m _ _ _ hm
  obtain ⟨z0, w0⟩ : ∃ zs, IsRow .u8 W a0 len0 cap0 zs := by
    obtain ⟨fuel, hf⟩ := h0
    rcases open_ints Try.underlying22 Try.underlying5 (by kernel_rfl) hf with ⟨hcs, _⟩ | ⟨x, l, c, zs, hcs, _, hl, hm, hz, _, hcell, hwz⟩
    · simp [Value.cells] at hcs
      obtain ⟨rfl, rfl, rfl⟩ := hcs
      exact ⟨[], .inl ⟨rfl, rfl, rfl, rfl⟩⟩
    · simp [Value.cells] at hcs
      obtain ⟨rfl, rfl, rfl⟩ := hcs
      exact ⟨zs, .inr ⟨_, rfl, hl, hm, by simpa using hz, hcell, hwz⟩⟩
  obtain ⟨a1, len1, cap1, rfl⟩ := okWide_slice Try.underlying22 (hval 1 22 v1 rfl rfl)
  have k1 := h1
  have lt1 : ∀ x ∈ p1, x.block < W.heap.size := by obtain ⟨m, hm⟩ := k1; exact DataW.trod_lt m _ _ _ hm
  obtain ⟨z1, w1⟩ : ∃ zs, IsRow .u8 W a1 len1 cap1 zs := by
    obtain ⟨fuel, hf⟩ := h1
    rcases open_ints Try.underlying22 Try.underlying5 (by kernel_rfl) hf with ⟨hcs, _⟩ | ⟨x, l, c, zs, hcs, _, hl, hm, hz, _, hcell, hwz⟩
    · simp [Value.cells] at hcs
      obtain ⟨rfl, rfl, rfl⟩ := hcs
      exact ⟨[], .inl ⟨rfl, rfl, rfl, rfl⟩⟩
    · simp [Value.cells] at hcs
      obtain ⟨rfl, rfl, rfl⟩ := hcs
      exact ⟨zs, .inr ⟨_, rfl, hl, hm, by simpa using hz, hcell, hwz⟩⟩
  clear hA0 hval0
  refine (walk a0 len0 cap0 z0 a1 len1 cap1 z1 W w0 w1).mono fun e W' ⟨he, bel⟩ => ?_
  subst he
  exact ⟨_, rfl, _, _, _, [], _, [], hW', trodAll_mk1 (shut_bool Try.underlying4 _), (trodAll_cons_mk (Below.trod laidOut (by kernel_rfl) (of_decide_eq_true (by kernel_rfl)) k0 bel lt0) (trodAll_cons_mk (Below.trod laidOut (by kernel_rfl) (of_decide_eq_true (by kernel_rfl)) k1 bel lt1) trodAll_mk0)), rfl, bel.frame _, fun h => by cases h⟩

theorem over : Rows.fnStringLenMeasuresEscapedStringRow.holds Try.pinned (OpenSpec.ofChange Rows.fnStringLenMeasuresEscapedStringSpec) :=
  OpenClaim.holds_of_wide 3 Try.f3 rfl rfl rfl rfl rfl rfl rfl ⟨rfl, rfl, rfl, rfl, rfl⟩ rfl rfl rfl rfl rfl (by kernel_rfl) Try.func3 (by kernel_rfl)
    (of_decide_eq_true (by kernel_rfl)) (by unfold Func.isWrapper; first | (rw [if_pos (by decide +kernel)]; kernel_rfl) | (rw [if_neg (by decide +kernel)]; exact ⟨rfl, rfl⟩))
    (fun os started H enc _ => lifted os started H enc)

/-- ████ THE STATEMENT ████ -/
theorem proved : Rows.FnStringLenMeasuresEscapedStringSaid := over
#print axioms proved
end Go.Proofs.Qxb6001525a.fnStringLenMeasuresEscapedString
