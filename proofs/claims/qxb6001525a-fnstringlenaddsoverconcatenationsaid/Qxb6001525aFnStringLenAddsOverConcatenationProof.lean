/- The proof of 'Rows.FnStringLenAddsOverConcatenationSaid': the frame by the guide's proof-skeleton; the walk by hand. -/
import Derived.Test.Qxb6001525aRows
import Derived.WalkKit
import Derived.ProofKit
import Derived.OpenShut
import Derived.ShutString
import Derived.ChangeOld
import Derived.Below
import Derived.Test.Qxb6001525aEnc
namespace Go.Proofs.Qxb6001525a.fnStringLenAddsOverConcatenation
open Go.ChangeShapes Go.WideShapes Go.ChangeAt Go.RowKit
open Go.ChangeMaps (open_string shut_string)
open Go.Proofs.Qxb6001525a.Walk Go.Proofs.Qxb6001525a.Plain
set_option linter.unusedVariables false

theorem own : ownKnob Try.prog.godebug = none := by kernel_rfl
theorem laidOut : laidOutB Try.prog = true := by kernel_rfl

/-- WHAT THE WALK IS TOLD OF A SLICE OF INTEGERS THAT CAME IN: it is nil; or it leads to a row of 'cap' cells, the numbers 'zs' (the first 'len' are its elements, the rest its spare room), each fitting its kind. -/
def IsRow (k : IntKind) (w : World) (a : Option Addr) (len cap : Nat) (zs : List Int) : Prop :=
  (a = none ∧ len = 0 ∧ cap = 0 ∧ zs = []) ∨
  ∃ x, a = some x ∧ len ≤ cap ∧ cap ≤ maxLen ∧ zs.length = cap ∧ (∀ i, i < zs.length → w.cell? (x.add i) = some (.int k (zs.getD i 0))) ∧ ∀ n ∈ zs, (Lit.int k n).wf = true

/-- from the row's own view of a slice to the callees' -/
theorem rd_of_row {w : World} {a : Option Addr} {len cap : Nat} {zs : List Int} (h : IsRow .u8 w a len cap zs) : Rd w a len cap (zs.take len) ∧ ∀ x ∈ zs.take len, 0 ≤ x ∧ x ≤ 255 := by
  rcases h with ⟨rfl, rfl, rfl, rfl⟩ | ⟨x, rfl, hl, hm, hz, hcell, hwz⟩
  · exact ⟨⟨rfl, fun _ => ⟨rfl, rfl⟩, fun ad had => by cases had⟩, fun x hx => by simp at hx⟩
  · refine ⟨⟨by simp; omega, (fun h => by cases h), ?_⟩, ?_⟩
    · intro ad had j u hu
      obtain rfl := Option.some.inj had
      have hj : j < zs.length := by
        have := (List.getElem?_eq_some_iff.1 hu).1
        simp at this; omega
      have hj2 : j < len := by
        have := (List.getElem?_eq_some_iff.1 hu).1
        simp at this; omega
      rw [hcell j hj]
      simpa [List.getElem?_take, hj, hj2, List.getD] using hu
    · intro n hn
      have := hwz n (List.mem_of_mem_take hn)
      exact bounds_u8 this
theorem rd_len {w : World} {a : Option Addr} {len cap : Nat} {zs : List Int} (h : IsRow .u8 w a len cap zs) : len ≤ maxLen := by
  rcases h with ⟨rfl, rfl, rfl, rfl⟩ | ⟨x, rfl, hl, hm, hz, hcell, hwz⟩
  · simp
  · omega

theorem bytes9 (a0 : Option Addr) (len0 cap0 : Nat) (a1 : Option Addr) (len1 cap1 : Nat) (w : World) (h0 : len0 ≤ 65536) (h1 : len1 ≤ 65536) :
    Calls Try.prog 9 #[.slice a0 len0 cap0, .slice a1 len1 cap1] w fun e w' => e = .returned (.bool true) ∧ w' = w := by
  go_enter Try.func9, Try.ntmps9
  go_wp2
  go_ret
  exact ⟨rfl, rfl⟩

/-- the encoder's contract, its length a letter -/
theorem enc_n (ao : Option Addr) (n ca : Nat) (zs : List Int) (m : Nat) (w : World) (hr : Rd w ao n ca zs) (hz : ∀ x ∈ zs, 0 ≤ x ∧ x ≤ 255) (hn : n ≤ 10000000) (hm : m = (encW zs).length) :
    Calls Try.prog 6 #[.slice none 0 0, .slice ao n ca] w fun e w' => ∃ g cap, e = .returned (.slice (some ⟨g, 0, none⟩) m cap) ∧ w.heap.size ≤ g ∧ g < w'.heap.size ∧ Rd w' (some ⟨g, 0, none⟩) m cap (encW zs) ∧ Below w.heap.size w w' := by
  subst hm
  exact enc_any ao n ca zs w hr hz hn

/-! ### STEP 1: THE WALK: the Go text returns true, AND WRITES NOTHING THAT WAS THERE: 'Below w.heap.size w w'' (Derived/Below.lean: '.refl', '.alloc', '.drew', '.setCell' at a new block, '.trans'). Open each 'IsRow' by 'rcases' AHEAD of 'go_enter'; part every test ahead of the walk. -/
set_option maxHeartbeats 1000000 in
theorem walk (a0 : Option Addr) (len0 cap0 : Nat) (z0 : List Int) (a1 : Option Addr) (len1 cap1 : Nat) (z1 : List Int) (w : World) (w0 : IsRow .u8 w a0 len0 cap0 z0) (w1 : IsRow .u8 w a1 len1 cap1 z1) :
    Calls Try.prog 4 #[.slice a0 len0 cap0, .slice a1 len1 cap1] w fun e w' => e = .returned (.bool true) ∧ Below w.heap.size w w' := by
  have r0 := rd_of_row w0
  have r1 := rd_of_row w1
  have l0 := rd_len w0
  have l1 := rd_len w1
  unfold maxLen at l0 l1
  clear w0 w1
  obtain ⟨r0, hz0⟩ := r0
  obtain ⟨r1, hz1⟩ := r1
  by_cases h0 : len0 ≤ 65536
  · by_cases h1 : len1 ≤ 65536
    · have B9 := hid (bytes9 a0 len0 cap0 a1 len1 cap1 w h0 h1)
      have R0 := hid r0
      have R1 := hid r1
      have HZ0 := hid hz0
      have HZ1 := hid hz1
      have hbl0 := body_len (z0.take len0)
      have hbl1 := body_len (z1.take len1)
      rw [r0.1] at hbl0
      rw [r1.1] at hbl1
      clear r0 r1 hz0 hz1
      obtain ⟨x0, hx0⟩ : ∃ x, x = z0.take len0 := ⟨_, rfl⟩
      obtain ⟨x1, hx1⟩ : ∃ x, x = z1.take len1 := ⟨_, rfl⟩
      rw [← hx0] at R0 HZ0 hbl0
      rw [← hx1] at R1 HZ1 hbl1
      clear hx0 hx1
      obtain ⟨n0, hn0⟩ : ∃ n, n = (encW x0).length := ⟨_, rfl⟩
      obtain ⟨n1, hn1⟩ : ∃ n, n = (encW x1).length := ⟨_, rfl⟩
      obtain ⟨n2, hn2⟩ : ∃ n, n = (encW (x0 ++ x1)).length := ⟨_, rfl⟩
      have HN0 := hid hn0
      have HN1 := hid hn1
      have HN2 := hid hn2
      have q0 := encW_len x0
      have q1 := encW_len x1
      have q2 := encW_len (x0 ++ x1)
      have q3 := body_append x0 x1
      rw [q3, List.length_append] at q2
      have g0 : n0 ≤ 1000000 := by omega
      have g1 : n1 ≤ 1000000 := by omega
      have g2 : n2 ≤ 1000000 := by omega
      have HE := hid (show (body (x0 ++ x1)).length = (body x0).length + (body x1).length by rw [q3, List.length_append])
      clear q0 q1 q2 q3 hn0 hn1 hn2
      go_enter Try.func4, Try.ntmps4
      go_wp2_with fail
      refine (B9.out).mono ?_
      rintro e w' ⟨rfl, rfl⟩
      go_wp2_with fail
      refine (enc_n a0 len0 cap0 x0 n0 _ R0.out HZ0.out (by omega) HN0.out).mono ?_
      rintro e w1 ⟨g, cap, rfl, hg1, hg2, RX, bel1⟩
      have RX1 := hid RX
      have R11 := hid (R1.out.later bel1)
      have R01 := hid (R0.out.later bel1)
      clear RX
      go_wp2_with fail
      refine (enc_n a1 len1 cap1 x1 n1 _ R11.out HZ1.out (by omega) HN1.out).mono ?_
      rintro e w2 ⟨g', cap', rfl, hg1', hg2', RX, bel2⟩
      have RX2 := hid RX
      have RX12 := hid (RX1.out.later bel2)
      have R12 := hid (R11.out.later bel2)
      have R02 := hid (R01.out.later bel2)
      have bel3 : Below w'.heap.size w' w2 := bel1.trans (bel2.mono (by omega))
      clear RX bel1 bel2
      go_wp2_with fail
      refine (concat_any a0 len0 cap0 x0 a1 len1 cap1 x1 _ R02.out R12.out (by omega) (by omega)).mono ?_
      rintro e w3 ⟨rfl, RX, bel2, hsz⟩
      have RX3 := hid RX
      have RX13 := hid (RX12.out.later bel2)
      have RX23 := hid (RX2.out.later bel2)
      have bel4 : Below w'.heap.size w' w3 := bel3.trans (bel2.mono (by omega))
      clear RX bel2 bel3
      go_wp2_with fail
      refine (enc_n _ _ _ (x0 ++ x1) n2 _ RX3.out ?_ (by omega) HN2.out).mono ?_
      · intro x hx
        rcases List.mem_append.1 hx with h | h
        · exact HZ0.out x h
        · exact HZ1.out x h
      rintro e w4 ⟨g'', cap'', rfl, hg1'', hg2'', RX, bel2⟩
      have RX4 := hid RX
      have RX14 := hid (RX13.out.later bel2)
      have RX24 := hid (RX23.out.later bel2)
      have bel5 : Below w'.heap.size w' w4 := bel4.trans (bel2.mono (by omega))
      clear RX bel2 bel4
      have SA := safe_body x0 fun x hx => (HZ0.out x hx).1
      have SB := safe_body x1 fun x hx => (HZ1.out x hx).1
      have SC := safe_body (x0 ++ x1) fun x hx => by
        rcases List.mem_append.1 hx with h | h
        · exact (HZ0.out x h).1
        · exact (HZ1.out x h).1
      have C1 := hid (zzstrlen_any _ _ _ _ _ [] _ RX4.out (encW_form _) SC (by omega))
      have C2 := hid (zzstrlen_any _ _ _ _ _ [] _ RX14.out (encW_form _) SA (by omega))
      have C3 := hid (zzstrlen_any _ _ _ _ _ [] _ RX24.out (encW_form _) SB (by omega))
      have B5 := hid bel5
      clear SA SB SC bel5 RX1 RX2 RX3 RX4 RX14 RX24 RX13 RX23 RX12 R01 R02 R11 R12
      have m0 : (body x0).length ≤ 1000000 := by omega
      have m1 : (body x1).length ≤ 1000000 := by omega
      go_wp2_with fail
      refine (C1.out).mono ?_
      rintro e w5 ⟨rfl, rfl⟩
      go_wp2_with fail
      refine (C2.out).mono ?_
      rintro e w6 ⟨rfl, rfl⟩
      go_wp2_with fail
      refine (C3.out).mono ?_
      rintro e w7 ⟨rfl, rfl⟩
      go_wp2
      go_ret
      refine ⟨?_, B5.out⟩
      have := HE.out
      simp
      omega
    · go_enter Try.func4, Try.ntmps4
      go_wp2
      all_goals (go_ret; exact ⟨rfl, Below.refl _ _⟩)
  · go_enter Try.func4, Try.ntmps4
    go_wp2
    all_goals (go_ret; exact ⟨rfl, Below.refl _ _⟩)

/-! ### THE ROW's STEP: WRITTEN OUT: LEAVE IT -/
set_option maxRecDepth 100000 in
theorem lifted (os : Os) (started : os.Started) (H : Type) (enc : TypeId × Value → H) :
    ReturnsInHanded {} Try.checked os 4 .any (Rows.fnStringLenAddsOverConcatenationSpec.pre6 enc Try.prog Try.f4 Rows.fnStringLenAddsOverConcatenationRow.domain false) (Rows.fnStringLenAddsOverConcatenationSpec.post enc Try.prog Try.f4 false true false false) := by
  refine returnsInHanded_of_change (C := Try.checked) own started (by kernel_rfl) Try.func4
    (ChangeSpec.witness6 (enc := enc) (C := Try.checked) false ⟨#[], #[.slice none 0 0, .slice none 0 0], []⟩ 8 (by kernel_rfl) (by kernel_rfl) (by kernel_rfl) (by kernel_rfl)) ?_
  intro W base args ds gs before hval0 hW hcnd _
  have hval : ∀ (j : Nat) t v, Try.f4.params[j]? = some t → args[j]? = some v → Value.okWide Try.prog W .any base t v := hval0
  have hW' := hW
  obtain ⟨p, q, hA0, hV, rfl, hfz, hnd⟩ := hW
  have hA : DataW.TrodAll enc Try.prog W 0 (fun _ => true) true Try.f4.params.toList args.toList ds p := hA0
  rw [Try.params4] at hA hval
  obtain ⟨v0, vs0, d0, ds0, p0, q0, hargs, rfl, rfl, h0, r0⟩ := trodAll_cons hA
  obtain ⟨v1, vs1, d1, ds1, p1, q1, rfl, rfl, rfl, h1, r1⟩ := trodAll_cons r0
  obtain ⟨rfl, rfl, rfl⟩ := trodAll_nil r1
  obtain rfl : args = #[v0, v1] := by cases args; simp_all
  obtain ⟨rfl, rfl⟩ := trodVars_none hV
  obtain ⟨a0, len0, cap0, rfl⟩ := okWide_slice Try.underlying22 (hval 0 22 v0 rfl rfl)
  have k0 := h0
  have lt0 : ∀ x ∈ p0, x.block < W.heap.size := by obtain ⟨m, hm⟩ := k0; exact DataW.trod_lt m _ _ _ hm
  obtain ⟨z0, w0⟩ : ∃ zs, IsRow .u8 W a0 len0 cap0 zs := by
    obtain ⟨fuel, hf⟩ := h0
    rcases open_ints Try.underlying22 Try.underlying5 (by kernel_rfl) hf with ⟨hcs, _⟩ | ⟨x, l, c, zs, hcs, _, hl, hm, hz, _, hcell, hwz⟩
    · simp [Value.cells] at hcs
      obtain ⟨rfl, rfl, rfl⟩ := hcs
      exact ⟨[], .inl ⟨rfl, rfl, rfl, rfl⟩⟩
    · simp [Value.cells] at hcs
      obtain ⟨rfl, rfl, rfl⟩ := hcs
      exact ⟨zs, .inr ⟨_, rfl, hl, hm, by simpa using hz, hcell, hwz⟩⟩
  obtain ⟨a1, len1, cap1, rfl⟩ := okWide_slice Try.underlying22 (hval 1 22 v1 rfl rfl)
  have k1 := h1
  have lt1 : ∀ x ∈ p1, x.block < W.heap.size := by obtain ⟨m, hm⟩ := k1; exact DataW.trod_lt m _ _ _ hm
  obtain ⟨z1, w1⟩ : ∃ zs, IsRow .u8 W a1 len1 cap1 zs := by
    obtain ⟨fuel, hf⟩ := h1
    rcases open_ints Try.underlying22 Try.underlying5 (by kernel_rfl) hf with ⟨hcs, _⟩ | ⟨x, l, c, zs, hcs, _, hl, hm, hz, _, hcell, hwz⟩
    · simp [Value.cells] at hcs
      obtain ⟨rfl, rfl, rfl⟩ := hcs
      exact ⟨[], .inl ⟨rfl, rfl, rfl, rfl⟩⟩
    · simp [Value.cells] at hcs
      obtain ⟨rfl, rfl, rfl⟩ := hcs
      exact ⟨zs, .inr ⟨_, rfl, hl, hm, by simpa using hz, hcell, hwz⟩⟩
  clear hA0 hval0
  refine (walk a0 len0 cap0 z0 a1 len1 cap1 z1 W w0 w1).mono fun e W' ⟨he, bel⟩ => ?_
  subst he
  exact ⟨_, rfl, _, _, _, [], _, [], hW', trodAll_mk1 (shut_bool Try.underlying4 _), (trodAll_cons_mk (Below.trod laidOut (by kernel_rfl) (of_decide_eq_true (by kernel_rfl)) k0 bel lt0) (trodAll_cons_mk (Below.trod laidOut (by kernel_rfl) (of_decide_eq_true (by kernel_rfl)) k1 bel lt1) trodAll_mk0)), rfl, bel.frame _, fun h => by cases h⟩

theorem over : Rows.fnStringLenAddsOverConcatenationRow.holds Try.pinned (OpenSpec.ofChange Rows.fnStringLenAddsOverConcatenationSpec) :=
  OpenClaim.holds_of_wide 4 Try.f4 rfl rfl rfl rfl rfl rfl rfl ⟨rfl, rfl, rfl, rfl, rfl⟩ rfl rfl rfl rfl rfl (by kernel_rfl) Try.func4 (by kernel_rfl)
    (of_decide_eq_true (by kernel_rfl)) (by unfold Func.isWrapper; first | (rw [if_pos (by decide +kernel)]; kernel_rfl) | (rw [if_neg (by decide +kernel)]; exact ⟨rfl, rfl⟩))
    (fun os started H enc _ => lifted os started H enc)

/-- ████ THE STATEMENT ████ -/
theorem proved : Rows.FnStringLenAddsOverConcatenationSaid := over
#print axioms proved
end Go.Proofs.Qxb6001525a.fnStringLenAddsOverConcatenation
