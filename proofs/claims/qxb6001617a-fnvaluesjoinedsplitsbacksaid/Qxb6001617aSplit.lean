import Derived.Test.Qxb6001617aClone
import Derived.Test.Qxb6001617aCut
namespace Go.Proofs.Qxb6001617a.Walk
open Go.RowKit
open Go.Proofs.Qxb6001617a.Plain

/-- the state of a slice of strings that the call makes -/
def StS (w wr : World) (v : Value) (ps : List ByteArray) : Prop :=
  wr.ownsRow w.heap.size 9 1 v ps.length (ps.map Value.string) ∧ Below w.heap.size w wr

theorem StS.next {w wr w1 : World} {v v' : Value} {ps : List ByteArray} {p : ByteArray} {o : Obj} (h : StS w wr v ps)
    (hown : w1.ownsRow w.heap.size 9 1 v' (ps.length + 1) (ps.map Value.string ++ [.string p])) (hg : (wr.alloc o).grownBy w1 v.ownBlock) : StS w w1 v' (ps ++ [p]) := by
  refine ⟨?_, ?_⟩
  · rw [List.length_append, List.map_append]; exact hown
  · refine (h.2.alloc h.2.size o).grown hg (by have := h.2.size; simp; omega) ?_
    intro k hk
    exact (h.1.lt k hk).1

theorem StS.start (w : World) : StS w w (.slice none 0 0) [] := ⟨World.ownsRow_nil _ _ _ _, Below.refl _ _⟩

/-- 'out = append(out, p)', p just laid in a block of its own -/
theorem sts_append {ops : Array Oper} {rest : List Oper} {o : Oper} {a : Act} {Q : Exit → Act → World → Prop} {w wr : World} {v : Value} {ps : List ByteArray} {c : Nat}
    (s x : Operand) (p : ByteArray) (S : StS w wr v ps) (hgd : o.guard = none) (ho : o.op = .call { callee := .builtin .append, args := #[s, x], argTypes := #[22, 22] })
    (hs : a.eval s = v) (hx : a.eval x = .slice (some ⟨wr.heap.size, 0, none⟩) 1 c) (hb : ps.length ≤ 1000000000)
    (h : ∀ v' w', StS w w' v' (ps ++ [p]) → wpList Try.prog ops Q rest (a.put o.dst v') w') : wpList Try.prog ops Q (o :: rest) a (wr.alloc (.cells #[.string p] 9)) := by
  obtain ⟨i0, hi, hz0, hz1, hz2⟩ := info_parts info9
  refine wpList_append_own _ hgd s x 22 ho w.heap.size 9 i0 (.string ByteArray.empty) 1 16 Try.underlying22 hi hz0 hz1 hz2 rfl (by decide) v _ _ hs (S.1.alloc _) ⟨wr.heap.size, 0, none⟩ 1 c [.string p] hx (by simp) ?_ (fun u hu => by simp at hu; subst hu; rfl) (by unfold maxLen; omega) (by omega) (by have := S.2.size; simp; omega) ?_
  · intro j u hu
    rw [Addr.add_lit, Nat.zero_add]
    rw [cell_of_row _ wr.heap.size j _ 9 (0, 0) (heap_alloc_new wr _)]
    simpa using hu
  · intro v' w' hown hg _
    exact h v' w' (S.next hown hg)

set_option maxHeartbeats 400000 in
/-- zzHasComma: a no tells that there is none -/
theorem hascomma7 (s : ByteArray) (w : World) (hs : s.size ≤ 1000000000) : Calls Try.prog 7 #[.string s] w (Told w (cnt s.data.toList = 0)) := by
  go_enter Try.func7, Try.ntmps7
  go_wp2
  go_loop [3] (fun i => ∃ k : Nat, k ≤ s.size ∧ i = .int .i64 k ∧ Hid (cnt (s.data.toList.take k) = 0)) (fun i => s.size - (intOf i).toNat)
  case atStart => exact ⟨0, Nat.zero_le _, rfl, rfl⟩
  case round =>
    obtain ⟨k, hk, rfl, HK⟩ := hrel
    by_cases hlt : k < s.size
    · have HS := hid (cnt_snoc s k hlt)
      by_cases h44 : s[k].toNat = 44
      · have t1 : ((s[k].toNat : Int) == 44) = true := by simp [h44]
        clear h44
        go_wp2
        go_ret
        exact ⟨_, rfl, rfl, fun h => by cases h⟩
      · have t1 : ((s[k].toNat : Int) == 44) = false := by simp; omega
        have H := hid h44
        clear h44
        go_wp2
        go_round
        case rel => exact ⟨k + 1, by omega, by go_num, by show cnt _ = 0; rw [HS.out, HK.out, if_neg H.out]⟩
        case measure => simp [intOf]; omega
    · have HT := hid (show cnt s.data.toList = 0 by rw [← HK.out, List.take_of_length_le (by simp; omega)])
      go_wp2
      go_ret
      exact ⟨_, rfl, rfl, fun _ => HT.out⟩

set_option maxHeartbeats 400000 in
/-- zzSplitComma: the pieces, in memory of the call's own -/
theorem split10 (s : ByteArray) (w : World) (hs : s.size ≤ 100000000) :
    Calls Try.prog 10 #[.string s] w fun e w' => ∃ v ps, e = .returned v ∧ StS w w' v ps ∧ ps.map (·.data.toList) = cut s.data.toList := by
  have S0 := StS.start w
  go_enter Try.func10, Try.ntmps10
  go_wp2
  go_loopw [3, 4, 5] (fun v st i wr => ∃ (k b : Nat) (ps : List ByteArray), k ≤ s.size ∧ b ≤ k ∧ i = .int .i64 k ∧ st = .int .i64 b ∧ StS w wr v ps ∧ Cutting s ps b k) (fun _ _ i _ => s.size - (intOf i).toNat)
  case atStart => exact ⟨0, 0, [], Nat.zero_le _, Nat.le_refl _, rfl, rfl, S0, Cutting.start s⟩
  case round =>
    obtain ⟨k, b, ps, hk, hb, rfl, rfl, S, C⟩ := hrel
    have hpl : ps.length ≤ 100000000 := by have := C.2.1; omega
    by_cases hlt : k < s.size
    · by_cases h44 : s[k].toNat = 44
      · have t1 : ((s[k].toNat : Int) == 44) = true := by simp [h44]
        have C2 := C.comma hlt h44
        clear h44
        go_wp2_with (at_builtin; refine sts_append (.tmp 16) (.tmp 21) (s.extract b k) S rfl rfl rfl rfl (by omega) ?_; intro v2 w2 S2)
        go_roundw
        case rel => exact ⟨k + 1, k + 1, _, by omega, by omega, by go_num, by go_num, S2, C2⟩
        case measure => simp [intOf]; omega
      · have t1 : ((s[k].toNat : Int) == 44) = false := by simp; omega
        have C2 := C.other hlt h44
        clear h44
        go_wp2
        go_roundw
        case rel => exact ⟨k + 1, b, _, by omega, by omega, by go_num, rfl, S, C2⟩
        case measure => simp [intOf]; omega
    · have hke : k = s.size := by omega
      have CL := hid (show (ps ++ [s.extract b s.size]).map (·.data.toList) = cut s.data.toList by rw [hke] at C; exact C.last)
      clear hke
      go_wp2_with (at_builtin; refine sts_append (.tmp 25) (.tmp 29) (s.extract b s.size) S rfl rfl rfl rfl (by omega) ?_; intro v2 w2 S2)
      go_ret
      exact ⟨_, _, rfl, S2, CL.out⟩
end Go.Proofs.Qxb6001617a.Walk
