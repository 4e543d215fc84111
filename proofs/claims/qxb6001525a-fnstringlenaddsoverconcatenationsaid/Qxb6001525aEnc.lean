import Derived.Test.Qxb6001525aCalls
namespace Go.Proofs.Qxb6001525a.Walk
open Go.RowKit
open Go.Proofs.Qxb6001525a.Plain

/-- THE STATE OF THE ENCODER's SLICE -/
def St (w wr : World) (v : Value) (xs : List Int) : Prop :=
  wr.ownsRow w.heap.size 5 1 v xs.length (xs.map (Value.int .u8)) ∧ Below w.heap.size w wr

theorem St.next {w wr w1 : World} {v v' : Value} {xs news : List Int} {o : Obj} (h : St w wr v xs)
    (hown : w1.ownsRow w.heap.size 5 1 v' (xs.length + news.length) (xs.map (Value.int .u8) ++ news.map (Value.int .u8))) (hg : (wr.alloc o).grownBy w1 v.ownBlock) : St w w1 v' (xs ++ news) := by
  refine ⟨?_, ?_⟩
  · rw [List.length_append, List.map_append]; exact hown
  · refine (h.2.alloc h.2.size o).grown hg (by have := h.2.size; simp; omega) ?_
    intro k hk
    exact (h.1.lt k hk).1

theorem St.start (w : World) : St w w (.slice none 0 0) [] := ⟨World.ownsRow_nil _ _ _ _, Below.refl _ _⟩

/-- 'dst = append(dst, ..)', the new bytes just laid in a block of their own -/
theorem st_append {ops : Array Oper} {rest : List Oper} {o : Oper} {a : Act} {Q : Exit → Act → World → Prop} {w wr : World} {v : Value} {xs : List Int} {arr : Array Value} {c : Nat}
    (s x : Operand) (news : List Int) (S : St w wr v xs) (hgd : o.guard = none) (ho : o.op = .call { callee := .builtin .append, args := #[s, x], argTypes := #[22, 22] })
    (hs : a.eval s = v) (hx : a.eval x = .slice (some ⟨wr.heap.size, 0, none⟩) news.length c) (harr : arr = (news.map (Value.int .u8)).toArray) (hb : xs.length + news.length ≤ 1000000000)
    (h : ∀ v' w', St w w' v' (xs ++ news) → wpList Try.prog ops Q rest (a.put o.dst v') w') : wpList Try.prog ops Q (o :: rest) a (wr.alloc (.cells arr 5)) := by
  obtain ⟨i0, hi, hz0, hz1, hz2⟩ := info_parts info5
  refine wpList_append_own _ hgd s x 22 ho w.heap.size 5 i0 (.int .u8 0) 1 1 Try.underlying22 hi hz0 hz1 hz2 rfl (by decide) v _ _ hs (S.1.alloc _) ⟨wr.heap.size, 0, none⟩ news.length c (news.map (Value.int .u8)) hx (by simp) ?_ (ints_oneCell _ _) (by unfold maxLen; omega) (by omega) (by have := S.2.size; simp; omega) ?_
  · intro j u hu
    subst harr
    rw [Addr.add_lit, Nat.zero_add]
    rw [cell_of_row _ wr.heap.size j _ 5 (0, 0) (heap_alloc_new wr _)]
    simpa using hu
  · intro v' w' hown hg _
    exact h v' w' (S.next hown hg)

set_option maxHeartbeats 400000 in
theorem enc_none (ao : Option Addr) (ca : Nat) (w : World) :
    Calls Try.prog 6 #[.slice none 0 0, .slice ao 0 ca] w fun e w' => ∃ v, e = .returned v ∧ St w w' v (encW []) := by
  have S0 := St.start w
  go_enter Try.func6, Try.ntmps6
  go_wp2_with (at_builtin; refine st_append (.tmp 7) (.tmp 8) [34] S0 rfl rfl rfl rfl rfl (by simp) ?_; intro v1 w1 S1)
  refine wp_loop_rounds 1 ?_
  rw [rounds_succ]
  go_wp2_with (at_builtin; refine st_append (.tmp 54) (.tmp 55) [34] S1 rfl rfl rfl rfl rfl (by simp) ?_; intro v2 w2 S2)
  go_ret
  exact ⟨_, rfl, S2⟩

set_option maxHeartbeats 1000000 in
theorem enc_some (b off n ca : Nat) (zs : List Int) (w : World) (hbs : b < w.heap.size) (hl : zs.length = n) (hc : ∀ i, i < n → w.cell? ⟨b, off + i, none⟩ = some (.int .u8 (zs.getD i 0)))
    (hz : ∀ i, i < n → 0 ≤ zs.getD i 0 ∧ zs.getD i 0 ≤ 255) (hn : n ≤ 10000000) :
    Calls Try.prog 6 #[.slice none 0 0, .slice (some ⟨b, off, none⟩) n ca] w fun e w' => ∃ v, e = .returned v ∧ St w w' v (encW zs) := by
  have HC := hid hc
  have HZ := hid hz
  have HL := hid hl
  clear hc hz hl
  have S0 := St.start w
  go_enter Try.func6, Try.ntmps6
  go_wp2_with (at_builtin; refine st_append (.tmp 7) (.tmp 8) [34] S0 rfl rfl rfl rfl rfl (by simp) ?_; intro v1 w1 S1)
  go_loopw [0, 5] (fun v i wr => ∃ k : Nat, k ≤ n ∧ i = .int .i64 k ∧ St w wr v (encP (zs.take k))) (fun _ i _ => n - (intOf i).toNat)
  case atStart => exact ⟨0, Nat.zero_le _, rfl, S1⟩
  case round =>
    obtain ⟨k, hk, rfl, S⟩ := hrel
    have hE : (encP (zs.take k)).length ≤ 60000001 := by
      have := encP_len (zs.take k)
      have := List.length_take_le k zs
      omega
    by_cases hlt : k < n
    · have hsn := hid (encP_snoc zs k (by have := HL.out; omega))
      have hb0 := HZ.out k hlt
      have hck := (S.2.cell (p := ⟨b, off + k, none⟩) hbs).trans (HC.out k hlt)
      obtain ⟨c, hcv⟩ : ∃ c, c = zs.getD k 0 := ⟨_, rfl⟩
      rw [← hcv] at hsn hb0 hck
      obtain ⟨hb1, hb2⟩ := hb0
      clear hcv
      obtain ⟨E, hEv⟩ : ∃ E, E = encP (zs.take k) := ⟨_, rfl⟩
      rw [← hEv] at hsn S hE
      clear hEv
      by_cases h34 : c = 34
      · have t1 : (c == 34) = true := by simpa using h34
        have hB := hid (show encB c = [92, 34] by simp [encB, h34])
        clear h34
        go_wp2_with (at_builtin; refine st_append (.tmp 27) (.tmp 28) [92, 34] S rfl rfl rfl rfl rfl (by simp; omega) ?_; intro v2 w2 S2)
        go_roundw
        case rel => exact ⟨k + 1, by omega, by go_num, by rw [hsn.out, hB.out]; exact S2⟩
        case measure => simp [intOf]; omega
      have t34 : (c == 34) = false := by simpa using h34
      by_cases h92 : c = 92
      · have t1 : (c == 92) = true := by simpa using h92
        have hB := hid (show encB c = [92, 92] by simp [encB, h92])
        clear h34 h92
        go_wp2_with (at_builtin; refine st_append (.tmp 33) (.tmp 34) [92, 92] S rfl rfl rfl rfl rfl (by simp; omega) ?_; intro v2 w2 S2)
        go_roundw
        case rel => exact ⟨k + 1, by omega, by go_num, by rw [hsn.out, hB.out]; exact S2⟩
        case measure => simp [intOf]; omega
      have t92 : (c == 92) = false := by simpa using h92
      by_cases h47 : c = 47
      · have t1 : (c == 47) = true := by simpa using h47
        have hB := hid (show encB c = [92, 47] by simp [encB, h47])
        clear h34 h92 h47
        go_wp2_with (at_builtin; refine st_append (.tmp 39) (.tmp 40) [92, 47] S rfl rfl rfl rfl rfl (by simp; omega) ?_; intro v2 w2 S2)
        go_roundw
        case rel => exact ⟨k + 1, by omega, by go_num, by rw [hsn.out, hB.out]; exact S2⟩
        case measure => simp [intOf]; omega
      have t47 : (c == 47) = false := by simpa using h47
      by_cases h32 : c < 32
      · have hB := hid (show encB c = [92, 117, 48, 48, hexd (c / 16), hexd (c % 16)] by simp [encB, h34, h92, h47, h32])
        clear h34 h92 h47
        go_wp2_with fail
        refine (hex_any (c / 16) _ (by omega) (by omega)).mono ?_
        rintro e w' ⟨rfl, rfl⟩
        go_wp2_with fail
        refine (hex_any (c % 16) _ (by omega) (by omega)).mono ?_
        rintro e w'' ⟨rfl, rfl⟩
        go_wp2_with (at_builtin; refine st_append (.tmp 45) (.tmp 52) [92, 117, 48, 48, hexd (c / 16), hexd (c % 16)] S rfl rfl rfl rfl rfl (by simp; omega) ?_; intro v2 w2 S2)
        go_roundw
        case rel => exact ⟨k + 1, by omega, by go_num, by rw [hsn.out, hB.out]; exact S2⟩
        case measure => simp [intOf]; omega
      · have hB := hid (show encB c = [c] by simp [encB, h34, h92, h47, h32])
        clear h34 h92 h47
        go_wp2_with (at_builtin; refine st_append (.tmp 20) (.tmp 22) [c] S rfl rfl rfl rfl rfl (by simp; omega) ?_; intro v2 w2 S2)
        go_roundw
        case rel => exact ⟨k + 1, by omega, by go_num, by rw [hsn.out, hB.out]; exact S2⟩
        case measure => simp [intOf]; omega
    · have hT := hid (show zs.take k = zs from List.take_of_length_le (by have := HL.out; omega))
      go_wp2_with (at_builtin; refine st_append (.tmp 54) (.tmp 55) [34] S rfl rfl rfl rfl rfl (by simp; omega) ?_; intro v2 w2 S2)
      go_ret
      exact ⟨_, rfl, by have := hT.out; rw [this] at S2; exact S2⟩

/-- zzEncode(nil, s): the literal lies in memory of the call's own -/
theorem enc_any (ao : Option Addr) (n ca : Nat) (zs : List Int) (w : World) (hr : Rd w ao n ca zs) (hz : ∀ x ∈ zs, 0 ≤ x ∧ x ≤ 255) (hn : n ≤ 10000000) :
    Calls Try.prog 6 #[.slice none 0 0, .slice ao n ca] w fun e w' => ∃ g cap, e = .returned (.slice (some ⟨g, 0, none⟩) (encW zs).length cap) ∧ w.heap.size ≤ g ∧ g < w'.heap.size ∧ Rd w' (some ⟨g, 0, none⟩) (encW zs).length cap (encW zs) ∧ Below w.heap.size w w' := by
  have core : Calls Try.prog 6 #[.slice none 0 0, .slice ao n ca] w fun e w' => ∃ v, e = .returned v ∧ St w w' v (encW zs) := by
    rcases Nat.eq_zero_or_pos n with h0 | hpos
    · subst h0
      have : zs = [] := List.eq_nil_of_length_eq_zero hr.1
      subst this
      exact enc_none ao ca w
    · obtain ⟨b, off, rfl, hbs, hc⟩ := hr.spot hpos
      refine enc_some b off n ca zs w hbs hr.1 hc ?_ hn
      intro i hi
      have hi' : i < zs.length := by rw [hr.1]; exact hi
      have e : zs.getD i 0 = zs[i] := by simp [List.getD, hi']
      rw [e]
      exact hz _ (List.getElem_mem hi')
  refine core.mono ?_
  rintro e w' ⟨v, rfl, S⟩
  have hp : 0 < (encW zs).length := by simp [encW]
  rcases S.1.2 with ⟨_, h0⟩ | ⟨g, cap, cur, rfl, hbg, hg, _⟩
  · omega
  · exact ⟨g, cap, rfl, hbg, (Array.getElem?_eq_some_iff.1 hg).1, Rd.of_own S.1, S.2⟩

theorem encW_form (zs : List Int) : encW zs = 34 :: (body zs ++ 34 :: []) := by simp [encW, encP]
theorem encW_len (zs : List Int) : (encW zs).length = (body zs).length + 2 := by simp [encW, encP]
end Go.Proofs.Qxb6001525a.Walk
