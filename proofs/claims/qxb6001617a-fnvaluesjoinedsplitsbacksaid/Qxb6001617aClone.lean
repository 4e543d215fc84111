import Derived.Test.Qxb6001617aReads
namespace Go.Proofs.Qxb6001617a.Walk
open Go.RowKit
open Go.Proofs.Qxb6001617a.Plain

theorem info9 : (Try.prog.info? 9).map (fun i => (i.zero, i.size, i.bytes)) = some (some (.string ByteArray.empty), 1, 16) := by kernel_rfl

/-- the clone's state: the first k strings are laid -/
def Laid (w wr : World) (n k : Nat) (ss : List ByteArray) : Prop :=
  ∃ xs : List Value, wr.ownsRow w.heap.size 9 1 (.slice (some ⟨w.heap.size, 0, none⟩) n n) n xs ∧ Below w.heap.size w wr ∧ ∀ j, j < k → xs[j]? = some (.string (ss.getD j ByteArray.empty))

theorem Laid.step {w wr : World} {n k : Nat} {ss : List ByteArray} (h : Laid w wr n k ss) (hk : k < n) : Laid w (wr.setCell ⟨w.heap.size, k, none⟩ (.string (ss.getD k ByteArray.empty))) n (k + 1) ss := by
  obtain ⟨xs, hown, hb, hx⟩ := h
  refine ⟨_, (hown.stored k _).1, hb.setCell (Nat.le_refl _) _, ?_⟩
  have hl : xs.length = n := by simpa using hown.1
  intro j hj
  by_cases e : j = k
  · subst e
    rw [List.getElem?_set_self (by omega)]
  · rw [List.getElem?_set_ne (by omega)]
    exact hx j (by omega)

theorem Laid.rds {w wr : World} {n : Nat} {ss : List ByteArray} (h : Laid w wr n n ss) (hl : ss.length = n) : RdS wr (some ⟨w.heap.size, 0, none⟩) n n ss ∧ Below w.heap.size w wr := by
  obtain ⟨xs, hown, hb, hx⟩ := h
  have hxl : xs.length = n := by simpa using hown.1
  have e : xs = ss.map Value.string := by
    apply List.ext_getElem?
    intro j
    by_cases hj : j < n
    · rw [hx j hj]
      have : j < ss.length := by omega
      simp [List.getD, this]
    · rw [List.getElem?_eq_none (by omega), List.getElem?_eq_none (by simp; omega)]
  rw [e] at hown
  exact ⟨RdS.of_own hown, hb⟩

set_option maxHeartbeats 400000 in
/-- zzClone: the same strings in memory of the call's own (nil stays nil) -/
theorem clone_any (ao : Option Addr) (n c : Nat) (ss : List ByteArray) (w : World) (hr : RdS w ao n c ss) (hn : n ≤ 1000000) :
    Calls Try.prog 8 #[.slice ao n c] w fun e w' => ∃ ao' c', e = .returned (.slice ao' n c') ∧ RdS w' ao' n c' ss ∧ Below w.heap.size w w' := by
  obtain ⟨i0, hi, hz0, hz1, hz2⟩ := info_parts info9
  have hnil := fun w => Lib.run_eql_slice_nil (P := Try.prog) w 22 9 ao n c 0 0 Try.underlying22
  have HR := hid hr
  clear hr
  cases ao with
  | none =>
    go_enter Try.func8, Try.ntmps8
    go_wp2
    go_ret
    have := HR.out.2.2.1 rfl
    obtain ⟨rfl, rfl⟩ := this
    exact ⟨none, 0, rfl, HR.out, Below.refl _ _⟩
  | some x =>
    go_enter Try.func8, Try.ntmps8
    go_wp2_with (at_make; refine wpList_make_full _ rfl _ _ 22 rfl w.heap.size 9 i0 (.string ByteArray.empty) 1 Try.underlying22 hi hz0 hz1 _ _ _ _ n rfl rfl rfl rfl (by rw [hz2]; omega) (by unfold maxLen; omega) (Nat.le_refl _) ?_)
    intro w1 hown hgrow
    have L0 : Laid w w1 n 0 ss := ⟨_, hown, (Below.refl _ _).grown hgrow (Nat.le_refl _) (by simp), fun j hj => by omega⟩
    clear hown hgrow
    go_wp2
    go_loopw [4] (fun i wr => ∃ k : Nat, k ≤ n ∧ i = .int .i64 k ∧ Laid w wr n k ss) (fun i _ => n - (intOf i).toNat)
    case atStart => exact ⟨0, Nat.zero_le _, rfl, L0⟩
    case round =>
      obtain ⟨k, hk, rfl, L⟩ := hrel
      by_cases hlt : k < n
      · obtain ⟨b, off, hx, hbs, hc⟩ := HR.out.spot (by omega)
        obtain rfl := Option.some.inj hx
        obtain ⟨xs, hown, hb, _⟩ := id L
        have hck := (hb.cell (p := ⟨b, off + k, none⟩) hbs).trans (hc k hlt)
        have hfz := hown.frozenAt k
        have hthere : ∃ u, wr.cell? ⟨w.heap.size, k, none⟩ = some u := by
          rw [hown.cellAt k (by omega)]
          have hl : xs.length = n := by simpa using hown.1
          exact ⟨_, List.getElem?_eq_getElem (by omega)⟩
        obtain ⟨u, hu⟩ := hthere
        have L1 := L.step hlt
        obtain ⟨s, hs⟩ : ∃ s, s = ss.getD k ByteArray.empty := ⟨_, rfl⟩
        rw [← hs] at hck L1
        clear hc hs hown hb hx
        go_wp2
        go_roundw
        case rel => exact ⟨k + 1, by omega, by go_num, L1⟩
        case measure => simp [intOf]; omega
      · have hke : k = n := by omega
        have LN : Laid w wr n n ss := by rw [hke] at L; exact L
        clear hke
        go_wp2
        go_ret
        have := LN.rds HR.out.1
        exact ⟨_, _, rfl, this.1, this.2⟩
end Go.Proofs.Qxb6001617a.Walk
