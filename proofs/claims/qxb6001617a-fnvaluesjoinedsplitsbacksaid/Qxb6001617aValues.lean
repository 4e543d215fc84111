import Derived.Test.Qxb6001617aReads
import Derived.Test.Qxb6001617aShelf
namespace Go.Proofs.Qxb6001617a.Walk
open Go.RowKit
open Go.Proofs.Qxb6001617a.Plain

/-- strings.Join at a comma, whatever the slice -/
theorem join_any (bo : Option Addr) (m d : Nat) (ts : List ByteArray) (w : World) (hr : RdS w bo m d ts) (hm : m ≤ 1000000) (ht : total ts ≤ 1000000000) :
    Calls Try.prog 15 #[.slice bo m d, .string ⟨#[44]⟩] w fun e w' => e = .returned (.string ⟨(J ts).toArray⟩) ∧ Below w.heap.size w w' := by
  rcases Nat.eq_zero_or_pos m with h0 | hpos
  · subst h0
    have e : ts = [] := List.eq_nil_of_length_eq_zero hr.1
    subst e
    refine (Try.strings_Join_none bo d ⟨#[44]⟩ w).mono ?_
    rintro e w' ⟨rfl, rfl⟩
    exact ⟨rfl, Below.refl _ _⟩
  · obtain ⟨b, off, rfl, hbs, hc⟩ := hr.spot hpos
    obtain ⟨hl, hcap, _, hcc⟩ := hr
    subst hl
    have hj := J_length ts
    refine (Try.strings_Join b off d ts ⟨#[44]⟩ w ?_ hbs (by omega) hcap (by show (J ts).length ≤ _; omega)).mono ?_
    · intro j x hx
      have hj : j < ts.length := (List.getElem?_eq_some_iff.1 hx).1
      rw [hc j hj]
      simp [List.getD, hx]
    · rintro e w' ⟨rfl, hb⟩
      exact ⟨rfl, hb⟩

set_option maxHeartbeats 400000 in
/-- (Option).values at an option that is not Repeated -/
theorem values14 (nm : ByteArray) (ao : Option Addr) (n c : Nat) (li : Bool) (sk : ByteArray) (bo : Option Addr) (m d : Nat) (ts : List ByteArray) (w : World)
    (hr : RdS w bo m d ts) (hm : m ≤ 1000000) (ht : total ts ≤ 1000000000) :
    Calls Try.prog 14 #[.agg #[.string nm, .slice ao n c, .bool li, .bool false, .string sk], .slice bo m d] w fun e w' => ∃ g, e = .returned (.slice (some ⟨g, 0, none⟩) 1 1) ∧ w.heap.size ≤ g ∧ w'.cell? ⟨g, 0, none⟩ = some (.string ⟨(J ts).toArray⟩) ∧ Below w.heap.size w w' := by
  have HR := hid hr
  clear hr
  go_enter Try.func14, Try.ntmps14
  go_wp2_with fail
  have HB := hid ((Below.refl w.heap.size w).alloc (Nat.le_refl _) (.cells #[.string nm, .slice ao n c, .bool li, .bool false, .string sk] 28))
  refine (join_any bo m d ts _ (HR.out.later HB.out) hm ht).mono ?_
  rintro e w1 ⟨rfl, hb⟩
  have hb1 := hid (HB.out.trans (hb.mono (by simp)))
  have hz : w.heap.size < w1.heap.size := by have := hb.size; simp at this; omega
  clear hb
  obtain ⟨j, hj⟩ : ∃ j : ByteArray, j = ⟨(J ts).toArray⟩ := ⟨_, rfl⟩
  rw [← hj]
  have HJ := hid hj
  clear hj
  go_wp2
  go_ret
  refine ⟨_, rfl, by omega, ?_, hb1.out.alloc (by omega) _⟩
  simp
  exact HJ.out

set_option maxHeartbeats 400000 in
/-- ZZOptionValues hands on -/
theorem values9 (nm : ByteArray) (ao : Option Addr) (n c : Nat) (li : Bool) (sk : ByteArray) (bo : Option Addr) (m d : Nat) (ts : List ByteArray) (w : World)
    (hr : RdS w bo m d ts) (hm : m ≤ 1000000) (ht : total ts ≤ 1000000000) :
    Calls Try.prog 9 #[.agg #[.string nm, .slice ao n c, .bool li, .bool false, .string sk], .slice bo m d] w fun e w' => ∃ g, e = .returned (.slice (some ⟨g, 0, none⟩) 1 1) ∧ w.heap.size ≤ g ∧ w'.cell? ⟨g, 0, none⟩ = some (.string ⟨(J ts).toArray⟩) ∧ Below w.heap.size w w' := by
  have HR := hid hr
  clear hr
  go_enter Try.func9, Try.ntmps9
  go_wp2_with fail
  have HB := hid ((Below.refl w.heap.size w).alloc (Nat.le_refl _) (.cells #[.string nm, .slice ao n c, .bool li, .bool false, .string sk] 28))
  refine (values14 nm ao n c li sk bo m d ts _ (HR.out.later HB.out) hm ht).mono ?_
  rintro e w1 ⟨g, rfl, hg, hcell, hb⟩
  have hb1 := hid (HB.out.trans (hb.mono (by simp)))
  have hg1 : w.heap.size ≤ g := by simp at hg; omega
  have hcell' := hid hcell
  clear hb hcell hg
  go_wp2
  go_ret
  exact ⟨g, rfl, hg1, hcell'.out, hb1.out⟩
end Go.Proofs.Qxb6001617a.Walk
