import Derived.Test.Qxb6001617aGuards
import Derived.Test.Qxb6001617aClone
import Derived.Test.Qxb6001617aValues
namespace Go.Proofs.Qxb6001617a.Walk
open Go.RowKit
open Go.Proofs.Qxb6001617a.Plain

/-- what a law says of its end -/
def Ends (w : World) (e : Ending) (w' : World) : Prop := e = .returned (.bool true) ∧ Below w.heap.size w w'

/-- what a law is told of a slice of strings that came in -/
structure Came (w : World) (ao : Option Addr) (n c : Nat) (ss : List ByteArray) : Prop where
  reads : RdS w ao n c ss
  len : n ≤ maxLen
  sizes : ∀ i, i < n → (ss.getD i ByteArray.empty).size ≤ maxLen

set_option maxHeartbeats 1000000 in
theorem law4 (nm : ByteArray) (ao : Option Addr) (n c : Nat) (ss : List ByteArray) (li : Bool) (sk : ByteArray) (bo : Option Addr) (m d : Nat) (ts : List ByteArray) (w : World)
    (hnm : nm.size ≤ maxLen) (hsk : sk.size ≤ maxLen) (h1 : Came w ao n c ss) (h2 : Came w bo m d ts) :
    Calls Try.prog 4 #[.string nm, .slice ao n c, .bool li, .string sk, .slice bo m d] w (Ends w) := by
  have G := hid (guard11 nm ao n c ss li sk bo m d ts w hnm hsk h1.reads h1.len h1.sizes h2.reads h2.len h2.sizes)
  have T := hid (toobig6 nm ao n c ss sk bo m d ts w hnm hsk h1.reads h1.len h1.sizes h2.reads h2.len h2.sizes)
  have R1 := hid h1.reads
  have R2 := hid h2.reads
  have hn := h1.len
  have hm := h2.len
  unfold maxLen at hnm hsk hn hm
  clear h1 h2
  go_enter Try.func4, Try.ntmps4
  go_wp2_with fail
  refine (G.out).mono ?_
  rintro e w' ⟨t, rfl, rfl, _⟩
  cases t with
  | false =>
    go_wp2
    go_ret
    exact ⟨rfl, Below.refl _ _⟩
  | true =>
    by_cases hn1 : n ≤ 65536
    · by_cases hm1 : m ≤ 65536
      · go_wp2_with fail
        refine (T.out).mono ?_
        rintro e w'' ⟨t, rfl, rfl, HT⟩
        cases t with
        | true =>
          go_wp2
          go_ret
          exact ⟨rfl, Below.refl _ _⟩
        | false =>
          obtain ⟨htot, _⟩ := HT rfl
          go_wp2_with fail
          refine (clone_any ao n c ss _ R1.out (by omega)).mono ?_
          rintro e w1 ⟨ao', c', rfl, _, B1⟩
          have R21 := hid (R2.out.later B1)
          have HB1 := hid B1
          clear B1 HT
          go_wp2_with fail
          refine (clone_any bo m d ts _ R21.out (by omega)).mono ?_
          rintro e w2 ⟨bo', d', rfl, R22, B2⟩
          have RX := hid R22
          have HB2 := hid (HB1.out.trans (B2.mono HB1.out.size))
          clear R22 B2
          go_wp2
          go_loop [11, 12, 13] (fun a b i => ∃ k x y : Nat, k ≤ m ∧ i = .int .i64 k ∧ x ≤ 1048576 ∧ y ≤ 1048576 ∧ a = .int .i64 x ∧ b = .int .i64 y ∧ Hid (x = total (ts.take k)) ∧ Hid (y = commas (ts.take k))) (fun _ _ i => m - (intOf i).toNat)
          case atStart => exact ⟨0, 0, 0, Nat.zero_le _, rfl, by omega, by omega, rfl, rfl, rfl, rfl⟩
          case round =>
            obtain ⟨k, x, y, hk, rfl, hx, hy, rfl, rfl, HX, HY⟩ := hrel
            by_cases hlt : k < m
            · obtain ⟨b, off, rfl, _, hc⟩ := RX.out.spot (by omega)
              have hck := hc k hlt
              have q1 := total_snoc ts k (by rw [RX.out.1]; exact hlt)
              have q2 := commas_snoc ts k (by rw [RX.out.1]; exact hlt)
              have q3 := total_take_le ts (k + 1)
              have q4 := commas_le (ts.take (k + 1))
              obtain ⟨s, hs⟩ : ∃ s, s = ts.getD k ByteArray.empty := ⟨_, rfl⟩
              rw [← hs] at hck q1 q2
              have hsz : s.size ≤ 1048576 := by omega
              have hct : cnt s.data.toList ≤ 1048576 := by omega
              have hx2 : x + s.size ≤ 1048576 := by have := HX.out; omega
              have hy2 : y + cnt s.data.toList ≤ 1048576 := by have := HY.out; omega
              have HX2 := hid (show x + s.size = total (ts.take (k + 1)) by have := HX.out; omega)
              have HY2 := hid (show y + cnt s.data.toList = commas (ts.take (k + 1)) by have := HY.out; omega)
              have C := hid (count_any s w2 (by omega))
              clear hc q1 q2 q3 q4 hs
              obtain ⟨z, hz⟩ : ∃ z, z = cnt s.data.toList := ⟨_, rfl⟩
              rw [← hz] at hct hy2 HY2 C
              clear hz
              go_wp2_with fail
              refine (C.out).mono ?_
              rintro e w3 ⟨rfl, rfl⟩
              go_wp2
              go_round
              case rel => exact ⟨k + 1, x + s.size, y + z, by omega, by go_num, by omega, by omega, by go_num, by go_num, HX2, HY2⟩
              case measure => simp [intOf]; omega
            · have HX2 := hid (show x = total ts by rw [HX.out, List.take_of_length_le (by rw [RX.out.1]; omega)])
              have HY2 := hid (show y = commas ts by rw [HY.out, List.take_of_length_le (by rw [RX.out.1]; omega)])
              clear HX HY
              have hj1 := J_length ts
              have hj2 := J_commas ts
              rw [RX.out.1] at hj1 hj2
              obtain ⟨j, hj⟩ : ∃ j : ByteArray, j = ⟨(J ts).toArray⟩ := ⟨_, rfl⟩
              have hjs : j.size = (J ts).length := by rw [hj]; rfl
              have hjl : j.data.toList = J ts := by rw [hj]
              obtain ⟨z, hz⟩ : ∃ z, z = cnt j.data.toList := ⟨_, rfl⟩
              have hz2 : z = y + (m - 1) := by rw [hz, hjl, hj2, ← HY2.out]
              have hx2 : j.size = x + (m - 1) := by rw [hjs, hj1, ← HX2.out]
              have a1 : j.size ≤ x + (m - 1) := by omega
              have a2 : x + (m - 1) ≤ j.size := by omega
              have a3 : z ≤ y + (m - 1) := by omega
              have a4 : y + (m - 1) ≤ z := by omega
              have HJ := hid hj
              have HZ := hid hz
              clear hj hz hz2 hx2 hjs hjl hj1 hj2
              have HB3 := hid (HB2.out.alloc HB2.out.size (.cells #[.string nm, .slice ao' n c', .bool li, .bool false, .string sk] 28))
              have RY := hid (RX.out.later ((Below.refl w2.heap.size w2).alloc (Nat.le_refl _) (.cells #[.string nm, .slice ao' n c', .bool li, .bool false, .string sk] 28)))
              by_cases hm0 : 0 < m
              · go_wp2_with fail
                refine (values9 nm ao' n c' li sk bo' m d' ts _ RY.out (by omega) (by omega)).mono ?_
                rintro e w3 ⟨g, rfl, hg, hcell, hb⟩
                rw [← HJ.out] at hcell
                have HB4 := hid (HB3.out.trans (hb.mono (by have := HB2.out.size; simp; omega)))
                clear hb
                go_wp2_with fail
                refine (count_any j _ (by omega)).mono ?_
                rintro e w4 ⟨rfl, rfl⟩
                rw [← HZ.out]
                go_wp2
                go_ret
                refine ⟨?_, HB4.out⟩
                simp
                omega
              · go_wp2_with fail
                refine (values9 nm ao' n c' li sk bo' m d' ts _ RY.out (by omega) (by omega)).mono ?_
                rintro e w3 ⟨g, rfl, hg, hcell, hb⟩
                rw [← HJ.out] at hcell
                have HB4 := hid (HB3.out.trans (hb.mono (by have := HB2.out.size; simp; omega)))
                clear hb
                go_wp2_with fail
                refine (count_any j _ (by omega)).mono ?_
                rintro e w4 ⟨rfl, rfl⟩
                rw [← HZ.out]
                go_wp2
                go_ret
                refine ⟨?_, HB4.out⟩
                simp
                omega
      · go_wp2
        go_ret
        exact ⟨rfl, Below.refl _ _⟩
    · go_wp2
      go_ret
      exact ⟨rfl, Below.refl _ _⟩
end Go.Proofs.Qxb6001617a.Walk
