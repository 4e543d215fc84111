import Derived.Test.Qxb6001617aLaw4
import Derived.Test.Qxb6001617aSplit
import Derived.Deep.QuietTactic
import Derived.BigQuiet
namespace Go.Proofs.Qxb6001617a.Walk
open Go.RowKit
open Go.Proofs.Qxb6001617a.Plain

theorem RdS.drewN {w : World} {ao : Option Addr} {n c : Nat} {ss : List ByteArray} (h : RdS w ao n c ss) (k : Nat) : RdS (w.drewN k) ao n c ss :=
  ⟨h.1, h.2.1, h.2.2.1, fun ad had j u hu => by rw [World.cell?_drewN]; exact h.2.2.2 ad had j u hu⟩

theorem StS.rds {w wr : World} {v : Value} {ps : List ByteArray} (h : StS w wr v ps) : ∃ ao c, v = .slice ao ps.length c ∧ RdS wr ao ps.length c ps := by
  rcases h.1.2 with ⟨rfl, h0⟩ | ⟨g, cap, cur, rfl, _⟩
  · have e : ps = [] := List.eq_nil_of_length_eq_zero h0
    subst e
    exact ⟨none, 0, rfl, RdS.of_own h.1⟩
  · exact ⟨_, _, rfl, RdS.of_own h.1⟩

theorem below_dr {B : Nat} {a w : World} (h : Below B a w) (n : Nat) : Below B a (w.drewN n) := h.trans ⟨rfl, rfl, rfl, Nat.le_refl _, fun _ _ => rfl⟩

set_option maxHeartbeats 1000000 in
theorem law3 (nm : ByteArray) (ao : Option Addr) (n c : Nat) (ss : List ByteArray) (li : Bool) (sk : ByteArray) (bo : Option Addr) (m d : Nat) (ts : List ByteArray) (w : World)
    (hnm : nm.size ≤ maxLen) (hsk : sk.size ≤ maxLen) (h1 : Came w ao n c ss) (h2 : Came w bo m d ts) :
    Calls Try.prog 3 #[.string nm, .slice ao n c, .bool li, .string sk, .slice bo m d] w (Ends w) := by
  have G := hid (guard5 nm ao n c ss li sk bo m d ts w hnm hsk h1.reads h1.len h1.sizes h2.reads h2.len h2.sizes)
  have T := hid (toobig6 nm ao n c ss sk bo m d ts w hnm hsk h1.reads h1.len h1.sizes h2.reads h2.len h2.sizes)
  have R1 := hid h1.reads
  have R2 := hid h2.reads
  have hn := h1.len
  have hm := h2.len
  unfold maxLen at hnm hsk hn hm
  clear h1 h2
  go_enter Try.func3, Try.ntmps3
  go_wp2_with fail
  refine (G.out).mono ?_
  rintro e w' ⟨t, rfl, rfl, _⟩
  cases t with
  | false =>
    go_wp2
    go_ret
    exact ⟨rfl, Below.refl _ _⟩
  | true =>
    by_cases hn1 : n ≤ 65536
    · by_cases hm1 : m ≤ 65536
      · go_wp2_with fail
        refine (T.out).mono ?_
        rintro e w'' ⟨t, rfl, rfl, HT⟩
        cases t with
        | true =>
          go_wp2
          go_ret
          exact ⟨rfl, Below.refl _ _⟩
        | false =>
          obtain ⟨htot, _⟩ := HT rfl
          clear HT
          by_cases hm0 : 0 < m
          · have hmz : ((m : Int) == 0) = false := by simp; omega
            go_wp2
            go_loop [11] (fun i => ∃ k : Nat, k ≤ m ∧ i = .int .i64 k ∧ Hid (∀ j, j < k → cnt (ts.getD j ByteArray.empty).data.toList = 0)) (fun i => m - (intOf i).toNat)
            case atStart => exact ⟨0, Nat.zero_le _, rfl, fun j hj => by omega⟩
            case round =>
              obtain ⟨k, hk, rfl, HK⟩ := hrel
              by_cases hlt : k < m
              · obtain ⟨b, off, rfl, _, hc⟩ := R2.out.spot (by omega)
                have hck := hc k hlt
                have q1 := total_snoc ts k (by rw [R2.out.1]; exact hlt)
                have q3 := total_take_le ts (k + 1)
                obtain ⟨s, hs⟩ : ∃ s, s = ts.getD k ByteArray.empty := ⟨_, rfl⟩
                rw [← hs] at hck q1
                have HS := hid hs
                have hsz : s.size ≤ 1048576 := by omega
                clear hc q1 q3 hs
                go_wp2_with fail
                refine (hascomma7 s _ (by omega)).mono ?_
                rintro e w3 ⟨t, rfl, rfl, HC⟩
                cases t with
                | true =>
                  go_wp2
                  go_ret
                  exact ⟨rfl, Below.refl _ _⟩
                | false =>
                  have HC0 := hid (HC rfl)
                  clear HC
                  go_wp2
                  go_round
                  case rel =>
                    refine ⟨k + 1, by omega, by go_num, ?_⟩
                    intro j hj
                    by_cases e : j = k
                    · subst e
                      rw [← HS.out]
                      exact HC0.out
                    · exact HK.out j (by omega)
                  case measure => simp [intOf]; omega
              · have HN := hid (show ∀ t ∈ ts, cnt t.data.toList = 0 by
                  intro t ht
                  obtain ⟨j, hj, rfl⟩ := List.getElem_of_mem ht
                  have := HK.out j (by rw [R2.out.1] at hj; omega)
                  simpa [List.getD, hj] using this)
                clear HK
                go_wp2_with fail
                refine (clone_any ao n c ss _ R1.out (by omega)).mono ?_
                rintro e w1 ⟨ao', c', rfl, _, B1⟩
                have R21 := hid (R2.out.later B1)
                have HB1 := hid B1
                clear B1
                go_wp2_with fail
                refine (clone_any bo m d ts _ R21.out (by omega)).mono ?_
                rintro e w2 ⟨bo', d', rfl, R22, B2⟩
                have RX := hid R22
                have HB2 := hid (HB1.out.trans (B2.mono HB1.out.size))
                clear R22 B2
                have HB3 := hid (HB2.out.alloc HB2.out.size (.cells #[.string nm, .slice ao' n c', .bool li, .bool false, .string sk] 28))
                have RY := hid (RX.out.later ((Below.refl w2.heap.size w2).alloc (Nat.le_refl _) (.cells #[.string nm, .slice ao' n c', .bool li, .bool false, .string sk] 28)))
                have hj1 := J_length ts
                rw [RX.out.1] at hj1
                obtain ⟨j, hj⟩ : ∃ j : ByteArray, j = ⟨(J ts).toArray⟩ := ⟨_, rfl⟩
                have hjs : j.size = (J ts).length := by rw [hj]; rfl
                have hjl := hid (show j.data.toList = J ts by rw [hj])
                have a1 : j.size ≤ 2000000 := by omega
                have HJ := hid hj
                clear hj hjs hj1
                go_wp2_with fail
                refine (values9 nm ao' n c' li sk bo' m d' ts _ RY.out (by omega) (by omega)).mono ?_
                rintro e w3 ⟨g, rfl, hg, hcell, hb⟩
                rw [← HJ.out] at hcell
                have RZ := hid (RY.out.later hb)
                have HB4 := hid (HB3.out.trans (hb.mono (by have := HB2.out.size; simp; omega)))
                clear hb
                go_wp2_with fail
                refine (split10 j _ (by omega)).mono ?_
                rintro e w4 ⟨v, ps, rfl, S, hps⟩
                have hpt : ps = ts := strings_inj (by rw [hps, hjl.out, cut_J ts (by intro e; have := RX.out.1; rw [e] at this; simp at this; omega) HN.out])
                clear hps
                subst hpt
                have RV := hid (RZ.out.later S.2)
                have HB5 := hid (HB4.out.trans (S.2.mono HB4.out.size))
                obtain ⟨vo, vc, hv, RP⟩ := S.rds
                rw [hv]
                rw [RX.out.1] at RP ⊢
                have RQ := hid RP
                clear RP S hv hcell
                go_wp2
                go_loopw [15] (fun i wr => ∃ k q : Nat, k ≤ m ∧ i = .int .i64 k ∧ wr = w4.drewN q) (fun i _ => m - (intOf i).toNat)
                case atStart => exact ⟨0, 0, Nat.zero_le _, rfl, rfl⟩
                case round =>
                  obtain ⟨k2, q, hk2, rfl, rfl⟩ := hrel
                  by_cases hlt2 : k2 < m
                  · obtain ⟨b1, o1, rfl, _, hc1⟩ := RQ.out.spot hm0
                    obtain ⟨b2, o2, rfl, _, hc2⟩ := RV.out.spot hm0
                    have c1 := hc1 k2 hlt2
                    have c2 := hc2 k2 hlt2
                    obtain ⟨s, hs⟩ : ∃ s, s = ps.getD k2 ByteArray.empty := ⟨_, rfl⟩
                    rw [← hs] at c1 c2
                    clear hc1 hc2 hs
                    have i1 : (0 : Int) ≤ (k2 : Int) := by omega
                    have i2 : (k2 : Int) < (m : Int) := by omega
                    go_wp2
                    go_quiet (fail)
                    go_wp2
                    go_roundw
                    case rel => exact ⟨k2 + 1, _, by omega, by go_num, rfl⟩
                    case measure => simp [intOf]; omega
                  · go_wp2
                    go_ret
                    exact ⟨rfl, below_dr HB5.out q⟩
          · go_wp2
            go_ret
            exact ⟨rfl, Below.refl _ _⟩
      · go_wp2
        go_ret
        exact ⟨rfl, Below.refl _ _⟩
    · go_wp2
      go_ret
      exact ⟨rfl, Below.refl _ _⟩
end Go.Proofs.Qxb6001617a.Walk
