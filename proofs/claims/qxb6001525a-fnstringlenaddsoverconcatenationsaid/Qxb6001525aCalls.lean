import Derived.Test.Qxb6001525aRows
import Derived.Test.Qxb6001525aPlain
import Derived.WalkKit
import Derived.WalkSpells
namespace Go.Proofs.Qxb6001525a.Walk
open Go.RowKit
open Go.Proofs.Qxb6001525a.Plain

theorem info5 : (Try.prog.info? 5).map (fun i => (i.zero, i.size, i.bytes)) = some (some (.int .u8 0), 1, 1) := by kernel_rfl

/-- WHAT A CALLEE IS TOLD OF A SLICE OF BYTES: its numbers, and where they lie. -/
def Rd (w : World) (ao : Option Addr) (n c : Nat) (zs : List Int) : Prop :=
  zs.length = n ∧ (ao = none → n = 0 ∧ c = 0) ∧ ∀ ad, ao = some ad → ∀ j u, (zs.map (Value.int .u8))[j]? = some u → w.cell? (ad.add j) = some u

theorem Rd.spot {w : World} {ao : Option Addr} {n c : Nat} {zs : List Int} (h : Rd w ao n c zs) (hn : 0 < n) :
    ∃ b off, ao = some ⟨b, off, none⟩ ∧ b < w.heap.size ∧ ∀ i, i < n → w.cell? ⟨b, off + i, none⟩ = some (.int .u8 (zs.getD i 0)) := by
  obtain ⟨hl, h0, hc⟩ := h
  cases ao with
  | none => have := h0 rfl; omega
  | some x =>
    obtain ⟨b, off, spot⟩ := x
    have e : ∀ i, i < n → (zs.map (Value.int .u8))[i]? = some (.int .u8 (zs.getD i 0)) := by
      intro i hi
      have hi' : i < zs.length := by omega
      simp [List.getD, hi']
    have c0 := hc _ rfl 0 _ (e 0 hn)
    have hspot : spot = none := by simpa [Addr.add] using World.cell?_spot c0
    subst hspot
    refine ⟨b, off, rfl, World.block_lt_of_cell? w _ c0, ?_⟩
    intro i hi
    have := hc _ rfl i _ (e i hi)
    rwa [Addr.add_lit] at this

theorem Rd.later {w w' : World} {ao : Option Addr} {n c : Nat} {zs : List Int} (h : Rd w ao n c zs) (hb : Below w.heap.size w w') : Rd w' ao n c zs := by
  refine ⟨h.1, h.2.1, fun ad had j u hu => ?_⟩
  have := h.2.2 ad had j u hu
  rw [hb.cell (World.block_lt_of_cell? w _ this)]
  exact this

theorem Rd.of_own {w : World} {base n cap : Nat} {ao : Option Addr} {zs : List Int} (h : w.ownsRow base 5 1 (.slice ao n cap) n (zs.map (Value.int .u8))) : Rd w ao n cap zs := by
  have hl : zs.length = n := by simpa using h.1
  refine ⟨hl, ?_, ?_⟩
  · intro e
    subst e
    rcases h.2 with ⟨hv, _⟩ | ⟨g, cap', cur, hv, _⟩
    · simp at hv; exact ⟨hv.1, hv.2⟩
    · simp at hv
  · intro ad had j u hu
    subst had
    rcases h.2 with ⟨hv, _⟩ | ⟨g, cap', cur, hv, _⟩
    · simp at hv
    · simp at hv
      obtain ⟨rfl, _⟩ := hv
      exact h.cells (g := g) rfl j u hu

/-- zzHex -/
theorem hex_any (n : Int) (w : World) (h0 : 0 ≤ n) (h1 : n < 16) :
    Calls Try.prog 10 #[.int .u8 n] w fun e w' => e = .returned (.int .u8 (hexd n)) ∧ w' = w := by
  by_cases h : n < 10
  · have e : hexd n = 48 + n := by simp [hexd, h]
    rw [e]
    clear e
    go_enter Try.func10, Try.ntmps10
    go_wp2
    go_ret
    exact ⟨rfl, rfl⟩
  · have e : hexd n = 97 + n - 10 := by simp [hexd, h]; omega
    rw [e]
    clear e
    go_enter Try.func10, Try.ntmps10
    go_wp2
    go_ret
    exact ⟨rfl, rfl⟩

theorem ret_int {k : IntKind} {a b : Int} (h : a = b) : Ending.returned (.int k a) = .returned (.int k b) := by rw [h]

set_option maxHeartbeats 400000 in
/-- stringLen over a literal that begins the bytes -/
theorem strlen_any (ao : Option Addr) (n cap : Nat) (zs bd suf : List Int) (w : World) (hr : Rd w ao n cap zs) (hz : zs = 34 :: (bd ++ 34 :: suf)) (hs : safe false bd = true) (hl : n ≤ 100000000) :
    Calls Try.prog 11 #[.slice ao n cap] w fun e w' => e = .returned (.int .i64 ((bd.length : Int) + 2)) ∧ w' = w := by
  have hn : n = (34 :: (bd ++ 34 :: suf)).length := by rw [← hz]; exact hr.1.symm
  have hn2 : bd.length + 2 ≤ n := by rw [hn]; simp
  obtain ⟨b, off, rfl, _, hc⟩ := hr.spot (by omega)
  obtain ⟨m, hm⟩ : ∃ m, m = bd.length := ⟨_, rfl⟩
  rw [← hm] at hn2 ⊢
  have HS : Hid (safe false bd = true) := hs
  have HM : Hid (m = bd.length) := hm
  have HC : Hid (∀ i, i < n → w.cell? ⟨b, off + i, none⟩ = some (.int .u8 ((34 :: (bd ++ 34 :: suf)).getD i 0))) := by rw [← hz]; exact hc
  clear hs hm hn hc hr hz
  go_enter Try.func11, Try.ntmps11
  go_wp2
  go_loop [3] (fun t => ∃ k : Nat, 1 ≤ k ∧ k ≤ m + 1 ∧ t = .int .i64 k ∧ Hid (safe false (bd.drop (k - 1)) = true)) (fun t => m + 1 - (intOf t).toNat)
  case atStart => exact ⟨1, by omega, by omega, rfl, HS⟩
  case round =>
    obtain ⟨k, hk1, hk2, rfl, HK⟩ := hrel
    by_cases hlt : k ≤ m
    · obtain ⟨q1, q2, q3⟩ := safe_step bd (k - 1) (by have := HM.out; omega) HK.out
      obtain ⟨c, hcv⟩ : ∃ c, c = bd.getD (k - 1) 0 := ⟨_, rfl⟩
      rw [← hcv] at q1 q2 q3
      have hck : w.cell? ⟨b, off + k, none⟩ = some (.int .u8 c) := by
        rw [HC.out k (by omega)]
        have := at_body bd suf (k - 1) (by have := HM.out; omega)
        rw [show k - 1 + 1 = k from by omega] at this
        rw [this, hcv]
      have hkn : k < n := by omega
      have t1 : (c != 34) = true := by simpa using q1
      by_cases h92 : c = 92
      · have q := q2 h92
        have t2 : (c == 92) = true := by simpa using h92
        have Q : Hid (k + 1 ≤ m ∧ safe false (bd.drop (k + 1)) = true) := ⟨by have := HM.out; omega, by rw [show k + 1 = k - 1 + 2 from by omega]; exact q.2⟩
        clear q q1 q2 q3 hcv h92
        go_wp2
        go_round
        case rel => exact ⟨k + 2, by omega, by have := Q.out.1; omega, by go_num, Q.out.2⟩
        case measure => simp [intOf]; omega
      · have q := q3 h92
        have t2 : (c == 92) = false := by simpa using h92
        have Q : Hid (safe false (bd.drop k) = true) := by rw [show k = k - 1 + 1 from by omega]; exact q
        clear q q1 q2 q3 hcv h92
        go_wp2
        go_round
        case rel => exact ⟨k + 1, by omega, by omega, by go_num, Q⟩
        case measure => simp [intOf]; omega
    · have hke : k = m + 1 := by omega
      have hck : w.cell? ⟨b, off + k, none⟩ = some (.int .u8 34) := by
        rw [HC.out k (by omega), hke, HM.out, at_end]
      have hkn : k < n := by omega
      have HKE : Hid (k = m + 1) := hke
      clear hke
      go_wp2
      go_ret
      exact ⟨ret_int (by have := HKE.out; omega), rfl⟩

theorem hid {p : Prop} (h : p) : Hid p := h

theorem zzstrlen_any (ao : Option Addr) (n cap : Nat) (zs bd suf : List Int) (w : World) (hr : Rd w ao n cap zs) (hz : zs = 34 :: (bd ++ 34 :: suf)) (hs : safe false bd = true) (hl : n ≤ 100000000) :
    Calls Try.prog 8 #[.slice ao n cap] w fun e w' => e = .returned (.int .i64 ((bd.length : Int) + 2)) ∧ w' = w := by
  have HC := hid (strlen_any ao n cap zs bd suf w hr hz hs hl)
  clear hr hz hs
  go_enter Try.func8, Try.ntmps8
  go_wp2_with fail
  refine (HC.out).mono ?_
  rintro e w' ⟨rfl, rfl⟩
  go_wp2
  go_ret
  exact ⟨rfl, rfl⟩

set_option maxHeartbeats 400000 in
/-- zzConcat -/
theorem concat_any (ao : Option Addr) (n ca : Nat) (xs : List Int) (bo : Option Addr) (m cb : Nat) (ys : List Int) (w : World) (ha : Rd w ao n ca xs) (hb : Rd w bo m cb ys) (hn : n ≤ 10000000) (hm : m ≤ 10000000) :
    Calls Try.prog 7 #[.slice ao n ca, .slice bo m cb] w fun e w' => e = .returned (.slice (some ⟨w.heap.size, 0, none⟩) (n + m) (n + m)) ∧
      Rd w' (some ⟨w.heap.size, 0, none⟩) (n + m) (n + m) (xs ++ ys) ∧ Below w.heap.size w w' ∧ w.heap.size < w'.heap.size := by
  obtain ⟨i0, hi, hz0, hz1, hz2⟩ := info_parts info5
  go_enter Try.func7, Try.ntmps7
  go_wp2_with (at_make; refine wpList_make_own _ rfl _ _ 22 rfl w.heap.size 5 i0 (.int .u8 0) 1 Try.underlying22 hi hz0 hz1 _ _ _ (n + m) rfl rfl (by omega) (by rw [hz2]; omega) (by unfold maxLen; omega) (Nat.le_refl _) ?_)
  intro w1 hown hgrow
  have b1 : Below w.heap.size w w1 := (Below.refl _ _).grown hgrow (Nat.le_refl _) (by simp)
  have hA := (ha.later b1)
  have H1 := hid hown
  clear hown
  go_wp2_with (at_builtin; refine wpList_append_fits_any _ rfl (.tmp 12) (.tmp 13) 22 rfl w.heap.size 5 i0 1 Try.underlying22 hi hz1 w.heap.size 0 (n + m) [] rfl H1.out ao n ca (xs.map (Value.int .u8)) rfl (by simp [hA.1]) hA.2.1 hA.2.2 (ints_oneCell _ _) (by omega) ?_)
  intro w2 hown2 hgrow2
  have b2 : Below w.heap.size w w2 := b1.grown hgrow2 b1.size (by simp)
  have hB := (hb.later b2)
  have H2 := hid hown2
  clear hown2
  go_wp2_with (at_builtin; refine wpList_append_fits_any _ rfl (.tmp 15) (.tmp 16) 22 rfl w.heap.size 5 i0 1 Try.underlying22 hi hz1 w.heap.size n (n + m) (xs.map (Value.int .u8)) rfl H2.out bo m cb (ys.map (Value.int .u8)) rfl (by simp [hB.1]) hB.2.1 hB.2.2 (ints_oneCell _ _) (by omega) ?_)
  intro w3 hown3 hgrow3
  have b3 : Below w.heap.size w w3 := b2.grown hgrow3 b2.size (by simp)
  rw [← List.map_append] at hown3
  have hlt := (hown3.lt w.heap.size rfl).2
  have hR : Rd w3 (some ⟨w.heap.size, 0, none⟩) (n + m) (n + m) (xs ++ ys) := Rd.of_own hown3
  clear hown3 H1 H2
  go_wp2
  go_ret
  exact ⟨rfl, hR, b3, hlt⟩
end Go.Proofs.Qxb6001525a.Walk
