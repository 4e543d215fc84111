import Derived.Test.Qxb6001617aRows
import Derived.Test.Qxb6001617aPlain
import Derived.WalkKit
import Derived.WalkSpells
namespace Go.Proofs.Qxb6001617a.Walk
open Go.RowKit
open Go.Proofs.Qxb6001617a.Plain

theorem hid {p : Prop} (h : p) : Hid p := h
theorem ret_int {k : IntKind} {a b : Int} (h : a = b) : Ending.returned (.int k a) = .returned (.int k b) := by rw [h]

/-- WHAT A CALLEE IS TOLD OF A SLICE OF STRINGS: its strings, and where they lie. -/
def RdS (w : World) (ao : Option Addr) (n c : Nat) (ss : List ByteArray) : Prop :=
  ss.length = n ∧ n ≤ c ∧ (ao = none → n = 0 ∧ c = 0) ∧ ∀ ad, ao = some ad → ∀ j u, (ss.map Value.string)[j]? = some u → w.cell? (ad.add j) = some u

theorem RdS.spot {w : World} {ao : Option Addr} {n c : Nat} {ss : List ByteArray} (h : RdS w ao n c ss) (hn : 0 < n) :
    ∃ b off, ao = some ⟨b, off, none⟩ ∧ b < w.heap.size ∧ ∀ i, i < n → w.cell? ⟨b, off + i, none⟩ = some (.string (ss.getD i ByteArray.empty)) := by
  obtain ⟨hl, _, h0, hc⟩ := h
  cases ao with
  | none => have := h0 rfl; omega
  | some x =>
    obtain ⟨b, off, spot⟩ := x
    have e : ∀ i, i < n → (ss.map Value.string)[i]? = some (.string (ss.getD i ByteArray.empty)) := by
      intro i hi
      have hi' : i < ss.length := by omega
      simp [List.getD, hi']
    have c0 := hc _ rfl 0 _ (e 0 hn)
    have hspot : spot = none := by simpa [Addr.add] using World.cell?_spot c0
    subst hspot
    refine ⟨b, off, rfl, World.block_lt_of_cell? w _ c0, ?_⟩
    intro i hi
    have := hc _ rfl i _ (e i hi)
    rwa [Addr.add_lit] at this

theorem RdS.later {w w' : World} {ao : Option Addr} {n c : Nat} {ss : List ByteArray} (h : RdS w ao n c ss) (hb : Below w.heap.size w w') : RdS w' ao n c ss := by
  refine ⟨h.1, h.2.1, h.2.2.1, fun ad had j u hu => ?_⟩
  have := h.2.2.2 ad had j u hu
  rw [hb.cell (World.block_lt_of_cell? w _ this)]
  exact this

theorem RdS.of_own {w : World} {base n cap : Nat} {ao : Option Addr} {ss : List ByteArray} (h : w.ownsRow base 9 1 (.slice ao n cap) n (ss.map Value.string)) : RdS w ao n cap ss := by
  have hl : ss.length = n := by simpa using h.1
  refine ⟨hl, ?_, ?_, ?_⟩
  · rcases h.2 with ⟨hv, h0⟩ | ⟨g, cap', cur, hv, _, _, hc, _⟩
    · omega
    · simp at hv
      omega
  · intro e
    subst e
    rcases h.2 with ⟨hv, _⟩ | ⟨g, cap', cur, hv, _⟩
    · simp at hv; exact ⟨hv.1, hv.2⟩
    · simp at hv
  · intro ad had j u hu
    subst had
    rcases h.2 with ⟨hv, _⟩ | ⟨g, cap', cur, hv, _⟩
    · simp at hv
    · simp at hv
      obtain ⟨rfl, _⟩ := hv
      exact h.cells (g := g) rfl j u hu

set_option maxHeartbeats 400000 in
/-- zzCountCommas -/
theorem count_any (s : ByteArray) (w : World) (hs : s.size ≤ 1000000000) :
    Calls Try.prog 12 #[.string s] w fun e w' => e = .returned (.int .i64 (cnt s.data.toList : Nat)) ∧ w' = w := by
  go_enter Try.func12, Try.ntmps12
  go_wp2
  go_loop [3, 4] (fun c i => ∃ k : Nat, k ≤ s.size ∧ i = .int .i64 k ∧ c = .int .i64 (cnt (s.data.toList.take k) : Nat)) (fun _ i => s.size - (intOf i).toNat)
  case atStart => exact ⟨0, Nat.zero_le _, rfl, rfl⟩
  case round =>
    obtain ⟨k, hk, rfl, rfl⟩ := hrel
    have hd := cnt_le (s.data.toList.take k)
    have hl : (s.data.toList.take k).length ≤ k := List.length_take_le _ _
    obtain ⟨c, hc⟩ : ∃ c, c = cnt (s.data.toList.take k) := ⟨_, rfl⟩
    rw [← hc] at hd ⊢
    by_cases hlt : k < s.size
    · have HS := hid (cnt_snoc s k hlt)
      rw [← hc] at HS
      clear hc
      by_cases h44 : s[k].toNat = 44
      · have t1 : ((s[k].toNat : Int) == 44) = true := by simp [h44]
        have H := hid h44
        clear h44
        go_wp2
        go_round
        case rel => exact ⟨k + 1, by omega, by go_num, by rw [HS.out, if_pos H.out]; go_num⟩
        case measure => simp [intOf]; omega
      · have t1 : ((s[k].toNat : Int) == 44) = false := by simp; omega
        have H := hid h44
        clear h44
        go_wp2
        go_round
        case rel => exact ⟨k + 1, by omega, by go_num, by rw [HS.out, if_neg H.out]; go_num⟩
        case measure => simp [intOf]; omega
    · have HT := hid (show c = cnt s.data.toList by rw [hc, List.take_of_length_le (by simp; omega)])
      clear hc
      go_wp2
      go_ret
      exact ⟨ret_int (by rw [HT.out]), rfl⟩

set_option maxHeartbeats 400000 in
/-- zzBytes: where it does not say 'too big' the strings are few and short. -/
theorem bytes13 (ao : Option Addr) (n c : Nat) (ss : List ByteArray) (w : World) (hr : RdS w ao n c ss) (hn : n ≤ maxLen) (hsz : ∀ i, i < n → (ss.getD i ByteArray.empty).size ≤ maxLen) :
    Calls Try.prog 13 #[.slice ao n c] w fun e w' => ∃ r : Int, e = .returned (.int .i64 r) ∧ w' = w ∧ 0 ≤ r ∧ r ≤ 1048577 ∧ (r ≤ 1048576 → total ss ≤ 1048576 ∧ n ≤ 65536) := by
  unfold maxLen at hn
  by_cases hbig : n ≤ 65536
  · have HR := hid hr
    have HL := hid hr.1
    have HZ := hid hsz
    clear hr hsz
    go_enter Try.func13, Try.ntmps13
    go_wp2
    go_loop [3, 4] (fun t i => ∃ k m : Nat, k ≤ n ∧ i = .int .i64 k ∧ m ≤ 1048576 ∧ t = .int .i64 m ∧ Hid (m = 16 * n + total (ss.take k))) (fun _ i => n - (intOf i).toNat)
    case atStart => exact ⟨0, 16 * n, Nat.zero_le _, rfl, by omega, by go_num, rfl⟩
    case round =>
      obtain ⟨k, m, hk, rfl, hm, rfl, HM⟩ := hrel
      by_cases hlt : k < n
      · obtain ⟨b, off, rfl, _, hc⟩ := HR.out.spot (by omega)
        have hck := hc k hlt
        have hts := total_snoc ss k (by have := HL.out; omega)
        have hz := HZ.out k hlt
        obtain ⟨s, hs⟩ : ∃ s, s = ss.getD k ByteArray.empty := ⟨_, rfl⟩
        rw [← hs] at hck hts hz
        have HT := hid hts
        unfold maxLen at hz
        clear hc hts hs
        go_wp2
        · go_ret
          exact ⟨_, rfl, rfl, by decide, by decide, fun h => absurd h (by decide)⟩
        · go_ret
          exact ⟨_, rfl, rfl, by decide, by decide, fun h => absurd h (by decide)⟩
        · go_round
          case rel => exact ⟨k + 1, m + s.size, by omega, by go_num, by omega, by go_num, by have h1 := HM.out; have h2 := HT.out; show m + s.size = _; omega⟩
          case measure => simp [intOf]; omega
      · have HT := hid (show total (ss.take k) = total ss by rw [List.take_of_length_le (by have := HL.out; omega)])
        go_wp2
        go_ret
        exact ⟨_, rfl, rfl, by omega, by omega, fun _ => by have h1 := HM.out; have h2 := HT.out; omega⟩
  · go_enter Try.func13, Try.ntmps13
    go_wp2
    go_ret
    exact ⟨_, rfl, rfl, by decide, by decide, fun h => absurd h (by decide)⟩

/-- a bool, the world as it was, and what a no tells -/
def Told (w : World) (p : Prop) (e : Ending) (w' : World) : Prop := ∃ t : Bool, e = .returned (.bool t) ∧ w' = w ∧ (t = false → p)

set_option maxHeartbeats 400000 in
/-- zzTooBig: where it says no the entries are few and short, and the aliases are few. -/
theorem toobig6 (nm : ByteArray) (ao : Option Addr) (n c : Nat) (ss : List ByteArray) (sk : ByteArray) (bo : Option Addr) (m d : Nat) (ts : List ByteArray) (w : World)
    (hnm : nm.size ≤ maxLen) (hsk : sk.size ≤ maxLen)
    (hr : RdS w ao n c ss) (hn : n ≤ maxLen) (hsz : ∀ i, i < n → (ss.getD i ByteArray.empty).size ≤ maxLen)
    (hr2 : RdS w bo m d ts) (hm : m ≤ maxLen) (hsz2 : ∀ i, i < m → (ts.getD i ByteArray.empty).size ≤ maxLen) :
    Calls Try.prog 6 #[.string nm, .slice ao n c, .string sk, .slice bo m d] w (Told w (total ts ≤ 1048576 ∧ m ≤ 65536)) := by
  have B1 := hid (bytes13 ao n c ss w hr hn hsz)
  have B2 := hid (bytes13 bo m d ts w hr2 hm hsz2)
  unfold maxLen at hnm hsk hn hm
  clear hr hr2 hsz hsz2
  by_cases h1 : nm.size ≤ 1048576
  · by_cases h2 : sk.size ≤ 1048576
    · go_enter Try.func6, Try.ntmps6
      go_wp2_with fail
      refine (B1.out).mono ?_
      rintro e w' ⟨r, rfl, rfl, hr0, hr1, _⟩
      by_cases h3 : r ≤ 1048576
      · go_wp2_with fail
        refine (B2.out).mono ?_
        rintro e w'' ⟨r2, rfl, rfl, hr20, hr21, H2⟩
        have HH := hid H2
        clear H2
        by_cases h4 : r2 ≤ 1048576
        · have Q := hid (HH.out h4)
          go_wp2
          go_ret
          exact ⟨_, rfl, rfl, fun _ => Q.out⟩
        · go_wp2
          go_ret
          exact ⟨_, rfl, rfl, fun h => by cases h⟩
      · go_wp2
        go_ret
        exact ⟨_, rfl, rfl, fun h => by cases h⟩
    · go_enter Try.func6, Try.ntmps6
      go_wp2
      go_ret
      exact ⟨_, rfl, rfl, fun h => by cases h⟩
  · go_enter Try.func6, Try.ntmps6
    go_wp2
    go_ret
    exact ⟨_, rfl, rfl, fun h => by cases h⟩
end Go.Proofs.Qxb6001617a.Walk
