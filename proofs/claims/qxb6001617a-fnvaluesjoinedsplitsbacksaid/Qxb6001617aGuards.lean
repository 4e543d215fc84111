import Derived.Test.Qxb6001617aReads
namespace Go.Proofs.Qxb6001617a.Walk
open Go.RowKit
open Go.Proofs.Qxb6001617a.Plain

set_option maxHeartbeats 1000000 in
/-- the guard laid by program: it answers, and turns nothing -/
theorem guard11 (nm : ByteArray) (ao : Option Addr) (n c : Nat) (ss : List ByteArray) (li : Bool) (sk : ByteArray) (bo : Option Addr) (m d : Nat) (ts : List ByteArray) (w : World)
    (hnm : nm.size ≤ maxLen) (hsk : sk.size ≤ maxLen)
    (hr : RdS w ao n c ss) (hn : n ≤ maxLen) (hsz : ∀ i, i < n → (ss.getD i ByteArray.empty).size ≤ maxLen)
    (hr2 : RdS w bo m d ts) (hm : m ≤ maxLen) (hsz2 : ∀ i, i < m → (ts.getD i ByteArray.empty).size ≤ maxLen) :
    Calls Try.prog 11 #[.string nm, .slice ao n c, .bool li, .string sk, .slice bo m d] w (Told w True) := by
  have HR := hid hr
  have HR2 := hid hr2
  have HZ := hid hsz
  have HZ2 := hid hsz2
  unfold maxLen at hnm hsk hn hm
  clear hr hr2 hsz hsz2
  go_enter Try.func11, Try.ntmps11
  go_wp2
  · go_ret
    exact ⟨_, rfl, rfl, fun _ => trivial⟩
  · go_ret
    exact ⟨_, rfl, rfl, fun _ => trivial⟩
  · go_ret
    exact ⟨_, rfl, rfl, fun _ => trivial⟩
  · go_loop [11, 12] (fun t i => ∃ k q : Nat, k ≤ n ∧ i = .int .i64 k ∧ q ≤ 1048576 ∧ t = .int .i64 q) (fun _ i => n - (intOf i).toNat)
    case atStart => exact ⟨0, nm.size + n, Nat.zero_le _, rfl, by omega, by go_num⟩
    case round =>
      obtain ⟨k, q, hk, rfl, hq, rfl⟩ := hrel
      by_cases hlt : k < n
      · obtain ⟨b, off, rfl, _, hc⟩ := HR.out.spot (by omega)
        have hck := hc k hlt
        have hz := HZ.out k hlt
        obtain ⟨s, hs⟩ : ∃ s, s = ss.getD k ByteArray.empty := ⟨_, rfl⟩
        rw [← hs] at hck hz
        unfold maxLen at hz
        clear hc hs
        go_wp2
        · go_ret
          exact ⟨_, rfl, rfl, fun _ => trivial⟩
        · go_ret
          exact ⟨_, rfl, rfl, fun _ => trivial⟩
        · go_round
          case rel => exact ⟨k + 1, q + s.size, by omega, by go_num, by omega, by go_num⟩
          case measure => simp [intOf]; omega
      · go_wp2
        · go_ret
          exact ⟨_, rfl, rfl, fun _ => trivial⟩
        · go_ret
          exact ⟨_, rfl, rfl, fun _ => trivial⟩
        · go_ret
          exact ⟨_, rfl, rfl, fun _ => trivial⟩
        · go_ret
          exact ⟨_, rfl, rfl, fun _ => trivial⟩
        · go_loop [11, 13] (fun t i => ∃ k q : Nat, k ≤ m ∧ i = .int .i64 k ∧ q ≤ 1048576 ∧ t = .int .i64 q) (fun _ i => m - (intOf i).toNat)
          case atStart => exact ⟨0, q + sk.size + m, Nat.zero_le _, rfl, by omega, by go_num⟩
          case round =>
            obtain ⟨k2, q2, hk2, rfl, hq2, rfl⟩ := hrel
            by_cases hlt2 : k2 < m
            · obtain ⟨b, off, rfl, _, hc⟩ := HR2.out.spot (by omega)
              have hck := hc k2 hlt2
              have hz := HZ2.out k2 hlt2
              obtain ⟨s, hs⟩ : ∃ s, s = ts.getD k2 ByteArray.empty := ⟨_, rfl⟩
              rw [← hs] at hck hz
              unfold maxLen at hz
              clear hc hs
              go_wp2
              · go_ret
                exact ⟨_, rfl, rfl, fun _ => trivial⟩
              · go_ret
                exact ⟨_, rfl, rfl, fun _ => trivial⟩
              · go_round
                case rel => exact ⟨k2 + 1, q2 + s.size, by omega, by go_num, by omega, by go_num⟩
                case measure => simp [intOf]; omega
            · go_wp2
              go_ret
              exact ⟨_, rfl, rfl, fun _ => trivial⟩

set_option maxHeartbeats 1000000 in
/-- the guard laid by program: it answers, and turns nothing -/
theorem guard5 (nm : ByteArray) (ao : Option Addr) (n c : Nat) (ss : List ByteArray) (li : Bool) (sk : ByteArray) (bo : Option Addr) (m d : Nat) (ts : List ByteArray) (w : World)
    (hnm : nm.size ≤ maxLen) (hsk : sk.size ≤ maxLen)
    (hr : RdS w ao n c ss) (hn : n ≤ maxLen) (hsz : ∀ i, i < n → (ss.getD i ByteArray.empty).size ≤ maxLen)
    (hr2 : RdS w bo m d ts) (hm : m ≤ maxLen) (hsz2 : ∀ i, i < m → (ts.getD i ByteArray.empty).size ≤ maxLen) :
    Calls Try.prog 5 #[.string nm, .slice ao n c, .bool li, .string sk, .slice bo m d] w (Told w True) := by
  have HR := hid hr
  have HR2 := hid hr2
  have HZ := hid hsz
  have HZ2 := hid hsz2
  unfold maxLen at hnm hsk hn hm
  clear hr hr2 hsz hsz2
  go_enter Try.func5, Try.ntmps5
  go_wp2
  · go_ret
    exact ⟨_, rfl, rfl, fun _ => trivial⟩
  · go_ret
    exact ⟨_, rfl, rfl, fun _ => trivial⟩
  · go_ret
    exact ⟨_, rfl, rfl, fun _ => trivial⟩
  · go_loop [11, 12] (fun t i => ∃ k q : Nat, k ≤ n ∧ i = .int .i64 k ∧ q ≤ 1048576 ∧ t = .int .i64 q) (fun _ i => n - (intOf i).toNat)
    case atStart => exact ⟨0, nm.size + n, Nat.zero_le _, rfl, by omega, by go_num⟩
    case round =>
      obtain ⟨k, q, hk, rfl, hq, rfl⟩ := hrel
      by_cases hlt : k < n
      · obtain ⟨b, off, rfl, _, hc⟩ := HR.out.spot (by omega)
        have hck := hc k hlt
        have hz := HZ.out k hlt
        obtain ⟨s, hs⟩ : ∃ s, s = ss.getD k ByteArray.empty := ⟨_, rfl⟩
        rw [← hs] at hck hz
        unfold maxLen at hz
        clear hc hs
        go_wp2
        · go_ret
          exact ⟨_, rfl, rfl, fun _ => trivial⟩
        · go_ret
          exact ⟨_, rfl, rfl, fun _ => trivial⟩
        · go_round
          case rel => exact ⟨k + 1, q + s.size, by omega, by go_num, by omega, by go_num⟩
          case measure => simp [intOf]; omega
      · go_wp2
        · go_ret
          exact ⟨_, rfl, rfl, fun _ => trivial⟩
        · go_ret
          exact ⟨_, rfl, rfl, fun _ => trivial⟩
        · go_ret
          exact ⟨_, rfl, rfl, fun _ => trivial⟩
        · go_ret
          exact ⟨_, rfl, rfl, fun _ => trivial⟩
        · go_loop [11, 13] (fun t i => ∃ k q : Nat, k ≤ m ∧ i = .int .i64 k ∧ q ≤ 1048576 ∧ t = .int .i64 q) (fun _ i => m - (intOf i).toNat)
          case atStart => exact ⟨0, q + sk.size + m, Nat.zero_le _, rfl, by omega, by go_num⟩
          case round =>
            obtain ⟨k2, q2, hk2, rfl, hq2, rfl⟩ := hrel
            by_cases hlt2 : k2 < m
            · obtain ⟨b, off, rfl, _, hc⟩ := HR2.out.spot (by omega)
              have hck := hc k2 hlt2
              have hz := HZ2.out k2 hlt2
              obtain ⟨s, hs⟩ : ∃ s, s = ts.getD k2 ByteArray.empty := ⟨_, rfl⟩
              rw [← hs] at hck hz
              unfold maxLen at hz
              clear hc hs
              go_wp2
              · go_ret
                exact ⟨_, rfl, rfl, fun _ => trivial⟩
              · go_ret
                exact ⟨_, rfl, rfl, fun _ => trivial⟩
              · go_round
                case rel => exact ⟨k2 + 1, q2 + s.size, by omega, by go_num, by omega, by go_num⟩
                case measure => simp [intOf]; omega
            · go_wp2
              go_ret
              exact ⟨_, rfl, rfl, fun _ => trivial⟩
end Go.Proofs.Qxb6001617a.Walk
