import Derived.Test.Qxb6616314aStarts
namespace Go.Proofs.Qxb6616314a
open Go.RowKit

theorem IsStrs.at {w : World} {a : Option Addr} {len cap : Nat} {ss : List ByteArray} (h : IsStrs w a len cap ss) {k : Nat} (hk : k < len) :
    ∃ b off, a = some ⟨b, off, none⟩ ∧ w.cell? ⟨b, off + k, none⟩ = some (.string (ss.getD k ByteArray.empty)) := by
  obtain ⟨h1, h2, h3, h0 | ⟨b, off, ha, hlt, hc⟩⟩ := h
  · omega
  · exact ⟨b, off, ha, hc k hk⟩

set_option maxHeartbeats 1000000 in
theorem bytesMax_any (pub : Bool) (act role : ByteArray) (c d : Int) {a0 a1 : Option Addr} {l0 c0 l1 c1 : Nat} {s0 s1 : List ByteArray} {w : World} (h0 : IsStrs w a0 l0 c0 s0) (h1 : IsStrs w a1 l1 c1 s1) :
    Calls Try.prog 14 #[.bool pub, .string act, .slice a0 l0 c0, .slice a1 l1 c1, .string role, .int .i64 c, .int .i64 d] w fun e w' => RetIf (l0 ≤ 1048576 ∧ l1 ≤ 1048576) e ∧ w' = w := by
  have H0 : Hid (IsStrs w a0 l0 c0 s0) := h0
  have H1 : Hid (IsStrs w a1 l1 c1 s1) := h1
  clear h0 h1
  go_enter Try.func14, Try.ntmps14
  go_wp2
  · go_ret
    exact ⟨retIf_false, rfl⟩
  · go_ret
    exact ⟨retIf_false, rfl⟩
  · go_ret
    exact ⟨retIf_false, rfl⟩
  go_loop [15, 16] (fun a i => ∃ (k : Nat) (m : Int), k ≤ l0 ∧ i = .int .i64 k ∧ a = .int .i64 m) (fun _ i => l0 - (intOf i).toNat)
  case atStart => exact ⟨0, _, Nat.zero_le _, rfl, rfl⟩
  case round =>
    obtain ⟨k, m, hk, rfl, rfl⟩ := hrel
    by_cases hlt : k < l0
    · obtain ⟨b, off, rfl, hck⟩ := H0.out.at hlt
      go_wp2
      case roundEnd => exact ⟨⟨k + 1, _, by omega, by go_num, rfl⟩, by simp [intOf]; omega⟩
      all_goals (go_ret; exact ⟨retIf_false, rfl⟩)
    · go_wp2
      · go_ret
        exact ⟨retIf_false, rfl⟩
      · go_ret
        exact ⟨retIf_false, rfl⟩
      go_loop [15, 17] (fun a i => ∃ (k : Nat) (m : Int), k ≤ l1 ∧ i = .int .i64 k ∧ a = .int .i64 m) (fun _ i => l1 - (intOf i).toNat)
      case atStart => exact ⟨0, _, Nat.zero_le _, rfl, rfl⟩
      case round =>
        obtain ⟨k, m, hk, rfl, rfl⟩ := hrel
        by_cases hlt : k < l1
        · obtain ⟨b, off, rfl, hck⟩ := H1.out.at hlt
          go_wp2
          case roundEnd => exact ⟨⟨k + 1, _, by omega, by go_num, rfl⟩, by simp [intOf]; omega⟩
          all_goals (go_ret; exact ⟨retIf_false, rfl⟩)
        · go_wp2
          all_goals (go_ret; exact ⟨retIf_mk _ ⟨by omega, by omega⟩, rfl⟩)

set_option maxHeartbeats 1000000 in
theorem bytesRem_any (pub : Bool) (act role : ByteArray) (c d : Int) {a0 a1 : Option Addr} {l0 c0 l1 c1 : Nat} {s0 s1 : List ByteArray} {w : World} (h0 : IsStrs w a0 l0 c0 s0) (h1 : IsStrs w a1 l1 c1 s1) :
    Calls Try.prog 8 #[.bool pub, .string act, .slice a0 l0 c0, .slice a1 l1 c1, .string role, .int .i64 c, .int .i64 d] w fun e w' => RetIf (l0 ≤ 1048576 ∧ l1 ≤ 1048576) e ∧ w' = w := by
  have H0 : Hid (IsStrs w a0 l0 c0 s0) := h0
  have H1 : Hid (IsStrs w a1 l1 c1 s1) := h1
  clear h0 h1
  go_enter Try.func8, Try.ntmps8
  go_wp2
  · go_ret
    exact ⟨retIf_false, rfl⟩
  · go_ret
    exact ⟨retIf_false, rfl⟩
  · go_ret
    exact ⟨retIf_false, rfl⟩
  go_loop [15, 16] (fun a i => ∃ (k : Nat) (m : Int), k ≤ l0 ∧ i = .int .i64 k ∧ a = .int .i64 m) (fun _ i => l0 - (intOf i).toNat)
  case atStart => exact ⟨0, _, Nat.zero_le _, rfl, rfl⟩
  case round =>
    obtain ⟨k, m, hk, rfl, rfl⟩ := hrel
    by_cases hlt : k < l0
    · obtain ⟨b, off, rfl, hck⟩ := H0.out.at hlt
      go_wp2
      case roundEnd => exact ⟨⟨k + 1, _, by omega, by go_num, rfl⟩, by simp [intOf]; omega⟩
      all_goals (go_ret; exact ⟨retIf_false, rfl⟩)
    · go_wp2
      · go_ret
        exact ⟨retIf_false, rfl⟩
      · go_ret
        exact ⟨retIf_false, rfl⟩
      go_loop [15, 17] (fun a i => ∃ (k : Nat) (m : Int), k ≤ l1 ∧ i = .int .i64 k ∧ a = .int .i64 m) (fun _ i => l1 - (intOf i).toNat)
      case atStart => exact ⟨0, _, Nat.zero_le _, rfl, rfl⟩
      case round =>
        obtain ⟨k, m, hk, rfl, rfl⟩ := hrel
        by_cases hlt : k < l1
        · obtain ⟨b, off, rfl, hck⟩ := H1.out.at hlt
          go_wp2
          case roundEnd => exact ⟨⟨k + 1, _, by omega, by go_num, rfl⟩, by simp [intOf]; omega⟩
          all_goals (go_ret; exact ⟨retIf_false, rfl⟩)
        · go_wp2
          all_goals (go_ret; exact ⟨retIf_mk _ ⟨by omega, by omega⟩, rfl⟩)

end Go.Proofs.Qxb6616314a
