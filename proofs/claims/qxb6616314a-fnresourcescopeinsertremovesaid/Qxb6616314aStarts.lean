import Derived.Test.Qxb6616314aBase
namespace Go.Proofs.Qxb6616314a
open Go.RowKit

theorem IsStrs.below {w w' : World} {a : Option Addr} {len cap : Nat} {ss : List ByteArray} (h : IsStrs w a len cap ss) (hb : Below w.heap.size w w') : IsStrs w' a len cap ss := by
  obtain ⟨h1, h2, h3, h0 | ⟨b, off, rfl, hlt, hc⟩⟩ := h
  · exact ⟨h1, h2, h3, .inl h0⟩
  · exact ⟨h1, h2, h3, .inr ⟨b, off, rfl, Nat.lt_of_lt_of_le hlt hb.size, fun i hi => (hb.cell (p := ⟨b, off + i, none⟩) hlt).trans (hc i hi)⟩⟩

theorem assert_string (s : ByteArray) (w : World) : (Instr.typeAssert (.iface 9 (.string s)) 20 9 true).run Try.prog w = .ok (.tuple #[.string s, .bool true]) w := by kernel_rfl
theorem assert_int (n : Int) (w : World) : (Instr.typeAssert (.iface 3 (.int .i64 n)) 20 9 true).run Try.prog w = .ok (.tuple #[.string ⟨#[]⟩, .bool false]) w := by kernel_rfl
theorem assert_nil (w : World) : (Instr.typeAssert .nilIface 20 9 true).run Try.prog w = .ok (.tuple #[.string ⟨#[]⟩, .bool false]) w := by kernel_rfl

set_option maxHeartbeats 400000 in
theorem starts_any {a : Option Addr} {len cap : Nat} {ss : List ByteArray} (s : ByteArray) {w : World} (h : IsStrs w a len cap ss) :
    Calls Try.prog 19 #[.slice a len cap, .string s] w fun e w' => e = .returned (.bool (hasS ss s)) ∧ Below w.heap.size w w' := by
  have H : Hid (IsStrs w a len cap ss) := h
  clear h
  have ha := assert_string s
  go_enter Try.func19, Try.ntmps19
  go_wp2_with (first | (go_at_call 27; refine (contains_any s (H.out.below ?_)).mono ?_) | go_in)
  · exact (Below.refl _ _).alloc (Nat.le_refl _) _
  · rintro e w' ⟨rfl, rfl⟩
    go_wp2
    go_ret
    exact ⟨rfl, (Below.refl _ _).alloc (Nat.le_refl _) _⟩

set_option maxHeartbeats 400000 in
theorem startsNil_any (p : Option Addr) (w : World) :
    Calls Try.prog 20 #[.pointer p] w fun e w' => e = .returned (.bool false) ∧ w' = w := by
  have ha := assert_nil
  go_enter Try.func20, Try.ntmps20
  go_wp2
  go_ret
  exact ⟨rfl, rfl⟩

set_option maxHeartbeats 400000 in
theorem startsInt_any (p : Option Addr) (n : Int) (w : World) :
    Calls Try.prog 21 #[.pointer p, .int .i64 n] w fun e w' => e = .returned (.bool false) ∧ w' = w := by
  have ha := assert_int n
  go_enter Try.func21, Try.ntmps21
  go_wp2
  go_ret
  exact ⟨rfl, rfl⟩

set_option maxHeartbeats 400000 in
theorem addList_some (n : Int) (b off len cap : Nat) (ss : List ByteArray) (w : World) (hl : ss.length = len) (hcap : len ≤ 9223372036854775807)
    (hc : ∀ i, i < len → w.cell? ⟨b, off + i, none⟩ = some (.string (ss.getD i ByteArray.empty))) :
    Calls Try.prog 9 #[.int .i64 n, .slice (some ⟨b, off, none⟩) len cap] w fun e w' => (∃ n : Int, e = .returned (.int .i64 n)) ∧ w' = w := by
  go_enter Try.func9, Try.ntmps9
  go_wp2
  · go_ret
    exact ⟨⟨_, rfl⟩, rfl⟩
  go_loop [0, 5] (fun a i => ∃ (k : Nat) (m : Int), k ≤ len ∧ i = .int .i64 k ∧ a = .int .i64 m) (fun _ i => len - (intOf i).toNat)
  case atStart => exact ⟨0, _, Nat.zero_le _, rfl, rfl⟩
  case round =>
    obtain ⟨k, m, hk, rfl, rfl⟩ := hrel
    have hck : k < len → w.cell? ⟨b, off + k, none⟩ = some (.string (ss.getD k ByteArray.empty)) := fun h => hc k h
    go_wp2
    · go_ret
      exact ⟨⟨_, rfl⟩, rfl⟩
    · go_ret
      exact ⟨⟨_, rfl⟩, rfl⟩
    · exact ⟨⟨k + 1, _, by omega, by go_num, rfl⟩, by simp [intOf]; omega⟩
    · go_ret
      exact ⟨⟨_, rfl⟩, rfl⟩

set_option maxHeartbeats 400000 in
theorem addList_none (n : Int) (a : Option Addr) (cap : Nat) (w : World) :
    Calls Try.prog 9 #[.int .i64 n, .slice a 0 cap] w fun e w' => (∃ n : Int, e = .returned (.int .i64 n)) ∧ w' = w := by
  go_enter Try.func9, Try.ntmps9
  go_wp2
  · go_ret
    exact ⟨⟨_, rfl⟩, rfl⟩
  refine wp_loop_rounds 1 ?_
  rw [rounds_succ]
  go_wp2
  go_ret
  exact ⟨⟨_, rfl⟩, rfl⟩

theorem addList_any (n : Int) {a : Option Addr} {len cap : Nat} {ss : List ByteArray} {w : World} (h : IsStrs w a len cap ss) :
    Calls Try.prog 9 #[.int .i64 n, .slice a len cap] w fun e w' => (∃ n : Int, e = .returned (.int .i64 n)) ∧ w' = w := by
  obtain ⟨h1, h2, h3, h0 | ⟨b, off, rfl, hb, hc⟩⟩ := h
  · subst h0
    exact addList_none n a cap w
  · exact addList_some n b off len cap ss w h1 (by omega) hc

/-! zzBytes: some bool; true only under the bound; nothing turns -/
def RetIf (p : Prop) (e : Ending) : Prop := ∃ x : Bool, e = .returned (.bool x) ∧ (x = true → p)
theorem retIf_false {p : Prop} : RetIf p (.returned (.bool false)) := ⟨false, rfl, fun h => by cases h⟩
theorem retIf_mk {p : Prop} (x : Bool) (h : p) : RetIf p (.returned (.bool x)) := ⟨x, rfl, fun _ => h⟩

set_option maxHeartbeats 400000 in
theorem bytesOr_some (s : ByteArray) (c : Int) (b off len cap : Nat) (ss : List ByteArray) (w : World) (hl : ss.length = len) (hcap : len ≤ 9223372036854775807)
    (hc : ∀ i, i < len → w.cell? ⟨b, off + i, none⟩ = some (.string (ss.getD i ByteArray.empty))) :
    Calls Try.prog 22 #[.slice (some ⟨b, off, none⟩) len cap, .string s, .int .i64 c] w fun e w' => RetIf (len ≤ 1048576) e ∧ w' = w := by
  go_enter Try.func22, Try.ntmps22
  go_wp2
  · go_ret
    exact ⟨retIf_false, rfl⟩
  go_loop [7, 8] (fun a i => ∃ (k : Nat) (m : Int), k ≤ len ∧ i = .int .i64 k ∧ a = .int .i64 m) (fun _ i => len - (intOf i).toNat)
  case atStart => exact ⟨0, _, Nat.zero_le _, rfl, rfl⟩
  case round =>
    obtain ⟨k, m, hk, rfl, rfl⟩ := hrel
    have hck : k < len → w.cell? ⟨b, off + k, none⟩ = some (.string (ss.getD k ByteArray.empty)) := fun h => hc k h
    go_wp2
    case roundEnd => exact ⟨⟨k + 1, _, by omega, by go_num, rfl⟩, by simp [intOf]; omega⟩
    all_goals (go_ret; exact ⟨retIf_mk _ (by omega), rfl⟩)

set_option maxHeartbeats 400000 in
theorem bytesOr_none (s : ByteArray) (c : Int) (a : Option Addr) (cap : Nat) (w : World) :
    Calls Try.prog 22 #[.slice a 0 cap, .string s, .int .i64 c] w fun e w' => RetIf (0 ≤ 1048576) e ∧ w' = w := by
  go_enter Try.func22, Try.ntmps22
  go_wp2
  refine wp_loop_rounds 1 ?_
  rw [rounds_succ]
  go_wp2
  all_goals (go_ret; exact ⟨retIf_mk _ (by omega), rfl⟩)

theorem bytesOr_any (s : ByteArray) (c : Int) {a : Option Addr} {len cap : Nat} {ss : List ByteArray} {w : World} (h : IsStrs w a len cap ss) :
    Calls Try.prog 22 #[.slice a len cap, .string s, .int .i64 c] w fun e w' => RetIf (len ≤ 1048576) e ∧ w' = w := by
  obtain ⟨h1, h2, h3, h0 | ⟨b, off, rfl, hb, hc⟩⟩ := h
  · subst h0
    exact bytesOr_none s c a cap w
  · exact bytesOr_some s c b off len cap ss w h1 (by omega) hc

set_option maxHeartbeats 400000 in
theorem bytesIns_some (s : ByteArray) (c d : Int) (b off len cap : Nat) (ss : List ByteArray) (w : World) (hl : ss.length = len) (hcap : len ≤ 9223372036854775807)
    (hc : ∀ i, i < len → w.cell? ⟨b, off + i, none⟩ = some (.string (ss.getD i ByteArray.empty))) :
    Calls Try.prog 18 #[.slice (some ⟨b, off, none⟩) len cap, .string s, .int .i64 c, .int .i64 d] w fun e w' => RetIf (len ≤ 1048576) e ∧ w' = w := by
  go_enter Try.func18, Try.ntmps18
  go_wp2
  · go_ret
    exact ⟨retIf_false, rfl⟩
  go_loop [9, 10] (fun a i => ∃ (k : Nat) (m : Int), k ≤ len ∧ i = .int .i64 k ∧ a = .int .i64 m) (fun _ i => len - (intOf i).toNat)
  case atStart => exact ⟨0, _, Nat.zero_le _, rfl, rfl⟩
  case round =>
    obtain ⟨k, m, hk, rfl, rfl⟩ := hrel
    have hck : k < len → w.cell? ⟨b, off + k, none⟩ = some (.string (ss.getD k ByteArray.empty)) := fun h => hc k h
    go_wp2
    case roundEnd => exact ⟨⟨k + 1, _, by omega, by go_num, rfl⟩, by simp [intOf]; omega⟩
    all_goals (go_ret; exact ⟨retIf_mk _ (by omega), rfl⟩)

set_option maxHeartbeats 400000 in
theorem bytesIns_none (s : ByteArray) (c d : Int) (a : Option Addr) (cap : Nat) (w : World) :
    Calls Try.prog 18 #[.slice a 0 cap, .string s, .int .i64 c, .int .i64 d] w fun e w' => RetIf (0 ≤ 1048576) e ∧ w' = w := by
  go_enter Try.func18, Try.ntmps18
  go_wp2
  refine wp_loop_rounds 1 ?_
  rw [rounds_succ]
  go_wp2
  all_goals (go_ret; exact ⟨retIf_mk _ (by omega), rfl⟩)

theorem bytesIns_any (s : ByteArray) (c d : Int) {a : Option Addr} {len cap : Nat} {ss : List ByteArray} {w : World} (h : IsStrs w a len cap ss) :
    Calls Try.prog 18 #[.slice a len cap, .string s, .int .i64 c, .int .i64 d] w fun e w' => RetIf (len ≤ 1048576) e ∧ w' = w := by
  obtain ⟨h1, h2, h3, h0 | ⟨b, off, rfl, hb, hc⟩⟩ := h
  · subst h0
    exact bytesIns_none s c d a cap w
  · exact bytesIns_some s c d b off len cap ss w h1 (by omega) hc
end Go.Proofs.Qxb6616314a
