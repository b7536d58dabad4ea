/-
  Seat b6614611a: what the walks are told of a slice of strings that came in, and the walks of the two guards (b1takeWords, b1pathsSmall).
-/
import Derived.Test.Qxb6614611aRows
import Derived.WalkKit
import Derived.WalkSpells
import Derived.WalkLawsBesides
namespace Go.Proofs.Qxb6614611a
open Go.RowKit

/-- A slice of strings in the world w: nil, or 'len' cells at an address, each a string. -/
def IsStrs (w : World) (a : Option Addr) (len cap : Nat) (ss : List ByteArray) : Prop :=
  (a = none ∧ len = 0 ∧ cap = 0 ∧ ss = []) ∨
  ∃ x, a = some x ∧ len ≤ cap ∧ cap ≤ maxLen ∧ ss.length = len ∧ (∀ i, i < len → w.cell? (x.add i) = some (.string (ss.getD i ByteArray.empty))) ∧ ∀ s ∈ ss, s.size ≤ maxLen

theorem IsStrs.len_eq {w : World} {a : Option Addr} {len cap : Nat} {ss : List ByteArray} (h : IsStrs w a len cap ss) : ss.length = len := by
  rcases h with ⟨_, rfl, _, rfl⟩ | ⟨x, _, _, _, hz, _⟩
  · rfl
  · exact hz

theorem IsStrs.len_le {w : World} {a : Option Addr} {len cap : Nat} {ss : List ByteArray} (h : IsStrs w a len cap ss) : len ≤ 9223372036854775807 := by
  rcases h with ⟨_, rfl, _, rfl⟩ | ⟨x, _, hl, hm, _⟩
  · omega
  · unfold maxLen at hm; omega

theorem IsStrs.size_le {w : World} {a : Option Addr} {len cap : Nat} {ss : List ByteArray} (h : IsStrs w a len cap ss) (j : Nat) : (ss.getD j ByteArray.empty).size ≤ 9223372036854775807 := by
  rcases h with ⟨_, rfl, _, rfl⟩ | ⟨x, _, _, _, hz, _, hs⟩
  · simp
  · by_cases hj : j < ss.length
    · have := hs (ss.getD j ByteArray.empty) (by simp [List.getD, hj])
      unfold maxLen at this; omega
    · simp [List.getD, hj]

/-- Where there is an element the address is a plain one. -/
theorem IsStrs.at {w : World} {a : Option Addr} {len cap : Nat} {ss : List ByteArray} (h : IsStrs w a len cap ss) {k : Nat} (hk : k < len) :
    ∃ b off, a = some ⟨b, off, none⟩ ∧ len ≤ cap ∧ b < w.heap.size ∧ ∀ j, j < len → w.cell? ⟨b, off + j, none⟩ = some (.string (ss.getD j ByteArray.empty)) := by
  rcases h with ⟨_, rfl, _, rfl⟩ | ⟨x, rfl, hl, hm, hz, hc, hs⟩
  · omega
  · obtain ⟨b, off, spot⟩ := x
    have h0 := hc 0 (by omega)
    have hspot : spot = none := by simpa [Addr.add] using World.cell?_spot h0
    subst hspot
    refine ⟨b, off, rfl, hl, ?_, fun j hj => by rw [← Go.WideShapes.add_plain]; exact hc j hj⟩
    have := World.block_lt_of_cell? w _ h0
    simpa [Addr.add] using this

set_option maxHeartbeats 400000 in
theorem takeWords_any (l : Int) (a : Option Addr) (len cap : Nat) (ss : List ByteArray) (w : World) (h : IsStrs w a len cap ss) (h1 : -1 ≤ l) (h2 : l ≤ 1048576) :
    Calls Try.prog 14 #[.int .i64 l, .slice a len cap] w fun e w' => (∃ r : Int, e = .returned (.int .i64 r) ∧ -1 ≤ r ∧ r ≤ 1048576) ∧ w' = w := by
  have hlen := h.len_le
  by_cases hneg : l < 0
  · go_enter Try.func14, Try.ntmps14
    go_wp2
    go_ret
    exact ⟨⟨_, rfl, by omega, by omega⟩, rfl⟩
  by_cases hbig : l / 16 < len
  · go_enter Try.func14, Try.ntmps14
    go_wp2
    go_ret
    exact ⟨⟨_, rfl, by omega, by omega⟩, rfl⟩
  go_enter Try.func14, Try.ntmps14
  go_wp2
  go_loop [0, 5] (fun t i => ∃ (k : Nat) (r : Int), k ≤ len ∧ i = .int .i64 k ∧ t = .int .i64 r ∧ 0 ≤ r ∧ r ≤ 1048576) (fun _ i => len - (intOf i).toNat)
  case atStart => exact ⟨0, _, Nat.zero_le _, rfl, rfl, by omega, by omega⟩
  case round =>
    obtain ⟨k, r, hk, rfl, rfl, hr0, hr1⟩ := hrel
    by_cases hlt : k < len
    · obtain ⟨b, off, rfl, hlc, hb, hc⟩ := h.at hlt
      have hck := hc k hlt
      have hsz := h.size_le k
      obtain ⟨s, hs⟩ : ∃ s, s = ss.getD k ByteArray.empty := ⟨_, rfl⟩
      rw [← hs] at hck hsz
      clear hs h hc
      go_wp2
      · go_ret
        exact ⟨⟨_, rfl, by omega, by omega⟩, rfl⟩
      · go_round
        case rel => exact ⟨k + 1, _, by omega, by go_num, rfl, by omega, by omega⟩
        case measure => simp [intOf]; omega
    · go_wp2
      go_ret
      exact ⟨⟨_, rfl, by omega, by omega⟩, rfl⟩


/-- What the guard on lengths says of its answer. -/
def ZZSaid (len0 : Nat) (s0 : List ByteArray) (len1 : Nat) (s1 : List ByteArray) (e : Ending) : Prop :=
  ∃ b : Bool, e = .returned (.bool b) ∧ (b = true → len0 + len1 ≤ 1048576 ∧ (∀ j, j < len0 → (s0.getD j ByteArray.empty).size ≤ 1048576) ∧ (∀ j, j < len1 → (s1.getD j ByteArray.empty).size ≤ 1048576))

/-- It answers a bool. -/
def ABool (e : Ending) : Prop := ∃ b : Bool, e = .returned (.bool b)

theorem pathsSmall_any (a0 : Option Addr) (len0 cap0 : Nat) (s0 : List ByteArray) (a1 : Option Addr) (len1 cap1 : Nat) (s1 : List ByteArray) (w : World) (h0 : IsStrs w a0 len0 cap0 s0) (h1 : IsStrs w a1 len1 cap1 s1) :
    Calls Try.prog 9 #[.slice a0 len0 cap0, .slice a1 len1 cap1] w fun e w' => ABool e ∧ w' = w := by
  go_enter Try.func9, Try.ntmps9
  go_wp2_with fail
  refine (takeWords_any _ a0 len0 cap0 s0 _ h0 (by omega) (by omega)).mono ?_
  rintro e w' ⟨⟨r, rfl, hr0, hr1⟩, rfl⟩
  go_wp2_with fail
  refine (takeWords_any _ a1 len1 cap1 s1 _ h1 hr0 hr1).mono ?_
  rintro e w' ⟨⟨r', rfl, hr0', hr1'⟩, rfl⟩
  go_wp2
  go_ret
  exact ⟨⟨_, rfl⟩, rfl⟩

/-- The guard on the whole length: it answers a bool; where it says yes both lists are short, and so is each string. -/
theorem zzBytes8_any (a0 : Option Addr) (len0 cap0 : Nat) (s0 : List ByteArray) (a1 : Option Addr) (len1 cap1 : Nat) (s1 : List ByteArray) (q : Int) (w : World) (h0 : IsStrs w a0 len0 cap0 s0) (h1 : IsStrs w a1 len1 cap1 s1) :
    Calls Try.prog 8 #[.slice a0 len0 cap0, .slice a1 len1 cap1, .int .i64 q] w fun e w' => ZZSaid len0 s0 len1 s1 e ∧ w' = w := by
  have hl0 := h0.len_le
  have hl1 := h1.len_le
  by_cases hbig0 : 1048576 < len0
  · go_enter Try.func8, Try.ntmps8
    go_wp2
    go_ret
    exact ⟨⟨false, rfl, by simp⟩, rfl⟩
  go_enter Try.func8, Try.ntmps8
  go_wp2
  go_loop [7, 8] (fun t i => ∃ (k : Nat) (r : Int), k ≤ len0 ∧ i = .int .i64 k ∧ t = .int .i64 r ∧ (len0 : Int) ≤ r ∧ r ≤ 1048576 ∧ Hid (∀ j, j < k → (s0.getD j ByteArray.empty).size ≤ 1048576)) (fun _ i => len0 - (intOf i).toNat)
  case atStart => exact ⟨0, _, Nat.zero_le _, rfl, rfl, by omega, by omega, fun j hj => by omega⟩
  case round =>
    obtain ⟨k, r, hk, rfl, rfl, hr0, hr1, hall⟩ := hrel
    by_cases hlt : k < len0
    · obtain ⟨b, off, rfl, hlc, hb, hc⟩ := h0.at hlt
      have hck := hc k hlt
      have hsz := h0.size_le k
      obtain ⟨s, hs⟩ : ∃ s, s = s0.getD k ByteArray.empty := ⟨_, rfl⟩
      rw [← hs] at hck hsz
      have HS : Hid (s = s0.getD k ByteArray.empty) := hs
      clear hs h0 h1 hc
      go_wp2
      · go_ret
        exact ⟨⟨false, rfl, by simp⟩, rfl⟩
      · go_ret
        exact ⟨⟨false, rfl, by simp⟩, rfl⟩
      · go_round
        case rel => exact ⟨k + 1, _, by omega, by go_num, rfl, by omega, by omega, fun j hj => by
          by_cases e : j = k
          · rw [e, ← HS.out]; omega
          · exact hall.out j (by omega)⟩
        case measure => simp [intOf]; omega
    · have hk0 : k = len0 := by omega
      subst hk0
      by_cases hbig1 : 1048576 < len1
      · go_wp2
        go_ret
        exact ⟨⟨false, rfl, by simp⟩, rfl⟩
      by_cases hsum : 1048576 < r + len1
      · go_wp2
        go_ret
        exact ⟨⟨false, rfl, by simp⟩, rfl⟩
      go_wp2
      go_loop [7, 9] (fun t i => ∃ (k' : Nat) (r : Int), k' ≤ len1 ∧ i = .int .i64 k' ∧ t = .int .i64 r ∧ (k + len1 : Int) ≤ r ∧ r ≤ 1048576 ∧ Hid (∀ j, j < k' → (s1.getD j ByteArray.empty).size ≤ 1048576)) (fun _ i => len1 - (intOf i).toNat)
      case atStart => exact ⟨0, _, Nat.zero_le _, rfl, rfl, by omega, by omega, fun j hj => by omega⟩
      case round =>
        clear hr0 hr1 hsum
        obtain ⟨k', r', hk', rfl, rfl, hr0, hr1, hall'⟩ := hrel
        by_cases hlt' : k' < len1
        · obtain ⟨b, off, rfl, hlc, hb, hc⟩ := h1.at hlt'
          have hck := hc k' hlt'
          have hsz := h1.size_le k'
          obtain ⟨s, hs⟩ : ∃ s, s = s1.getD k' ByteArray.empty := ⟨_, rfl⟩
          rw [← hs] at hck hsz
          have HS : Hid (s = s1.getD k' ByteArray.empty) := hs
          clear hs h0 h1 hc
          go_wp2
          · go_ret
            exact ⟨⟨false, rfl, by simp⟩, rfl⟩
          · go_ret
            exact ⟨⟨false, rfl, by simp⟩, rfl⟩
          · go_round
            case rel => exact ⟨k' + 1, _, by omega, by go_num, rfl, by omega, by omega, fun j hj => by
              by_cases e : j = k'
              · rw [e, ← HS.out]; omega
              · exact hall'.out j (by omega)⟩
            case measure => simp [intOf]; omega
        · have hk1 : k' = len1 := by omega
          subst hk1
          go_wp2
          go_ret
          exact ⟨⟨true, rfl, fun _ => ⟨by omega, hall.out, hall'.out⟩⟩, rfl⟩

/-- The guard on the whole length: it answers a bool; where it says yes both lists are short, and so is each string. -/
theorem zzBytes11_any (a0 : Option Addr) (len0 cap0 : Nat) (s0 : List ByteArray) (a1 : Option Addr) (len1 cap1 : Nat) (s1 : List ByteArray) (w : World) (h0 : IsStrs w a0 len0 cap0 s0) (h1 : IsStrs w a1 len1 cap1 s1) :
    Calls Try.prog 11 #[.slice a0 len0 cap0, .slice a1 len1 cap1] w fun e w' => ZZSaid len0 s0 len1 s1 e ∧ w' = w := by
  have hl0 := h0.len_le
  have hl1 := h1.len_le
  by_cases hbig0 : 1048576 < len0
  · go_enter Try.func11, Try.ntmps11
    go_wp2
    go_ret
    exact ⟨⟨false, rfl, by simp⟩, rfl⟩
  go_enter Try.func11, Try.ntmps11
  go_wp2
  go_loop [5, 6] (fun t i => ∃ (k : Nat) (r : Int), k ≤ len0 ∧ i = .int .i64 k ∧ t = .int .i64 r ∧ (len0 : Int) ≤ r ∧ r ≤ 1048576 ∧ Hid (∀ j, j < k → (s0.getD j ByteArray.empty).size ≤ 1048576)) (fun _ i => len0 - (intOf i).toNat)
  case atStart => exact ⟨0, _, Nat.zero_le _, rfl, rfl, by omega, by omega, fun j hj => by omega⟩
  case round =>
    obtain ⟨k, r, hk, rfl, rfl, hr0, hr1, hall⟩ := hrel
    by_cases hlt : k < len0
    · obtain ⟨b, off, rfl, hlc, hb, hc⟩ := h0.at hlt
      have hck := hc k hlt
      have hsz := h0.size_le k
      obtain ⟨s, hs⟩ : ∃ s, s = s0.getD k ByteArray.empty := ⟨_, rfl⟩
      rw [← hs] at hck hsz
      have HS : Hid (s = s0.getD k ByteArray.empty) := hs
      clear hs h0 h1 hc
      go_wp2
      · go_ret
        exact ⟨⟨false, rfl, by simp⟩, rfl⟩
      · go_ret
        exact ⟨⟨false, rfl, by simp⟩, rfl⟩
      · go_round
        case rel => exact ⟨k + 1, _, by omega, by go_num, rfl, by omega, by omega, fun j hj => by
          by_cases e : j = k
          · rw [e, ← HS.out]; omega
          · exact hall.out j (by omega)⟩
        case measure => simp [intOf]; omega
    · have hk0 : k = len0 := by omega
      subst hk0
      by_cases hbig1 : 1048576 < len1
      · go_wp2
        go_ret
        exact ⟨⟨false, rfl, by simp⟩, rfl⟩
      by_cases hsum : 1048576 < r + len1
      · go_wp2
        go_ret
        exact ⟨⟨false, rfl, by simp⟩, rfl⟩
      go_wp2
      go_loop [5, 7] (fun t i => ∃ (k' : Nat) (r : Int), k' ≤ len1 ∧ i = .int .i64 k' ∧ t = .int .i64 r ∧ (k + len1 : Int) ≤ r ∧ r ≤ 1048576 ∧ Hid (∀ j, j < k' → (s1.getD j ByteArray.empty).size ≤ 1048576)) (fun _ i => len1 - (intOf i).toNat)
      case atStart => exact ⟨0, _, Nat.zero_le _, rfl, rfl, by omega, by omega, fun j hj => by omega⟩
      case round =>
        clear hr0 hr1 hsum
        obtain ⟨k', r', hk', rfl, rfl, hr0, hr1, hall'⟩ := hrel
        by_cases hlt' : k' < len1
        · obtain ⟨b, off, rfl, hlc, hb, hc⟩ := h1.at hlt'
          have hck := hc k' hlt'
          have hsz := h1.size_le k'
          obtain ⟨s, hs⟩ : ∃ s, s = s1.getD k' ByteArray.empty := ⟨_, rfl⟩
          rw [← hs] at hck hsz
          have HS : Hid (s = s1.getD k' ByteArray.empty) := hs
          clear hs h0 h1 hc
          go_wp2
          · go_ret
            exact ⟨⟨false, rfl, by simp⟩, rfl⟩
          · go_ret
            exact ⟨⟨false, rfl, by simp⟩, rfl⟩
          · go_round
            case rel => exact ⟨k' + 1, _, by omega, by go_num, rfl, by omega, by omega, fun j hj => by
              by_cases e : j = k'
              · rw [e, ← HS.out]; omega
              · exact hall'.out j (by omega)⟩
            case measure => simp [intOf]; omega
        · have hk1 : k' = len1 := by omega
          subst hk1
          go_wp2
          go_ret
          exact ⟨⟨true, rfl, fun _ => ⟨by omega, hall.out, hall'.out⟩⟩, rfl⟩

end Go.Proofs.Qxb6614611a
