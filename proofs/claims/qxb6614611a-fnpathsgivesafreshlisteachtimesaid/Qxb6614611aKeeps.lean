/-
  Seat b6614611a: the walk of 'FnPathsKeepsItsListAtAnyCutOfTheAttributeFiles'.
-/
import Derived.Test.Qxb6614611aPaths
import Derived.Deep.QuietTactic
import Derived.BigQuiet
namespace Go.Proofs.Qxb6614611a
open Go.RowKit

theorem IsStrs.small {w : World} {a : Option Addr} {len cap : Nat} {ss : List ByteArray} (h : IsStrs w a len cap ss) : ∀ s ∈ ss, s.size ≤ maxLen := by
  rcases h with ⟨_, _, _, rfl⟩ | ⟨x, _, _, _, _, _, hs⟩
  · simp
  · exact hs

theorem IsStrs.len_cap {w : World} {a : Option Addr} {len cap : Nat} {ss : List ByteArray} (h : IsStrs w a len cap ss) : len ≤ cap := by
  rcases h with ⟨_, rfl, rfl, rfl⟩ | ⟨x, _, hl, _⟩
  · omega
  · exact hl

theorem IsStrs.cut {w : World} {a : Option Addr} {len cap k : Nat} {ss : List ByteArray} (h : IsStrs w a len cap ss) (hk : k ≤ len) : IsStrs w a k cap (ss.take k) := by
  rcases h with ⟨rfl, rfl, rfl, rfl⟩ | ⟨x, rfl, hl, hm, hz, hc, hs⟩
  · exact .inl ⟨rfl, by omega, rfl, by simp⟩
  · refine .inr ⟨x, rfl, by omega, hm, by simp; omega, fun i hi => ?_, fun s h => hs s (List.mem_of_mem_take h)⟩
    rw [hc i (by omega)]
    simp [List.getD, hi]

theorem IsStrs.drewN {w : World} {a : Option Addr} {len cap : Nat} {ss : List ByteArray} (h : IsStrs w a len cap ss) (n : Nat) : IsStrs (w.drewN n) a len cap ss := h.later (below_drewN (Below.refl _ _) n)

/-- What the three reading loops are told of the world. -/
def Held (w' : World) (a0 : Option Addr) (len0 cap0 : Nat) (s0 : List ByteArray) (a1 : Option Addr) (len1 cap1 : Nat) (s1 : List ByteArray) (av : Option Addr) (capv : Nat) (ac : Option Addr) (capc : Nat) (wr : World) : Prop :=
  IsStrs wr a0 len0 cap0 s0 ∧ IsStrs wr a1 len1 cap1 s1 ∧ IsStrs wr av (len0 + len1) capv (s0 ++ s1) ∧ IsStrs wr ac (len0 + len1) capc (s0 ++ s1) ∧ Below w'.heap.size w' wr

theorem Held.drewN {w' : World} {a0 : Option Addr} {len0 cap0 : Nat} {s0 : List ByteArray} {a1 : Option Addr} {len1 cap1 : Nat} {s1 : List ByteArray} {av : Option Addr} {capv : Nat} {ac : Option Addr} {capc : Nat} {wr : World}
    (h : Held w' a0 len0 cap0 s0 a1 len1 cap1 s1 av capv ac capc wr) (n : Nat) : Held w' a0 len0 cap0 s0 a1 len1 cap1 s1 av capv ac capc (wr.drewN n) :=
  ⟨h.1.drewN n, h.2.1.drewN n, h.2.2.1.drewN n, h.2.2.2.1.drewN n, below_drewN h.2.2.2.2 n⟩

theorem getD_left (s0 s1 : List ByteArray) (j : Nat) (h : j < s0.length) : (s0 ++ s1).getD j ByteArray.empty = s0.getD j ByteArray.empty := by
  simp [List.getD, List.getElem?_append_left h]

theorem getD_right (s0 s1 : List ByteArray) (n j : Nat) (h : s0.length = n) : (s0 ++ s1).getD (n + j) ByteArray.empty = s1.getD j ByteArray.empty := by
  subst h; simp [List.getD, List.getElem?_append_right]

theorem list_step {α : Type} (l : List α) (k j : Nat) (d : α) (h : j < l.length) (hk : k ≤ j) : (l.take (j + 1)).drop k = (l.take j).drop k ++ [l.getD j d] := by
  rw [List.take_succ_eq_append_getElem h, List.drop_append_of_le_length (by simp; omega)]
  simp [List.getD, h]

theorem own_step {w : World} {base : Nat} {v : Value} {n : Nat} {xs ys : List ByteArray} {s : ByteArray} (h : w.ownsRow base 9 1 v n (xs.map Value.string ++ [Value.string s])) (e : ys = xs ++ [s]) : w.ownsRow base 9 1 v n (ys.map Value.string) := by
  subst e; simpa using h

theorem one_cell (s : ByteArray) : ∀ u ∈ [Value.string s], u.oneCell' = true := by
  intro u hu; simp at hu; subst hu; rfl

set_option maxHeartbeats 400000 in
theorem keeps_walk (a0 : Option Addr) (len0 cap0 : Nat) (s0 : List ByteArray) (a1 : Option Addr) (len1 cap1 : Nat) (s1 : List ByteArray) (q : Int) (w : World) (h0 : IsStrs w a0 len0 cap0 s0) (h1 : IsStrs w a1 len1 cap1 s1) :
    Calls Try.prog 5 #[.slice a0 len0 cap0, .slice a1 len1 cap1, .int .i64 q] w fun e w' => e = .returned (.bool true) ∧ Below w.heap.size w w' := by
  have hl0 := h0.len_le
  have hl1 := h1.len_le
  have hc0 := h0.len_cap
  obtain ⟨i0, hi, hz0, hz1, hz2⟩ := info_parts Try.info9
  go_enter Try.func5, Try.ntmps5
  go_wp2_with fail
  refine (zzBytes8_any a0 len0 cap0 s0 a1 len1 cap1 s1 q _ h0 h1).mono ?_
  rintro e w' ⟨⟨b, rfl, hb⟩, rfl⟩
  cases b with
  | false =>
    go_wp2
    go_ret
    exact ⟨rfl, Below.refl _ _⟩
  | true =>
  obtain ⟨hsum, hsm0, hsm1⟩ := hb rfl
  clear hb
  have HS0 : Hid _ := hsm0
  have HS1 : Hid _ := hsm1
  clear hsm0 hsm1
  go_wp2_with fail
  refine (pathsSmall_any a0 len0 cap0 s0 a1 len1 cap1 s1 _ h0 h1).mono ?_
  rintro e w' ⟨⟨b, rfl⟩, rfl⟩
  cases b with
  | false =>
    go_wp2
    go_ret
    exact ⟨rfl, Below.refl _ _⟩
  | true =>
  by_cases hq0 : q < 0
  · go_wp2
    go_ret
    exact ⟨rfl, Below.refl _ _⟩
  by_cases hq1 : (len0 : Int) < q
  · go_wp2
    go_ret
    exact ⟨rfl, Below.refl _ _⟩
  obtain ⟨k, rfl⟩ := Int.eq_ofNat_of_zero_le (show 0 ≤ q by omega)
  have hk : k ≤ len0 := by omega
  clear hq0 hq1
  go_wp2_with fail
  refine (paths_any a0 len0 cap0 s0 a1 len1 cap1 s1 _ h0 h1 hsum).mono ?_
  rintro e w1 ⟨v1, rfl, hown1, hbel1⟩
  rw [← List.map_append] at hown1
  obtain ⟨av, capv, rfl, hv1, hav⟩ := own_strs hown1 (by
    intro s hs
    rcases List.mem_append.1 hs with hs | hs
    · exact h0.small s hs
    · exact h1.small s hs)
  clear hown1 hav
  go_wp2_with (at_make; refine wpList_make_own _ rfl _ _ 28 rfl w1.heap.size 9 i0 _ 1 Try.underlying28 hi hz0 hz1 _ _ _ (len0 - k + len1) rfl rfl (by omega) (by rw [hz2]; omega) (by unfold maxLen; omega) (Nat.le_refl _) ?_; intro w2 hown2 hg2)
  have hbel2 := (Below.refl w1.heap.size w1).grown hg2 (Nat.le_refl _) (by simp)
  clear hg2
  go_loopw [8, 9] (fun v i wr => ∃ j : Nat, k ≤ j ∧ j ≤ len0 ∧ i = .int .i64 j ∧ v = .slice (some ⟨w1.heap.size, 0, none⟩) (j - k) (len0 - k + len1) ∧ wr.ownsRow w1.heap.size 9 1 v (j - k) (((s0.take j).drop k).map Value.string) ∧ Below w1.heap.size w1 wr) (fun _ i _ => len0 - (intOf i).toNat)
  case atStart => exact ⟨k, Nat.le_refl _, hk, rfl, by simp, by simpa using hown2, hbel2⟩
  case round =>
    clear hown2 hbel2 w2
    obtain ⟨j, hkj, hj, rfl, rfl, hown, hbel⟩ := hrel
    by_cases hlt : j < len0
    · obtain ⟨b, off, rfl, hlc, hb, hc⟩ := ((h0.later hbel1).later hbel).at hlt
      have hck := hc j hlt
      obtain ⟨s, hs⟩ : ∃ s, s = s0.getD j ByteArray.empty := ⟨_, rfl⟩
      rw [← hs] at hck
      have HS : Hid ((s0.take (j + 1)).drop k = (s0.take j).drop k ++ [s]) := by rw [hs]; exact list_step _ _ _ _ (by rw [h0.len_eq]; exact hlt) hkj
      clear hs hc
      go_wp2_with (at_builtin; refine wpList_append_fits _ rfl _ _ 28 rfl w1.heap.size 9 i0 1 Try.underlying28 hi hz1 w1.heap.size (j - k) (len0 - k + len1) _ rfl (hown.alloc _) ⟨wr.heap.size, 0, none⟩ 1 1 [.string s] rfl rfl (cell_one_new _ _ _) (one_cell _) (by omega) ?_; intro w3 hown3 hg3)
      have hbel3 := (hbel.alloc hbel.size (Obj.cells #[Value.string s] 9)).grown hg3 (by have := hbel.size; simp; omega) (by simp)
      have hown4 := own_step hown3 HS.out
      clear hown3 hg3 hown hbel hck
      go_roundw
      case rel => exact ⟨j + 1, by omega, by omega, by go_num, by rw [show j + 1 - k = j - k + 1 by omega], by rw [show j + 1 - k = j - k + 1 by omega]; exact hown4, hbel3⟩
      case measure => simp [intOf]; omega
    · have hj0 : len0 = j := by omega
      subst hj0
      rw [List.take_of_length_le (by rw [h0.len_eq]; exact Nat.le_refl _)] at hown
      clear hlt
      go_wp2
      go_loopw [8, 10] (fun v i wr => ∃ j : Nat, j ≤ len1 ∧ i = .int .i64 j ∧ v = .slice (some ⟨w1.heap.size, 0, none⟩) (len0 - k + j) (len0 - k + len1) ∧ wr.ownsRow w1.heap.size 9 1 v (len0 - k + j) ((s0.drop k ++ s1.take j).map Value.string) ∧ Below w1.heap.size w1 wr) (fun _ i _ => len1 - (intOf i).toNat)
      case atStart => exact ⟨0, Nat.zero_le _, rfl, by simp, by simpa using hown, hbel⟩
      case round =>
        clear hown hbel
        obtain ⟨j, hj, rfl, rfl, hown, hbel⟩ := hrel
        by_cases hlt : j < len1
        · obtain ⟨b, off, rfl, hlc, hb, hc⟩ := ((h1.later hbel1).later hbel).at hlt
          have hck := hc j hlt
          obtain ⟨s, hs⟩ : ∃ s, s = s1.getD j ByteArray.empty := ⟨_, rfl⟩
          rw [← hs] at hck
          have HS : Hid (s0.drop k ++ s1.take (j + 1) = (s0.drop k ++ s1.take j) ++ [s]) := by
            have := list_step s1 0 j ByteArray.empty (by rw [h1.len_eq]; exact hlt) (Nat.zero_le _)
            rw [hs]; simp only [List.drop_zero] at this; rw [this, List.append_assoc]; exact rfl
          clear hs hc
          go_wp2_with (at_builtin; refine wpList_append_fits _ rfl _ _ 28 rfl w1.heap.size 9 i0 1 Try.underlying28 hi hz1 w1.heap.size (len0 - k + j) (len0 - k + len1) _ rfl (hown.alloc _) ⟨wr.heap.size, 0, none⟩ 1 1 [.string s] rfl rfl (cell_one_new _ _ _) (one_cell _) (by omega) ?_; intro w3 hown3 hg3)
          have hbel3 := (hbel.alloc hbel.size (Obj.cells #[Value.string s] 9)).grown hg3 (by have := hbel.size; simp; omega) (by simp)
          have hown4 := own_step hown3 HS.out
          clear hown3 hg3 hown hbel hck
          go_roundw
          case rel => exact ⟨j + 1, by omega, by go_num, rfl, hown4, hbel3⟩
          case measure => simp [intOf]; omega
        · have hj0 : len1 = j := by omega
          subst hj0
          rw [List.take_of_length_le (l := s1) (by rw [h1.len_eq]; exact Nat.le_refl _)] at hown
          clear hlt
          obtain ⟨am, cm, hvm, hm, ham⟩ := own_strs hown (by
            intro s hs
            rcases List.mem_append.1 hs with hs | hs
            · exact h0.small s (List.mem_of_mem_drop hs)
            · exact h1.small s hs)
          cases hvm
          clear hown ham
          go_wp2_with fail
          refine (paths_any a0 k cap0 (s0.take k) _ _ _ _ _ (((h0.later hbel1).later hbel).cut hk) hm (by omega)).mono ?_
          rintro e w3 ⟨v3, rfl, hown3, hbel3⟩
          rw [← List.map_append, ← List.append_assoc, List.take_append_drop] at hown3
          obtain ⟨ac, capc, rfl, hv3, hac⟩ := own_strs hown3 (by
            intro s hs
            rcases List.mem_append.1 hs with hs | hs
            · exact h0.small s hs
            · exact h1.small s hs)
          clear hown3 hac
          have hv1' := (hv1.later hbel).later hbel3
          have h0' := ((h0.later hbel1).later hbel).later hbel3
          have h1' := ((h1.later hbel1).later hbel).later hbel3
          have hbelA : Below w'.heap.size w' w3 := (hbel1.trans (hbel.mono hbel1.size)).trans (hbel3.mono (Nat.le_trans hbel1.size hbel.size))
          clear h0 h1 hv1 hbel1 hbel hbel3 hm
          have hkk : k + (len0 - k + len1) = len0 + len1 := by omega
          rw [hkk] at hv3
          rw [hkk]
          clear hkk
          have hH : Held w' a0 len0 cap0 s0 a1 len1 cap1 s1 av capv ac capc w3 := ⟨h0', h1', hv1', hv3, hbelA⟩
          clear h0' h1' hv1' hv3 hbelA
          go_wp2
          go_loopw [13] (fun i wr => ∃ j : Nat, j ≤ len0 ∧ i = .int .i64 j ∧ Held w' a0 len0 cap0 s0 a1 len1 cap1 s1 av capv ac capc wr) (fun i _ => len0 - (intOf i).toNat)
          case atStart => exact ⟨0, Nat.zero_le _, rfl, hH⟩
          case round =>
            clear hH
            obtain ⟨j, hj, rfl, hH⟩ := hrel
            by_cases hlt : j < len0
            · obtain ⟨b, off, rfl, hlc, hb, hc⟩ := hH.1.at hlt
              obtain ⟨b', off', rfl, hlc', hb', hc'⟩ := hH.2.2.1.at (show j < len0 + len1 by omega)
              have hck := hc j hlt
              have hck' := hc' j (by omega)
              rw [getD_left _ _ _ (by rw [hH.1.len_eq]; exact hlt)] at hck'
              obtain ⟨s, hs⟩ : ∃ s, s = s0.getD j ByteArray.empty := ⟨_, rfl⟩
              rw [← hs] at hck hck'
              clear hs hc hc'
              have hidx : (j : Int) < (len0 : Int) := by omega
              have hidx' : (j : Int) < ((len0 + len1 : Nat) : Int) := by omega
              go_wp2
              go_quiet (fail)
              go_wp2
              go_roundw
              case rel => exact ⟨j + 1, by omega, by go_num, hH.drewN _⟩
              case measure => simp [intOf]; omega
            · go_wp2
              clear hlt hj
              go_loopw [14] (fun i wr => ∃ j : Nat, j ≤ len1 ∧ i = .int .i64 j ∧ Held w' a0 len0 cap0 s0 a1 len1 cap1 s1 av capv ac capc wr) (fun i _ => len1 - (intOf i).toNat)
              case atStart => exact ⟨0, Nat.zero_le _, rfl, hH⟩
              case round =>
                clear hH
                obtain ⟨j, hj, rfl, hH⟩ := hrel
                by_cases hlt : j < len1
                · obtain ⟨b, off, rfl, hlc, hb, hc⟩ := hH.2.1.at hlt
                  obtain ⟨b', off', rfl, hlc', hb', hc'⟩ := hH.2.2.1.at (show len0 + j < len0 + len1 by omega)
                  have hck := hc j hlt
                  have hck' := hc' (len0 + j) (by omega)
                  rw [getD_right _ _ _ _ hH.1.len_eq] at hck'
                  obtain ⟨s, hs⟩ : ∃ s, s = s1.getD j ByteArray.empty := ⟨_, rfl⟩
                  rw [← hs] at hck hck'
                  clear hs hc hc'
                  have hidx : (j : Int) < (len1 : Int) := by omega
                  have hidx' : ((len0 + j : Nat) : Int) < ((len0 + len1 : Nat) : Int) := by omega
                  go_wp2
                  go_quiet (fail)
                  go_wp2
                  go_roundw
                  case rel => exact ⟨j + 1, by omega, by go_num, hH.drewN _⟩
                  case measure => simp [intOf]; omega
                · go_wp2
                  clear hlt hj
                  go_loopw [15] (fun i wr => ∃ j : Nat, j ≤ len0 + len1 ∧ i = .int .i64 j ∧ Held w' a0 len0 cap0 s0 a1 len1 cap1 s1 av capv ac capc wr) (fun i _ => len0 + len1 - (intOf i).toNat)
                  case atStart => exact ⟨0, Nat.zero_le _, rfl, hH⟩
                  case round =>
                    clear hH
                    obtain ⟨j, hj, rfl, hH⟩ := hrel
                    by_cases hlt : j < len0 + len1
                    · obtain ⟨b, off, rfl, hlc, hb, hc⟩ := hH.2.2.1.at hlt
                      obtain ⟨b', off', rfl, hlc', hb', hc'⟩ := hH.2.2.2.1.at hlt
                      have hck := hc j hlt
                      have hck' := hc' j hlt
                      obtain ⟨s, hs⟩ : ∃ s, s = (s0 ++ s1).getD j ByteArray.empty := ⟨_, rfl⟩
                      rw [← hs] at hck hck'
                      clear hs hc hc'
                      have hidx' : (j : Int) < ((len0 + len1 : Nat) : Int) := by omega
                      go_wp2
                      go_quiet (fail)
                      go_wp2
                      go_roundw
                      case rel => exact ⟨j + 1, by omega, by go_num, hH.drewN _⟩
                      case measure => simp [intOf]; omega
                    · go_wp2
                      go_ret
                      exact ⟨rfl, hH.2.2.2.2⟩

end Go.Proofs.Qxb6614611a
