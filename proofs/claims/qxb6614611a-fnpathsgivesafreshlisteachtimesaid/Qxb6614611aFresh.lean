/-
  Seat b6614611a: the walk of 'FnPathsGivesAFreshListEachTime'.
-/
import Derived.Test.Qxb6614611aClone
namespace Go.Proofs.Qxb6614611a
open Go.RowKit

/-- What the law writes into the first list. -/
def slash (s : ByteArray) : ByteArray := s ++ ⟨#[47]⟩

/-- The first list, its first j strings written over. -/
def mid (S : List ByteArray) (j : Nat) : List ByteArray := (S.take j).map slash ++ S.drop j

theorem mid_at (S : List ByteArray) (j : Nat) (h : j < S.length) : ((mid S j).map Value.string)[j]? = some (.string (S.getD j ByteArray.empty)) := by
  simp [mid, List.getElem?_append_right, List.length_take, Nat.min_eq_left (Nat.le_of_lt h), List.getD, h]

theorem mid_step (S : List ByteArray) (j : Nat) (h : j < S.length) : ((mid S j).map Value.string).set j (.string (slash (S.getD j ByteArray.empty))) = (mid S (j + 1)).map Value.string := by
  have e : S.drop j = S[j] :: S.drop (j + 1) := List.drop_eq_getElem_cons h
  have hl : ((S.take j).map slash).length = j := by simp; omega
  unfold mid
  rw [e, List.take_succ_eq_append_getElem h]
  simp only [List.map_append, List.map_cons, List.map_nil, List.append_assoc, List.cons_append, List.nil_append]
  rw [List.set_append_right _ _ (by simp; omega)]
  simp [List.length_take, Nat.min_eq_left (Nat.le_of_lt h), List.getD, h]

theorem mid_zero (S : List ByteArray) : mid S 0 = S := by simp [mid]
theorem mid_full (S : List ByteArray) (n : Nat) (h : S.length = n) : mid S n = S.map slash := by subst h; simp [mid]

theorem own_at {w : World} {base : Nat} {a : Option Addr} {n cap : Nat} {xs : List Value} (h : w.ownsRow base 9 1 (.slice a n cap) n xs) (hn : 0 < n) : ∃ g, a = some ⟨g, 0, none⟩ ∧ base ≤ g ∧ n ≤ cap := by
  rcases h.2 with ⟨_, rfl⟩ | ⟨g, cap', cur, e, hb, _, hnc, _⟩
  · omega
  · cases e
    exact ⟨g, rfl, hb, hnc⟩

/-- What the two reading loops are told of the world. -/
def Held6 (w' : World) (a0 : Option Addr) (len0 cap0 : Nat) (s0 : List ByteArray) (a1 : Option Addr) (len1 cap1 : Nat) (s1 : List ByteArray) (afa : Option Addr) (capfa : Nat) (afr : Option Addr) (capfr : Nat)
    (sec : Option Addr) (caps : Nat) (af : Option Addr) (capf : Nat) (wr : World) : Prop :=
  IsStrs wr a0 len0 cap0 s0 ∧ IsStrs wr a1 len1 cap1 s1 ∧ IsStrs wr afa len0 capfa s0 ∧ IsStrs wr afr len1 capfr s1 ∧ IsStrs wr sec (len0 + len1) caps (s0 ++ s1) ∧ IsStrs wr af (len0 + len1) capf ((s0 ++ s1).map slash) ∧ Below w'.heap.size w' wr

theorem Held6.drewN {w' : World} {a0 : Option Addr} {len0 cap0 : Nat} {s0 : List ByteArray} {a1 : Option Addr} {len1 cap1 : Nat} {s1 : List ByteArray} {afa : Option Addr} {capfa : Nat} {afr : Option Addr} {capfr : Nat}
    {sec : Option Addr} {caps : Nat} {af : Option Addr} {capf : Nat} {wr : World}
    (h : Held6 w' a0 len0 cap0 s0 a1 len1 cap1 s1 afa capfa afr capfr sec caps af capf wr) (n : Nat) : Held6 w' a0 len0 cap0 s0 a1 len1 cap1 s1 afa capfa afr capfr sec caps af capf (wr.drewN n) :=
  ⟨h.1.drewN n, h.2.1.drewN n, h.2.2.1.drewN n, h.2.2.2.1.drewN n, h.2.2.2.2.1.drewN n, h.2.2.2.2.2.1.drewN n, below_drewN h.2.2.2.2.2.2 n⟩

theorem getD_slash (S : List ByteArray) (j : Nat) (h : j < S.length) : (S.map slash).getD j ByteArray.empty = S.getD j ByteArray.empty ++ ⟨#[47]⟩ := by
  simp [List.getD, h, slash]

set_option maxHeartbeats 400000 in
set_option maxRecDepth 4000 in
theorem fresh_walk (a0 : Option Addr) (len0 cap0 : Nat) (s0 : List ByteArray) (a1 : Option Addr) (len1 cap1 : Nat) (s1 : List ByteArray) (w : World) (h0 : IsStrs w a0 len0 cap0 s0) (h1 : IsStrs w a1 len1 cap1 s1) :
    Calls Try.prog 6 #[.slice a0 len0 cap0, .slice a1 len1 cap1] w fun e w' => e = .returned (.bool true) ∧ Below w.heap.size w w' := by
  have hl0 := h0.len_le
  have hl1 := h1.len_le
  obtain ⟨i0, hi, hz0, hz1, hz2⟩ := info_parts Try.info9
  go_enter Try.func6, Try.ntmps6
  go_wp2_with fail
  refine (zzBytes11_any a0 len0 cap0 s0 a1 len1 cap1 s1 _ h0 h1).mono ?_
  rintro e w' ⟨⟨b, rfl, hb⟩, rfl⟩
  cases b with
  | false =>
    go_wp2
    go_ret
    exact ⟨rfl, Below.refl _ _⟩
  | true =>
  obtain ⟨hsum, hsm0, hsm1⟩ := hb rfl
  clear hb
  have HS0 : Hid _ := hsm0
  have HS1 : Hid _ := hsm1
  clear hsm0 hsm1
  go_wp2_with fail
  refine (pathsSmall_any a0 len0 cap0 s0 a1 len1 cap1 s1 _ h0 h1).mono ?_
  rintro e w' ⟨⟨b, rfl⟩, rfl⟩
  cases b with
  | false =>
    go_wp2
    go_ret
    exact ⟨rfl, Below.refl _ _⟩
  | true =>
  go_wp2_with fail
  refine (clone_any a0 len0 cap0 s0 _ h0 (by omega)).mono ?_
  rintro e w1 ⟨v1, rfl, hown1, hbel1⟩
  obtain ⟨afa, capfa, rfl, hfa, -⟩ := own_strs hown1 h0.small
  clear hown1
  go_wp2_with fail
  refine (clone_any a1 len1 cap1 s1 _ (h1.later hbel1) (by omega)).mono ?_
  rintro e w2 ⟨v2, rfl, hown2, hbel2⟩
  obtain ⟨afr, capfr, rfl, hfr, -⟩ := own_strs hown2 h1.small
  clear hown2
  go_wp2_with fail
  have hbelf : Below w2.heap.size w2 (w2.alloc (Obj.cells #[Value.slice afa len0 capfa, Value.slice afr len1 capfr] 32)) := (Below.refl _ _).alloc (Nat.le_refl _) _
  have hbox0 : (w2.alloc (Obj.cells #[Value.slice afa len0 capfa, Value.slice afr len1 capfr] 32)).cell? ⟨w2.heap.size, 0, none⟩ = some (.slice afa len0 capfa) := by go_simp
  have hbox1 : (w2.alloc (Obj.cells #[Value.slice afa len0 capfa, Value.slice afr len1 capfr] 32)).cell? ⟨w2.heap.size, 1, none⟩ = some (.slice afr len1 capfr) := by go_simp
  have hszf : w2.heap.size < (w2.alloc (Obj.cells #[Value.slice afa len0 capfa, Value.slice afr len1 capfr] 32)).heap.size := by simp
  generalize (w2.alloc (Obj.cells #[Value.slice afa len0 capfa, Value.slice afr len1 capfr] 32)) = wf at *
  replace h0 := ((h0.later hbel1).later hbel2).later hbelf
  replace h1 := ((h1.later hbel1).later hbel2).later hbelf
  replace hfa := (hfa.later hbel2).later hbelf
  replace hfr := hfr.later hbelf
  have hbelA : Below w'.heap.size w' wf := (hbel1.trans (hbel2.mono hbel1.size)).trans (hbelf.mono (Nat.le_trans hbel1.size hbel2.size))
  clear hbel1 hbel2 hbelf
  refine (paths_any afa len0 capfa s0 afr len1 capfr s1 _ hfa hfr hsum).mono ?_
  rintro e w3 ⟨v3, rfl, hown3, hbel3⟩
  rw [← List.map_append] at hown3
  obtain ⟨af, capf, rfl, -, -⟩ := own_strs hown3 (by
    intro s hs
    rcases List.mem_append.1 hs with hs | hs
    · exact h0.small s hs
    · exact h1.small s hs)
  have hSl : (s0 ++ s1).length = len0 + len1 := by rw [List.length_append, h0.len_eq, h1.len_eq]
  have HSm : Hid (∀ j, j < len0 + len1 → ((s0 ++ s1).getD j ByteArray.empty).size ≤ 1048576) := by
    intro j hj
    by_cases hj0 : j < len0
    · rw [getD_left _ _ _ (by rw [h0.len_eq]; exact hj0)]; exact HS0.out j hj0
    · obtain ⟨i, rfl⟩ : ∃ i, j = len0 + i := ⟨j - len0, by omega⟩
      rw [getD_right _ _ _ _ h0.len_eq]; exact HS1.out i (by omega)
  obtain ⟨S, hS⟩ : ∃ S, S = s0 ++ s1 := ⟨_, rfl⟩
  rw [← hS] at hSl HSm hown3
  have HSS : Hid (S = s0 ++ s1) := hS
  have HSl : Hid (S.length = len0 + len1) := hSl
  clear hS hSl
  rw [← mid_zero S] at hown3
  go_wp2_with fail
  go_loopw [9] (fun i wr => ∃ j : Nat, j ≤ len0 + len1 ∧ i = .int .i64 j ∧ wr.ownsRow wf.heap.size 9 1 (.slice af (len0 + len1) capf) (len0 + len1) ((mid S j).map Value.string) ∧ Below wf.heap.size wf wr) (fun i _ => len0 + len1 - (intOf i).toNat)
  case atStart => exact ⟨0, Nat.zero_le _, rfl, hown3, hbel3⟩
  case round =>
    clear hown3 hbel3
    obtain ⟨j, hj, rfl, hown, hbel⟩ := hrel
    by_cases hlt : j < len0 + len1
    · obtain ⟨g, rfl, hg, hnc⟩ := own_at hown (by omega)
      have hcell := hown.cellAt j (by omega)
      rw [mid_at S j (by rw [HSl.out]; exact hlt)] at hcell
      have hfz := hown.frozenAt j
      have hst := hown.stored j (.string (slash (S.getD j ByteArray.empty)))
      rw [mid_step S j (by rw [HSl.out]; exact hlt)] at hst
      have hsz := HSm.out j hlt
      have hbel' := hbel.setCell (p := ⟨g, j, none⟩) hg (.string (slash (S.getD j ByteArray.empty)))
      obtain ⟨s, hs⟩ : ∃ s, s = S.getD j ByteArray.empty := ⟨_, rfl⟩
      rw [← hs] at hcell hst hsz hbel'
      clear hs hown hbel
      have hidx : (j : Int) < ((len0 + len1 : Nat) : Int) := by omega
      have HST : Hid _ := hst
      clear hst
      go_wp2
      go_roundw
      case rel => exact ⟨j + 1, by omega, by go_num, HST.out.1, hbel'⟩
      case measure => simp [intOf]; omega
    · have hj0 : len0 + len1 = j := by omega
      subst hj0
      rw [mid_full S _ HSl.out] at hown
      obtain ⟨af', capf', heq, hfirst, -⟩ := own_strs hown (by
        intro s hs
        obtain ⟨t, ht, rfl⟩ := List.mem_map.1 hs
        obtain ⟨i, hi', hti⟩ := List.mem_iff_getElem.1 ht
        have := HSm.out i (by rw [← HSl.out]; exact hi')
        simp only [List.getD, List.getElem?_eq_getElem hi', Option.getD_some, hti] at this
        unfold maxLen slash
        simp [ByteArray.size_append]
        have h47 : (ByteArray.mk #[47]).size = 1 := rfl
        omega)
      cases heq
      clear hown
      have hb0 : wr.cell? ⟨w2.heap.size, 0, none⟩ = some (.slice afa len0 capfa) := (hbel.cell hszf).trans hbox0
      have hb1 : wr.cell? ⟨w2.heap.size, 1, none⟩ = some (.slice afr len1 capfr) := (hbel.cell hszf).trans hbox1
      go_wp2_with fail
      refine (paths_any afa len0 capfa s0 afr len1 capfr s1 _ (hfa.later hbel) (hfr.later hbel) hsum).mono ?_
      rintro e w4 ⟨v4, rfl, hown4, hbel4⟩
      rw [← List.map_append] at hown4
      obtain ⟨sec, caps, rfl, hsec, -⟩ := own_strs hown4 (by
        intro s hs
        rcases List.mem_append.1 hs with hs | hs
        · exact h0.small s hs
        · exact h1.small s hs)
      rw [HSS.out] at hfirst
      have hH : Held6 w' a0 len0 cap0 s0 a1 len1 cap1 s1 afa capfa afr capfr sec caps af capf w4 :=
        ⟨(h0.later hbel).later hbel4, (h1.later hbel).later hbel4, (hfa.later hbel).later hbel4, (hfr.later hbel).later hbel4, hsec, hfirst.later hbel4, (hbelA.trans (hbel.mono hbelA.size)).trans (hbel4.mono (Nat.le_trans hbelA.size hbel.size))⟩
      clear hown4 hbel4 hsec hfirst hb0 hb1 hbel h0 h1 hfa hfr hbelA hbox0 hbox1 hszf hlt hj
      go_wp2
      go_loopw [12] (fun i wr => ∃ j : Nat, j ≤ len0 ∧ i = .int .i64 j ∧ Held6 w' a0 len0 cap0 s0 a1 len1 cap1 s1 afa capfa afr capfr sec caps af capf wr) (fun i _ => len0 - (intOf i).toNat)
      case atStart => exact ⟨0, Nat.zero_le _, rfl, hH⟩
      case round =>
        clear hH
        obtain ⟨j, hj, rfl, hH⟩ := hrel
        by_cases hlt : j < len0
        · obtain ⟨b, off, rfl, hlc, hb, hc⟩ := hH.1.at hlt
          obtain ⟨b1, off1, rfl, hlc1, hb1, hc1⟩ := hH.2.2.1.at hlt
          obtain ⟨b2, off2, rfl, hlc2, hb2, hc2⟩ := hH.2.2.2.2.1.at (show j < len0 + len1 by omega)
          obtain ⟨b3, off3, rfl, hlc3, hb3, hc3⟩ := hH.2.2.2.2.2.1.at (show j < len0 + len1 by omega)
          have hck := hc j hlt
          have hck1 := hc1 j hlt
          have hck2 := hc2 j (by omega)
          have hck3 := hc3 j (by omega)
          have hsz := HS0.out j hlt
          rw [getD_slash _ _ (by rw [← HSS.out, HSl.out]; omega)] at hck3
          rw [getD_left _ _ _ (by rw [hH.1.len_eq]; exact hlt)] at hck2 hck3
          obtain ⟨s, hs⟩ : ∃ s, s = s0.getD j ByteArray.empty := ⟨_, rfl⟩
          rw [← hs] at hck hck1 hck2 hck3 hsz
          clear hs hc hc1 hc2 hc3
          have hidx : (j : Int) < (len0 : Int) := by omega
          have hidx' : (j : Int) < ((len0 + len1 : Nat) : Int) := by omega
          go_wp2
          go_quiet (fail)
          go_wp2
          go_roundw
          case rel => exact ⟨j + 1, by omega, by go_num, hH.drewN _⟩
          case measure => simp [intOf]; omega
        · go_wp2
          clear hlt hj
          go_loopw [13] (fun i wr => ∃ j : Nat, j ≤ len1 ∧ i = .int .i64 j ∧ Held6 w' a0 len0 cap0 s0 a1 len1 cap1 s1 afa capfa afr capfr sec caps af capf wr) (fun i _ => len1 - (intOf i).toNat)
          case atStart => exact ⟨0, Nat.zero_le _, rfl, hH⟩
          case round =>
            clear hH
            obtain ⟨j, hj, rfl, hH⟩ := hrel
            by_cases hlt : j < len1
            · obtain ⟨b, off, rfl, hlc, hb, hc⟩ := hH.2.1.at hlt
              obtain ⟨b1, off1, rfl, hlc1, hb1, hc1⟩ := hH.2.2.2.1.at hlt
              obtain ⟨b2, off2, rfl, hlc2, hb2, hc2⟩ := hH.2.2.2.2.1.at (show len0 + j < len0 + len1 by omega)
              obtain ⟨b3, off3, rfl, hlc3, hb3, hc3⟩ := hH.2.2.2.2.2.1.at (show len0 + j < len0 + len1 by omega)
              have hck := hc j hlt
              have hck1 := hc1 j hlt
              have hck2 := hc2 (len0 + j) (by omega)
              have hck3 := hc3 (len0 + j) (by omega)
              have hsz := HS1.out j hlt
              rw [getD_slash _ _ (by rw [← HSS.out, HSl.out]; omega)] at hck3
              rw [getD_right _ _ _ _ hH.1.len_eq] at hck2 hck3
              obtain ⟨s, hs⟩ : ∃ s, s = s1.getD j ByteArray.empty := ⟨_, rfl⟩
              rw [← hs] at hck hck1 hck2 hck3 hsz
              clear hs hc hc1 hc2 hc3
              have hidx : (j : Int) < (len1 : Int) := by omega
              have hidx' : ((len0 + j : Nat) : Int) < ((len0 + len1 : Nat) : Int) := by omega
              go_wp2
              go_quiet (fail)
              go_wp2
              go_roundw
              case rel => exact ⟨j + 1, by omega, by go_num, hH.drewN _⟩
              case measure => simp [intOf]; omega
            · go_wp2
              go_ret
              exact ⟨rfl, hH.2.2.2.2.2.2⟩

end Go.Proofs.Qxb6614611a
