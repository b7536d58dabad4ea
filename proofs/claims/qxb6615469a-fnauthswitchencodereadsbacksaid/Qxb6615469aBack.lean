/-
  Seat b6615469a: the walk of 'FnAuthSwitchEncodeReadsBack'.
-/
import Derived.Test.Qxb6615469aCstr
import Derived.Test.Qxb6615469aEof
import Derived.Deep.RegionWith
import Derived.Lib.Strings
namespace Go.Proofs.Qxb6615469a
open Go.RowKit

theorem newFields_any (v : Value) (w : World) (hv : ∃ a n c, v = .slice a n c) :
    Calls Try.prog 17 #[v] w fun e w' => e = .returned (.pointer (some ⟨w.heap.size, 0, none⟩)) ∧ w' = w.alloc (.cells #[v, .nilIface] 62) := by
  obtain ⟨a, n, c, rfl⟩ := hv
  go_enter Try.func17, Try.ntmps17
  go_wp2
  go_ret
  exact ⟨rfl, rfl⟩

/-- What the loop knows of the reader f (block F): it stands at byte st of R (which lies at block g from 1 on), and between st and i no byte is zero. -/
def Inv (w' : World) (F g c : Nat) (R : List UInt8) (st i : Nat) (wr : World) : Prop :=
  (∀ j, st ≤ j → j < i → ∀ hj : j < R.length, R[j] ≠ 0) ∧
  (∃ ao, (st < R.length → ao = some ⟨g, 1 + st, none⟩) ∧ wr.cell? ⟨F, 0, none⟩ = some (.slice ao (R.length - st) (c - st))) ∧
  wr.cell? ⟨F, 1, none⟩ = some .nilIface ∧ wr.frozen? ⟨F, 0, none⟩ = false ∧
  (∀ j (hj : j < R.length), wr.cell? ⟨g, 1 + j, none⟩ = some (.int .u8 (R[j].toNat : Int))) ∧
  Below w'.heap.size w' wr

theorem Inv.skip {w' : World} {F g c : Nat} {R : List UInt8} {st i : Nat} {wr : World} (h : Inv w' F g c R st i wr) (hi : ∀ hj : i < R.length, R[i] ≠ 0) : Inv w' F g c R st (i + 1) wr := by
  refine ⟨fun j h1 h2 hj => ?_, h.2⟩
  by_cases e : j = i
  · subst e; exact hi hj
  · exact h.1 j h1 (by omega) hj

theorem Inv.eat {w' : World} {F g c : Nat} {R : List UInt8} {st i : Nat} {wr : World} (h : Inv w' F g c R st i wr) (hFg : F ≠ g) (hF : w'.heap.size ≤ F) {ao : Option Addr} {n' c' : Nat}
    (hao : i + 1 < R.length → ao = some ⟨g, 1 + (i + 1), none⟩) (hn : n' = R.length - (i + 1)) (hc : c' = c - (i + 1)) :
    Inv w' F g c R (i + 1) (i + 1) (wr.drew.setCell ⟨F, 0, none⟩ (.slice ao n' c')) := by
  obtain ⟨_, ⟨ao0, _, hp⟩, he, hf, hcell, hbel⟩ := h
  subst hn hc
  refine ⟨fun j h1 h2 => by omega, ⟨ao, hao, ?_⟩, ?_, ?_, ?_, (hbel.drew).setCell hF _⟩
  · exact World.cell?_setCell_same wr.drew _ _ hp
  · exact (World.cell?_setCell_other wr.drew _ _ _ (by simp)).trans he
  · rw [World.frozen?_setCell]; exact hf
  · intro j hj
    exact (World.cell?_setCell_other wr.drew _ _ _ (by intro e; exact hFg (congrArg Addr.block e))).trans (hcell j hj)

theorem piece (J : ByteArray) (st i : Nat) (h1 : st ≤ i) (h2 : i ≤ J.size) : (J.extract st i).data.toList = ((J.data.toList ++ [0]).drop st).take (i - st) := by
  have hl : J.data.toList.length = J.size := by rw [Array.length_toList]; rfl
  rw [Lib.extract_data, List.drop_append_of_le_length (by omega), List.take_append_of_le_length (by simp; omega)]

theorem at_left (J : ByteArray) (i : Nat) (h : i < J.size) (hj : i < (J.data.toList ++ [0]).length) : (J.data.toList ++ [0])[i] = J[i] := by
  rw [List.getElem_append_left (by rw [Array.length_toList]; exact h)]
  rfl

theorem at_end (J : ByteArray) (i : Nat) (h : J.size = i) (hj : i < (J.data.toList ++ [0]).length) : (J.data.toList ++ [0])[i] = 0 := by
  subst h
  rw [List.getElem_append_right (by rw [Array.length_toList]; exact Nat.le_refl _)]
  simp

/-- One call of cstring inside the loop, at byte k where a zero stands (or the end). -/
theorem eat_call {w' : World} {F g c : Nat} {J : ByteArray} {st k : Nat} {wr : World} (hI : Inv w' F g c (J.data.toList ++ [0]) st k wr) (hFg : F ≠ g) (hF : w'.heap.size ≤ F) (hsk : st ≤ k) (hk : k ≤ J.size) (hc : J.size + 1 ≤ c) (hcm : c ≤ 9223372036854775807)
    (h0 : ∀ hj : k < (J.data.toList ++ [0]).length, (J.data.toList ++ [0])[k] = 0) :
    Calls Try.prog 13 #[.pointer (some ⟨F, 0, none⟩)] wr.drew fun e w2 => e = .returned (.string (J.extract st k)) ∧ Inv w' F g c (J.data.toList ++ [0]) (k + 1) (k + 1) w2 := by
  have hl : (J.data.toList ++ [0]).length = J.size + 1 := by
    have : J.data.toList.length = J.size := by rw [Array.length_toList]; rfl
    simp only [List.length_append, List.length_cons, List.length_nil, this]
  have hpc := piece J st k hsk hk
  obtain ⟨R, hR⟩ : ∃ R, R = J.data.toList ++ [0] := ⟨_, rfl⟩
  rw [← hR] at hI hl hpc h0 ⊢
  obtain ⟨hpos, ⟨ao, hao, hp⟩, he, hf, hcell, hbel⟩ := hI
  obtain rfl := hao (by omega)
  refine (zzCstring_any F g (1 + st) (R.length - st) (c - st) (k - st) (R.drop st) (J.extract st k) wr.drew (by simp) (by omega) (by omega) (by omega) hp he hf ?_ ?_ ?_ hpc).mono ?_
  · intro j hj
    have hj' : st + j < R.length := by simp at hj; omega
    have := hcell (st + j) hj'
    rw [show 1 + st + j = 1 + (st + j) by omega]
    rw [List.getElem_drop]
    exact this
  · intro j hj hj'
    rw [List.getElem_drop]
    exact hpos (st + j) (by omega) (by omega) _
  · intro hj
    have hkk : st + (k - st) = k := by omega
    have := h0 (by omega)
    rw [List.getElem_drop]
    simpa [hkk] using this
  · rintro e w2 ⟨rfl, ao', hao', rfl⟩
    refine ⟨rfl, Inv.eat ⟨hpos, ⟨_, fun _ => rfl, hp⟩, he, hf, hcell, hbel⟩ hFg hF (fun h => ?_) (by omega) (by omega)⟩
    rw [hao' (by omega)]
    congr 2
    omega

set_option maxHeartbeats 400000 in
theorem back_walk (p : ByteArray) (a : Option Addr) (len cap : Nat) (l : List UInt8) (w : World) (hp : p.size ≤ maxLen) (h : IsBytes w a len cap l) :
    Calls Try.prog 5 #[.string p, .slice a len cap] w fun e w' => e = .returned (.bool true) ∧ Below w.heap.size w w' := by
  have hl := h.len_le
  go_enter Try.func5, Try.ntmps5
  go_wp2_with fail
  refine (zzBytes21_any p a len cap _ hp hl).mono ?_
  rintro e w' ⟨⟨b, rfl, hb⟩, rfl⟩
  cases b with
  | false =>
    go_wp2
    go_ret
    exact ⟨rfl, Below.refl _ _⟩
  | true =>
  have hn := hb rfl
  have hcv := h.convert
  have hll : (ByteArray.mk l.toArray).size = len := by rw [← h.len_eq]; simp [ByteArray.size]
  obtain ⟨D, hD⟩ : ∃ D, D = ByteArray.mk l.toArray := ⟨_, rfl⟩
  rw [← hD] at hcv hll
  have HD : Hid (D.data.toList = l) := by rw [hD]; exact rfl
  have hDs : D.size = len := hll
  clear hb hp hD hll
  go_wp2_with fail
  have hbel0 : Below w'.heap.size w' (w'.alloc (Obj.cells #[Value.string p, Value.slice a len cap] 36)) := (Below.refl _ _).alloc (Nat.le_refl _) _
  refine (encode_any p a len cap l _ (h.later hbel0) hn).mono ?_
  rintro e w1 ⟨v1, rfl, hown1, hbel1⟩
  have hb1 : Below w'.heap.size w' w1 := hbel0.trans (hbel1.mono hbel0.size)
  obtain ⟨g, c, rfl, hg, hnc, hcm⟩ := own_at hown1 (by omega)
  have hc0 : w1.cell? ⟨g, 0, none⟩ = some (.int .u8 254) := (hown1.cellAt 0 (by omega)).trans rfl
  have hgs : g < w1.heap.size := World.block_lt_of_cell? w1 _ hc0
  have HJ : Hid ((p ++ ⟨#[0]⟩ ++ D).data.toList = p.data.toList ++ [0] ++ l) := by
    rw [← HD.out]; simp [ByteArray.data_append, Hid]
  have HJs : Hid ((p ++ ⟨#[0]⟩ ++ D).size = p.size + len + 1) := by
    have h1 : (ByteArray.mk #[0]).size = 1 := rfl
    have : (p ++ ⟨#[0]⟩ ++ D).size = p.size + len + 1 := by rw [ByteArray.size_append, ByteArray.size_append, hDs, h1]; omega
    exact this
  have hcells : ∀ j (hj : j < (p.data.toList ++ [0] ++ l ++ [0]).length), w1.cell? ⟨g, 1 + j, none⟩ = some (.int .u8 (((p.data.toList ++ [0] ++ l ++ [0])[j]).toNat : Int)) := by
    intro j hj
    have hL := packet_length p l
    rw [h.len_eq] at hL
    have hj2 : 1 + j < (packet p l).length := by simp [packet] at hj ⊢; omega
    rw [hown1.cellAt _ (by omega)]
    have e : packet p l = 254 :: (p.data.toList ++ [0] ++ l ++ [0]) := by simp [packet]
    rw [e, Nat.add_comm 1 j]
    simp only [bc, List.map_cons, List.getElem?_cons_succ, List.getElem?_map, List.getElem?_eq_getElem hj, Option.map_some]
  have hRl : (p.data.toList ++ [0] ++ l ++ [0]).length = p.size + len + 2 := by
    have := packet_length p l
    rw [h.len_eq] at this
    simp [packet] at this ⊢; omega
  have hcz : w1.cell? ⟨g, p.size + len + 2, none⟩ = some (.int .u8 0) := by
    have := hcells (p.size + len + 1) (by omega)
    rw [show 1 + (p.size + len + 1) = p.size + len + 2 by omega] at this
    have hla : (p.data.toList ++ [0] ++ l ++ [0]).length = (p.data.toList ++ [0] ++ l).length + 1 := List.length_append
    rw [this, List.getElem_append_right (by omega)]
    simp
  have HR : Hid _ := hcells
  have HRl : Hid _ := hRl
  clear hcells hRl hown1 hbel0 hbel1 h
  unfold maxLen at hcm
  go_wp2_with fail
  refine (newFields_any _ _ ⟨_, _, _, rfl⟩).mono ?_
  rintro e w2 ⟨rfl, rfl⟩
  generalize (p ++ ⟨#[0]⟩ ++ D) = J at *
  rw [← HJ.out] at HR HRl
  have hJl : J.size = p.size + len + 1 := HJs.out
  have hRl : (J.data.toList ++ [0]).length = J.size + 1 := by rw [HRl.out, hJl]
  have hInv0 : Inv w' w1.heap.size g (c - 1) (J.data.toList ++ [0]) 0 0 (w1.alloc (Obj.cells #[Value.slice (some ⟨g, 1, none⟩) (p.size + len + 2) (c - 1), Value.nilIface] 62)) := by
    refine ⟨fun j h1 h2 => by omega, ⟨some ⟨g, 1, none⟩, fun _ => rfl, ?_⟩, ?_, ?_, ?_, hb1.alloc hb1.size _⟩
    · rw [HRl.out]; go_simp
    · go_simp
    · go_simp
    · intro j hj
      rw [World.cell?_alloc_past]
      · exact HR.out j hj
      · exact hgs
  have hFg : w1.heap.size ≠ g := by omega
  have hF : w'.heap.size ≤ w1.heap.size := hb1.size
  have hJb : J.size ≤ 1048577 := by omega
  have hcJ : J.size + 1 ≤ c - 1 := by omega
  have hcb : c - 1 ≤ 9223372036854775807 := by omega
  generalize hFF : w1.heap.size = F at *
  have HJl : Hid _ := hJl
  have HRL : Hid _ := hRl
  clear hJl hRl HR HRl HJ HJs hcz hc0 hgs hnc hcm hb1 hg hFF
  go_wp2_with fail
  go_loopw [10, 11] (fun s i wr => ∃ st k : Nat, s = .int .i64 st ∧ i = .int .i64 k ∧ st ≤ k ∧ k ≤ J.size + 1 ∧ (k = J.size + 1 → st = J.size + 1) ∧ Inv w' F g (c - 1) (J.data.toList ++ [0]) st k wr) (fun _ i _ => J.size + 1 - (intOf i).toNat)
  case atStart => exact ⟨0, 0, rfl, rfl, Nat.le_refl _, by omega, by omega, hInv0⟩
  case round =>
    clear hInv0
    obtain ⟨st, k, rfl, rfl, hsk, hkJ, hlast, hI⟩ := hrel
    by_cases hk : k < J.size
    · by_cases hz : (J[k]'hk).toNat = 0
      · have hcall := eat_call hI hFg hF hsk (by omega) hcJ hcb (fun hj => by rw [at_left J k hk hj]; exact UInt8.toNat_inj.1 hz)
        clear hI hlast
        have hkb : k ≤ J.size := by omega
        go_wp2
        go_region_with (go_at_call 13; refine hcall.mono ?_; rintro e w2 ⟨rfl, hI2⟩)
        clear hcall
        go_wp2
        go_roundw
        case rel => exact ⟨k + 1, k + 1, by go_num, by go_num, by omega, by omega, by omega, hI2⟩
        case measure => simp [intOf]; omega
      · have hz' : (((J[k]'hk).toNat : Int) == 0) = false := by simp; omega
        have hkq : ((k : Int) == (J.size : Int)) = false := by simp; omega
        have HL : Hid _ := hlast
        have hI' := hI.skip (fun hj e => hz (by rw [at_left J k hk hj] at e; rw [e]; rfl))
        clear hlast hI hz
        go_wp2
        go_roundw
        case rel => exact ⟨st, k + 1, rfl, by go_num, by omega, by omega, by omega, hI'⟩
        case measure => simp [intOf]; omega
    · by_cases hke : k ≤ J.size
      · have hkE : J.size = k := by omega
        have hcall := eat_call hI hFg hF hsk hke hcJ hcb (fun hj => at_end J k hkE hj)
        have HkE : Hid (J.size = k) := hkE
        have hkq : ((k : Int) == (J.size : Int)) = true := by simp; omega
        clear hI hlast hkE
        go_wp2
        go_region_with (go_at_call 13; refine hcall.mono ?_; rintro e w2 ⟨rfl, hI2⟩)
        clear hcall
        go_wp2
        go_roundw
        case rel => exact ⟨k + 1, k + 1, by go_num, by go_num, by omega, by omega, fun _ => by rw [HkE.out], hI2⟩
        case measure => simp [intOf]; omega
      · have hst : st = J.size + 1 := hlast (by omega)
        obtain ⟨_, ⟨ao, _, hp⟩, he, _, _, hbel⟩ := hI
        rw [HRL.out, show J.size + 1 - st = 0 by omega] at hp
        clear hlast hst
        go_wp2
        go_ret
        exact ⟨rfl, hbel⟩

end Go.Proofs.Qxb6615469a
