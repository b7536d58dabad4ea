/-
  Seat b6605688aD: the walks of cloneBytes and of the guards on lengths.
-/
import Derived.Test.Qxb6605688aDoorModel
namespace Go.Proofs.Qxb6605688aDoor
open Go.RowKit

theorem Tryd.info5 : (Tryd.prog.info? 5).map (fun i => (i.zero, i.size, i.bytes)) = some (some (.int .u8 0), 1, 1) := by kernel_rfl

/-- It answers a bool. -/
def ABool (e : Ending) : Prop := ∃ b : Bool, e = .returned (.bool b)

theorem zzBytes7_any (a : Option Addr) (len cap : Nat) (w : World) (hl : len ≤ 9223372036854775807) :
    Calls Tryd.prog 7 #[.slice a len cap] w fun e w' => ABool e ∧ w' = w := by
  go_enter Tryd.func7, Tryd.ntmps7
  go_wp2
  all_goals
    go_ret
    exact ⟨⟨_, rfl⟩, rfl⟩

theorem zzBytes11_any (u : Int) (up : Bool) (a : Option Addr) (len cap : Nat) (w : World) (hl : len ≤ 9223372036854775807) :
    Calls Tryd.prog 11 #[.int .u16 u, .bool up, .slice a len cap] w fun e w' => ABool e ∧ w' = w := by
  go_enter Tryd.func11, Tryd.ntmps11
  go_wp2
  all_goals
    go_ret
    exact ⟨⟨_, rfl⟩, rfl⟩

theorem set_mid {A rest : List Value} {u : Value} {k : Nat} (hA : A.length = k) (hr : 0 < rest.length) : (A ++ rest).set k u = (A ++ [u]) ++ rest.drop 1 := by
  subst hA
  cases rest with
  | nil => simp at hr
  | cons r rs => simp

theorem cell_there {A rest : List Value} {k : Nat} (hA : A.length = k) (hr : 0 < rest.length) : ∃ x, (A ++ rest)[k]? = some x := by
  subst hA
  cases rest with
  | nil => simp at hr
  | cons r rs => exact ⟨r, by simp⟩

theorem take_step (l : List UInt8) (k : Nat) (h : k < l.length) : l.take (k + 1) = l.take k ++ [l[k]] := List.take_succ_eq_append_getElem h

set_option maxHeartbeats 400000 in
theorem cloneB_any (a : Option Addr) (len cap : Nat) (l : List UInt8) (w : World) (h : IsBytes w a len cap l) (hlen : len ≤ 1048576) :
    Calls Tryd.prog 8 #[.slice a len cap] w fun e w' => ∃ v, e = .returned v ∧ w'.ownsRow w.heap.size 5 1 v len (bc l) ∧ Below w.heap.size w w' := by
  obtain ⟨i0, hi, hz0, hz1, hz2⟩ := info_parts Tryd.info5
  have heq := fun wx => Lib.run_eql_slice_nil (P := Tryd.prog) wx 22 5 a len cap 0 0 Tryd.underlying22
  cases a with
  | none =>
    obtain ⟨rfl, rfl⟩ := h.nil_of rfl
    obtain rfl : l = [] := List.eq_nil_of_length_eq_zero h.len_eq
    go_enter Tryd.func8, Tryd.ntmps8
    go_wp2
    go_ret
    exact ⟨_, rfl, World.ownsRow_nil _ _ _ _, Below.refl _ _⟩
  | some x =>
  go_enter Tryd.func8, Tryd.ntmps8
  go_wp2_with (at_make; refine wpList_make_full _ rfl _ _ 22 rfl w.heap.size 5 i0 _ 1 Tryd.underlying22 hi hz0 hz1 _ _ _ _ len rfl rfl (by omega) (by omega) (by rw [hz2]; omega) (by unfold maxLen; omega) (Nat.le_refl _) ?_; intro w2 hown2 hg2)
  have hbel2 := (Below.refl w.heap.size w).grown hg2 (Nat.le_refl _) (by simp)
  clear hg2 heq
  go_loopw [4] (fun i wr => ∃ (k : Nat) (rest : List Value), k ≤ len ∧ i = .int .i64 k ∧ rest.length = len - k ∧ wr.ownsRow w.heap.size 5 1 (.slice (some ⟨w.heap.size, 0, none⟩) len len) len (bc (l.take k) ++ rest) ∧ Below w.heap.size w wr) (fun i _ => len - (intOf i).toNat)
  case atStart => exact ⟨0, (madeCells (Value.int .u8 0).cells (len * 1)).toList, Nat.zero_le _, rfl, by have := hown2.1; omega, by simpa [bc] using hown2, hbel2⟩
  case round =>
    clear hown2 hbel2
    obtain ⟨k, rest, hk, rfl, hrl, hown, hbel⟩ := hrel
    by_cases hlt : k < len
    · have hle := h.len_eq
      obtain ⟨b, off, hx, hlc, hcm, hb, hc⟩ := (h.later hbel).at hlt
      cases hx
      have hck := hc k (by omega)
      have hts := take_step l k (by omega)
      generalize l[k]'(by omega) = s at hck hts
      have hA : (bc (l.take k)).length = k := by rw [bc_length]; simp; omega
      obtain ⟨x, hx⟩ := cell_there hA (rest := rest) (by omega)
      have hcell := hown.cellAt k (by omega)
      rw [hx] at hcell
      have hfz := hown.frozenAt k
      have hst := hown.stored k (.int .u8 (s.toNat : Int))
      rw [set_mid hA (by omega)] at hst
      have HS : Hid (l.take (k + 1) = l.take k ++ [s]) := hts
      have hbel' := hbel.setCell (p := ⟨w.heap.size, k, none⟩) (Nat.le_refl _) (.int .u8 (s.toNat : Int))
      have HR : Hid (rest.length = len - k) := hrl
      have HT : Hid _ := hst
      clear hc hrl hA hx hown hbel hts hle hst
      go_wp2
      go_roundw
      case rel => exact ⟨k + 1, rest.drop 1, by omega, by go_num, by have := HR.out; simp; omega, by rw [HS.out, bc_append]; exact HT.out.1, hbel'⟩
      case measure => simp [intOf]; omega
    · have hk0 : len = k := by omega
      subst hk0
      obtain rfl : rest = [] := List.eq_nil_of_length_eq_zero (by omega)
      rw [List.take_of_length_le (by rw [h.len_eq]; exact Nat.le_refl _), List.append_nil] at hown
      clear hrl
      go_wp2
      go_ret
      exact ⟨_, rfl, hown, hbel⟩

/-- What the call owns, as a slice of bytes. -/
theorem own_bytes {w : World} {base : Nat} {v : Value} {n : Nat} {l : List UInt8} (h : w.ownsRow base 5 1 v n (bc l)) :
    ∃ a cap, v = .slice a n cap ∧ IsBytes w a n cap l := by
  have hl : l.length = n := by simpa [bc] using h.1
  rcases h.2 with ⟨rfl, rfl⟩ | ⟨g, cap, cur, rfl, hb, hg, hnc, hcm, hcs, htake⟩
  · exact ⟨none, 0, rfl, .inl ⟨rfl, rfl, rfl, List.eq_nil_of_length_eq_zero hl⟩⟩
  · refine ⟨some ⟨g, 0, none⟩, cap, rfl, .inr ⟨_, rfl, hnc, hcm, hl, fun i hi => ?_⟩⟩
    refine h.cells (g := g) rfl i _ ?_
    simp [bc, List.getElem?_eq_getElem hi]

end Go.Proofs.Qxb6605688aDoor
