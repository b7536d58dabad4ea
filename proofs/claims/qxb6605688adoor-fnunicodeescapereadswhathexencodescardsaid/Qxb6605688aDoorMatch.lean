/-
  Seat b6605688aD: the walk of 'FnUnicodeEscapeMatchesHexModel'.
-/
import Derived.Test.Qxb6605688aDoorClone
namespace Go.Proofs.Qxb6605688aDoor
open Go.RowKit

set_option maxHeartbeats 400000 in
theorem match_walk (a : Option Addr) (len cap : Nat) (l : List UInt8) (ev : Value) (w : World) (h : IsBytes w a len cap l) (hv : w.cell? ⟨1, 0, none⟩ = some ev) (hev : IsErr ev) :
    Calls Tryd.prog 3 #[.slice a len cap] w fun e w' => e = .returned (.bool true) ∧ Below w.heap.size w w' := by
  have hl := h.len_le
  have hG : 1 < w.heap.size := World.block_lt_of_cell? w _ hv
  have HV : Hid (w.cell? ⟨1, 0, none⟩ = some ev) := hv
  clear hv
  go_enter Tryd.func3, Tryd.ntmps3
  go_wp2_with fail
  refine (zzBytes7_any a len cap _ hl).mono ?_
  rintro e w' ⟨⟨b, rfl⟩, rfl⟩
  cases b with
  | false =>
    go_wp2
    go_ret
    exact ⟨rfl, Below.refl _ _⟩
  | true =>
  by_cases hbig : 65536 < len
  · go_wp2
    go_ret
    exact ⟨rfl, Below.refl _ _⟩
  go_wp2_with fail
  refine (cloneB_any a len cap l _ h (by omega)).mono ?_
  rintro e w1 ⟨v1, rfl, hown1, hbel1⟩
  obtain ⟨a1, cap1, rfl, h1⟩ := own_bytes hown1
  clear hown1
  have HV1 : Hid (w1.cell? ⟨1, 0, none⟩ = some ev) := (hbel1.cell (p := ⟨1, 0, none⟩) hG).trans HV.out
  go_wp2_with fail
  refine (zzEscape_any a1 len cap1 l ev _ h1 HV1.out hev).mono ?_
  rintro e w2 ⟨rfl, hbel2⟩
  have h2 := h1.later hbel2
  have hbelA : Below w'.heap.size w' w2 := hbel1.trans (hbel2.mono hbel1.size)
  clear h h1 hbel1 hbel2
  have HM := model_any a1 len cap1 l w2 h2
  generalize esc l = r at HM ⊢
  obtain ⟨u, ok⟩ := r
  go_wp2_with fail
  refine HM.mono ?_
  rintro e w3 ⟨rfl, rfl⟩
  clear HM
  go_wp2
  go_ret
  exact ⟨rfl, hbelA⟩

end Go.Proofs.Qxb6605688aDoor
