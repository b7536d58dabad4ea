/-
  Seat b6605688aD: what the row's listed variables give a walk (strconv.ErrSyntax holds an interface value), and that the heap that the program's own initialisers leave meets them.
-/
import Derived.Test.Qxb6605688aDoorMatch
import Derived.ProofKit
import Derived.LaidMore
import Derived.OpenShut
import Derived.Stop.Joined
namespace Go.Proofs.Qxb6605688aDoor
open Go.ChangeShapes Go.WideShapes Go.ChangeAt Go.RowKit

theorem own : ownKnob Tryd.prog.godebug = none := by kernel_rfl
theorem laidOut : laidOutB Tryd.prog = true := by kernel_rfl
theorem gSyntax : Tryd.prog.globalNamed "strconv.ErrSyntax" = some 1 := by kernel_rfl
theorem tSyntax : (Tryd.prog.globals[1]?).map (·.type) = some 40 := by kernel_rfl

/-- The rows' own list. -/
abbrev laid5 : List (String × DataW Unit) := Rows.fnUnicodeEscapeMatchesHexModelRow.laid

theorem of_laid {W : World} (h : laidMetH Tryd.prog laid5 W) : ∃ ev, W.cell? ⟨1, 0, none⟩ = some ev ∧ IsErr ev := by
  rw [MakeChecks.laidMetH_plain _ _ _ (by kernel_rfl)] at h
  obtain ⟨ps, ⟨_, _, _, _, _, _, _, _, _, _, ⟨_, _, _, _, _, _, _, _, _, _, ⟨_, _, _, _, _, _, _, _, _, _, ⟨_, _, _, _, _, _, _, _, _, _, ⟨g4, t4, cs4, f4, p4, q4, hg4, ht4, hv4, hd4, _, _⟩, _⟩, _⟩, _⟩, _⟩, _, _⟩ := h
  obtain rfl := Option.some.inj (gSyntax.symm.trans hg4)
  obtain rfl := Option.some.inj (tSyntax.symm.trans ht4)
  obtain ⟨f1, u, v, hcs, _, _⟩ := iface_of_trod Tryd.underlying40 hd4
  have hc := World.var?_cell hg4 hv4 0
  rw [Array.eq_one_of_toList hcs] at hc
  exact ⟨.iface u v, by simpa using hc, .inr ⟨u, v, rfl⟩⟩

/-- The door's own heap meets the condition: closed facts. -/
theorem door_met (os : Os) (args : Array Value) : laidMetH Tryd.prog laid5 ((World.doorLaid Tryd.prog 400 os).forCall (fun _ _ => 0) ⟨#[], args, []⟩).memory :=
  laidMetH_of_parts3 (fuel := 8) (laidMet_of_run' 8 (by kernel_rfl) (by kernel_rfl)) (by kernel_rfl) (by kernel_rfl)

/-- What the shell's walk is told of a slice of bytes, as our walks read it. -/
theorem bytes_of_open {W : World} {a : Option Addr} {len cap : Nat} {H : Type} {enc : TypeId × Value → H} {d : DataW H} {p : List MemPlace} (h : DataW.Trod enc Tryd.prog W 0 (fun _ => true) true 22 (.slice a len cap) d p) : ∃ l, IsBytes W a len cap l := by
  obtain ⟨fuel, hf⟩ := h
  rcases open_ints Tryd.underlying22 Tryd.underlying5 (by kernel_rfl) hf with ⟨hcs, _⟩ | ⟨x, l, c, zs, hcs, _, hl, hm, hz, _, hcell, hwz⟩
  · simp [Value.cells] at hcs
    obtain ⟨rfl, rfl, rfl⟩ := hcs
    exact ⟨[], .inl ⟨rfl, rfl, rfl, rfl⟩⟩
  · simp [Value.cells] at hcs
    obtain ⟨rfl, rfl, rfl⟩ := hcs
    have hzc : zs.length = cap := by simpa using hz
    refine ⟨(zs.take len).map fun n => UInt8.ofNat n.toNat, .inr ⟨_, rfl, hl, hm, by simp; omega, fun j hj => ?_⟩⟩
    have hj' : j < len := by simp at hj; omega
    have hjz : j < zs.length := by omega
    rw [hcell j hjz]
    have hb := bounds_u8 (hwz zs[j] (List.getElem_mem hjz))
    simp [List.getD, hjz]
    omega

end Go.Proofs.Qxb6605688aDoor
