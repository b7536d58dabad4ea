/-
  Seat b6605688aD: the walks of strconv's maker of a NumError (function 32), toError (at the inner package's ErrSyntax) and the public ParseUint at base 16 and 16 bits. (Turned from the guide's shelf, Derived/Shelf/Pu, to this program's own dump; Clone by the shelf's own contract, laid here by hand: its body is this dump's function 36.)
-/
import Derived.Test.Qxb6605688aDoorConv
import Derived.Shelf.Pu.Clone
import Derived.Lib.IfaceEq
import Derived.Deep.RegionWith
namespace Go.Proofs.Qxb6605688aDoor
open Go.RowKit

/-- The shelf's numbers for Clone's closure, as this dump has them. -/
def cloneRen : Shelf.Ren := ⟨fun n => if n = 25 then 36 else n, fun n => if n = 37 then 22 else if n = 47 then 56 else n, fun n => n⟩

set_option maxRecDepth 100000 in
theorem cloneLays : LaysPu.n25 Tryd.prog cloneRen where
  mixed := by kernel_rfl
  f25 := by kernel_rfl
  t0 := by kernel_rfl
  a0 := fun _ => by kernel_rfl
  z0 := fun _ => by kernel_rfl
  v0 := fun _ => by kernel_rfl
  i0 := by kernel_rfl
  t3 := by kernel_rfl
  a3 := fun _ => by kernel_rfl
  z3 := fun _ => by kernel_rfl
  v3 := fun _ => by kernel_rfl
  i3 := by kernel_rfl
  t4 := by kernel_rfl
  a4 := fun _ => by kernel_rfl
  z4 := fun _ => by kernel_rfl
  v4 := fun _ => by kernel_rfl
  i4 := by kernel_rfl
  t5 := by kernel_rfl
  a5 := fun _ => by kernel_rfl
  z5 := fun _ => by kernel_rfl
  v5 := fun _ => by kernel_rfl
  i5 := by kernel_rfl
  t9 := by kernel_rfl
  a9 := fun _ => by kernel_rfl
  z9 := fun _ => by kernel_rfl
  v9 := fun _ => by kernel_rfl
  i9 := by kernel_rfl
  t37 := by kernel_rfl
  a37 := fun _ => by kernel_rfl
  z37 := fun _ => by kernel_rfl
  v37 := fun _ => by kernel_rfl
  i37 := by kernel_rfl
  t47 := by kernel_rfl
  a47 := fun _ => by kernel_rfl
  z47 := fun _ => by kernel_rfl
  v47 := fun _ => by kernel_rfl
  i47 := by kernel_rfl

theorem clone_any (s : ByteArray) (w : World) (hlim : s.size ≤ 1048576) :
    Calls Tryd.prog 36 #[.string s] w fun e w' => e = .returned (.string s) ∧ Below w.heap.size w w' :=
  AnyPu.stringslite_Clone cloneLays s w (by omega)

/-- A value that an interface variable may hold. -/
def IsErr (ev : Value) : Prop := ev = .nilIface ∨ ∃ te pe, ev = .iface te pe

set_option maxHeartbeats 1000000 in
theorem badNumber_any (fn s : ByteArray) (ev : Value) (w : World) (hlim : s.size ≤ 1048576) (hv : w.cell? ⟨1, 0, none⟩ = some ev) (hev : IsErr ev) :
    Calls Tryd.prog 32 #[.string fn, .string s] w fun e w' => ∃ N, e = .returned (.pointer (some ⟨N, 0, none⟩)) ∧ Below w.heap.size w w' := by
  rcases hev with rfl | ⟨te, pe, rfl⟩
  all_goals
    have hG : 1 < w.heap.size := World.block_lt_of_cell? w _ hv
    have hvd : w.drew.cell? ⟨1, 0, none⟩ = some _ := hv
    go_enter Tryd.func32, Tryd.ntmps32
    go_wp2
    go_region_with (go_at_call 36; refine (clone_any s _ hlim).mono ?_; rintro e w2 ⟨rfl, hbel⟩; have hv2 : w2.cell? ⟨1, 0, none⟩ = some _ := (hbel.cell (show (⟨1, 0, none⟩ : Addr).block < w.drew.heap.size from hG)).trans hvd)
    all_goals
      go_wp2
      go_ret
      have hs2 : w.heap.size ≤ w2.heap.size := hbel.size
      exact ⟨_, rfl, ((Below.drew (Below.refl _ w)).trans hbel).alloc hs2 _⟩

theorem Tryd.comp45 : (Tryd.prog.info? 45).map (·.comparable) = some true := by kernel_rfl

set_option maxHeartbeats 1000000 in
theorem toError_any (fn s : ByteArray) (ev : Value) (w : World) (hlim : s.size ≤ 1048576) (hv : w.cell? ⟨1, 0, none⟩ = some ev) (hev : IsErr ev) :
    Calls Tryd.prog 28 #[.string fn, .string s, .int .i64 16, .int .i64 16, .iface 45 (.int .i64 2)] w fun e w' => ∃ N, e = .returned (.iface 48 (.pointer (some ⟨N, 0, none⟩))) ∧ Below w.heap.size w w' := by
  have heq : ∀ W, (binOp .eql 40 (.iface 45 (.int .i64 2)) (.iface 45 (.int .i64 2))).run Tryd.prog W = .ok (.bool true) W := fun W => Lib.run_eql_iface_int W 2 2 Tryd.underlying40 Tryd.comp45 Tryd.underlying45
  have HV : Hid _ := hv
  clear hv
  go_enter Tryd.func28, Tryd.ntmps28
  go_wp2_with fail
  refine (badNumber_any fn s ev _ hlim HV.out hev).mono ?_
  rintro e w2 ⟨N, rfl, hbel⟩
  go_wp2
  go_ret
  exact ⟨N, rfl, hbel⟩

/-- What the public ParseUint hands back: the number and no error; or 0 and some error. -/
def PubSaid (o : Option Nat) (e : Ending) : Prop :=
  match o with
  | some v => e = .returned (.tuple #[.int .u64 (v : Int), .nilIface])
  | none => ∃ N, e = .returned (.tuple #[.int .u64 0, .iface 48 (.pointer (some ⟨N, 0, none⟩))])

set_option maxHeartbeats 1000000 in
theorem parseUint_any (t : ByteArray) (ht : t.size = 4) (ev : Value) (w : World) (hv : w.cell? ⟨1, 0, none⟩ = some ev) (hev : IsErr ev) :
    Calls Tryd.prog 25 #[.string t, .int .i64 16, .int .i64 16] w fun e w' => PubSaid (hexRun 0 t.data.toList) e ∧ Below w.heap.size w w' := by
  have hG : 1 < w.heap.size := World.block_lt_of_cell? w _ hv
  have HV : Hid _ := hv
  clear hv
  have HI := innerParse_any t ht w
  generalize hexRun 0 t.data.toList = o at HI ⊢
  cases o with
  | some v =>
    go_enter Tryd.func25, Tryd.ntmps25
    go_wp2_with fail
    refine HI.mono ?_
    rintro e w2 ⟨rfl, hbel⟩
    clear HI
    simp only [inner]
    go_wp2
    go_ret2
    exact ⟨rfl, hbel⟩
  | none =>
    go_enter Tryd.func25, Tryd.ntmps25
    go_wp2_with fail
    refine HI.mono ?_
    rintro e w2 ⟨rfl, hbel⟩
    clear HI
    simp only [inner]
    have HV2 : Hid (w2.cell? ⟨1, 0, none⟩ = some ev) := (hbel.cell (p := ⟨1, 0, none⟩) hG).trans HV.out
    go_wp2_with fail
    refine (toError_any _ t ev _ (by omega) HV2.out hev).mono ?_
    rintro e w3 ⟨N, rfl, hbel3⟩
    go_wp2
    go_ret2
    exact ⟨⟨N, rfl⟩, hbel.trans (hbel3.mono hbel.size)⟩

end Go.Proofs.Qxb6605688aDoor
