/-
  Seat b6615469a: a slice of bytes in a world; the walks of the guards, of appendCString and of AuthSwitch.Encode.
-/
import Derived.Test.Qxb6615469aRows
import Derived.WalkKit
import Derived.WalkSpells
import Derived.WalkLawsBesides
import Derived.Lib.AppendStr
import Derived.Laws.IdiomStrings
namespace Go.Proofs.Qxb6615469a
open Go.RowKit

/-- Bytes as cells. -/
def bc (l : List UInt8) : List Value := l.map fun b => Value.int .u8 b.toNat

theorem bc_strCells (s : ByteArray) : Lib.strCells s = bc s.data.toList := rfl
theorem bc_append (l m : List UInt8) : bc (l ++ m) = bc l ++ bc m := by simp [bc]
theorem bc_length (l : List UInt8) : (bc l).length = l.length := by simp [bc]
theorem bc_oneCell (l : List UInt8) : ∀ u ∈ bc l, u.oneCell' = true := by
  intro u hu
  obtain ⟨_, _, rfl⟩ := List.mem_map.1 hu
  rfl

/-- A slice of bytes in the world w: nil, or 'len' cells at an address. -/
def IsBytes (w : World) (a : Option Addr) (len cap : Nat) (l : List UInt8) : Prop :=
  (a = none ∧ len = 0 ∧ cap = 0 ∧ l = []) ∨
  ∃ x, a = some x ∧ len ≤ cap ∧ cap ≤ maxLen ∧ l.length = len ∧ ∀ j (hj : j < l.length), w.cell? (x.add j) = some (.int .u8 (l[j].toNat : Int))

theorem IsBytes.len_eq {w : World} {a : Option Addr} {len cap : Nat} {l : List UInt8} (h : IsBytes w a len cap l) : l.length = len := by
  rcases h with ⟨_, rfl, _, rfl⟩ | ⟨x, _, _, _, hz, _⟩
  · rfl
  · exact hz

theorem IsBytes.len_le {w : World} {a : Option Addr} {len cap : Nat} {l : List UInt8} (h : IsBytes w a len cap l) : len ≤ 9223372036854775807 := by
  rcases h with ⟨_, rfl, _, rfl⟩ | ⟨x, _, hl, hm, _⟩
  · omega
  · unfold maxLen at hm; omega

theorem IsBytes.later {w w' : World} {a : Option Addr} {len cap : Nat} {l : List UInt8} (h : IsBytes w a len cap l) (hb : Below w.heap.size w w') : IsBytes w' a len cap l := by
  rcases h with h | ⟨x, rfl, hl, hm, hz, hc⟩
  · exact .inl h
  · exact .inr ⟨x, rfl, hl, hm, hz, fun i hi => (hb.cell (World.block_lt_of_cell? w _ (hc i hi))).trans (hc i hi)⟩

/-- 'string(b)' -/
theorem IsBytes.convert {w : World} {a : Option Addr} {len cap : Nat} {l : List UInt8} (h : IsBytes w a len cap l) :
    (convert 22 9 (.slice a len cap)).run Try.prog w = .ok (.string ⟨l.toArray⟩) w := by
  rcases h with ⟨rfl, rfl, rfl, rfl⟩ | ⟨x, rfl, hl, hm, rfl, hc⟩
  · rw [run_convert_bytes_string w 22 9 5 none 0 0 Try.underlying22 Try.underlying5 Try.underlying9]
    rfl
  · exact run_convert_bytes_back w 22 9 5 x cap l Try.underlying22 Try.underlying5 Try.underlying9 hc

/-- What the guard on lengths says of its answer. -/
def ZZSaid (n : Nat) (e : Ending) : Prop := ∃ b : Bool, e = .returned (.bool b) ∧ (b = true → n ≤ 1048576)

theorem zzBytes23_any (s : ByteArray) (a : Option Addr) (len cap : Nat) (q : Int) (w : World) (hs : s.size ≤ maxLen) (hl : len ≤ 9223372036854775807) :
    Calls Try.prog 23 #[.string s, .slice a len cap, .int .u8 q] w fun e w' => ZZSaid (s.size + len) e ∧ w' = w := by
  unfold maxLen at hs
  go_enter Try.func23, Try.ntmps23
  go_wp2
  all_goals
    go_ret
    first
      | exact ⟨⟨false, rfl, by simp⟩, rfl⟩
      | exact ⟨⟨true, rfl, by omega⟩, rfl⟩

theorem zzBytes21_any (s : ByteArray) (a : Option Addr) (len cap : Nat) (w : World) (hs : s.size ≤ maxLen) (hl : len ≤ 9223372036854775807) :
    Calls Try.prog 21 #[.string s, .slice a len cap] w fun e w' => ZZSaid (s.size + len) e ∧ w' = w := by
  unfold maxLen at hs
  go_enter Try.func21, Try.ntmps21
  go_wp2
  all_goals
    go_ret
    first
      | exact ⟨⟨false, rfl, by simp⟩, rfl⟩
      | exact ⟨⟨true, rfl, by omega⟩, rfl⟩

theorem Try.info5 : (Try.prog.info? 5).map (fun i => (i.zero, i.size, i.bytes)) = some (some (.int .u8 0), 1, 1) := by kernel_rfl

set_option maxHeartbeats 400000 in
theorem appendC_any (base : Nat) (v : Value) (n : Nat) (l : List UInt8) (s : ByteArray) (w : World) (hown : w.ownsRow base 5 1 v n (bc l)) (hb : base ≤ w.heap.size) (hn : n + s.size ≤ 2097152) :
    Calls Try.prog 37 #[v, .string s] w fun e w' => ∃ v', e = .returned v' ∧ w'.ownsRow base 5 1 v' (n + s.size + 1) (bc (l ++ s.data.toList ++ [0])) ∧ Below base w w' := by
  obtain ⟨i0, hi, hz0, hz1, hz2⟩ := info_parts Try.info5
  go_enter Try.func37, Try.ntmps37
  go_wp2_with (first
    | (at_builtin; refine Lib.wpList_append_own_string _ rfl (.tmp 5) (.tmp 6) 22 9 rfl base 5 i0 Try.underlying22 Try.underlying9 hi hz0 hz1 hz2 v n _ rfl hown s rfl (by unfold maxLen; omega) (by omega) hb ?_; intro v1 w1 hown1 hg1 _)
    | (at_builtin; refine wpList_append_own _ rfl (.tmp 7) (.tmp 8) 22 rfl base 5 i0 (.int .u8 0) 1 1 Try.underlying22 hi hz0 hz1 hz2 rfl (by decide) v1 (n + s.size) _ rfl (hown1.alloc _) ⟨w1.heap.size, 0, none⟩ 1 1 [.int .u8 0] rfl rfl (cell_one_new _ _ _) (bc_oneCell [0]) (by unfold maxLen; omega) (by omega) (by have := hg1.size; simp; omega) ?_; intro v2 w2 hown2 hg2 _))
  have hbel1 := (Below.refl base w).grown hg1 hb (fun k hk => (hown.lt k hk).1)
  have hs1 : base ≤ w1.heap.size := Nat.le_trans hb hg1.size
  have hbel2 := (hbel1.alloc hs1 (Obj.cells #[Value.int IntKind.u8 0] 5)).grown hg2 (by simp; omega) (fun k hk => (hown1.lt k hk).1)
  go_ret
  refine ⟨_, rfl, ?_, hbel2⟩
  rw [bc_append, bc_append]
  exact hown2

/-- A row of one cell that the call has just laid is owned. -/
theorem own_one (w : World) (base : Nat) (b : UInt8) (hb : base ≤ w.heap.size) : (w.alloc (.cells #[.int .u8 b.toNat] 5)).ownsRow base 5 1 (.slice (some ⟨w.heap.size, 0, none⟩) 1 1) 1 (bc [b]) :=
  ⟨by simp [bc], .inr ⟨w.heap.size, 1, _, rfl, hb, heap_alloc_new w _, Nat.le_refl _, by unfold maxLen; omega, rfl, rfl⟩⟩

theorem own_lower {w : World} {base base' : Nat} {v : Value} {n : Nat} {xs : List Value} (h : w.ownsRow base 5 1 v n xs) (hb : base' ≤ base) : w.ownsRow base' 5 1 v n xs := by
  refine ⟨h.1, ?_⟩
  rcases h.2 with h | ⟨g, c, cur, rfl, hg, r⟩
  · exact .inl h
  · exact .inr ⟨g, c, cur, rfl, Nat.le_trans hb hg, r⟩

/-- What an auth switch request reads as. -/
def packet (p : ByteArray) (l : List UInt8) : List UInt8 := [254] ++ p.data.toList ++ [0] ++ l ++ [0]

theorem packet_length (p : ByteArray) (l : List UInt8) : (packet p l).length = p.size + l.length + 3 := by
  have : p.data.toList.length = p.size := by rw [Array.length_toList]; rfl
  simp only [packet, List.length_append, List.length_cons, List.length_nil]; omega

set_option maxHeartbeats 400000 in
theorem encode_any (p : ByteArray) (a : Option Addr) (len cap : Nat) (l : List UInt8) (w : World) (h : IsBytes w a len cap l) (hn : p.size + len ≤ 1048576) :
    Calls Try.prog 22 #[.agg #[.string p, .slice a len cap]] w fun e w' => ∃ v, e = .returned v ∧ w'.ownsRow w.heap.size 5 1 v (p.size + len + 3) (bc (packet p l)) ∧ Below w.heap.size w w' := by
  go_enter Try.func22, Try.ntmps22
  go_wp2_with fail
  have hown0 : ((w.alloc (Obj.cells #[Value.string p, Value.slice a len cap] 36)).alloc (Obj.cells #[Value.int IntKind.u8 254] 5)).ownsRow (w.heap.size + 1) 5 1 (.slice (some ⟨w.heap.size + 1, 0, none⟩) 1 1) 1 (bc [254]) := by
    have := own_one (w.alloc (Obj.cells #[Value.string p, Value.slice a len cap] 36)) (w.heap.size + 1) 254 (by simp)
    simpa using this
  have hbel0 : Below w.heap.size w ((w.alloc (Obj.cells #[Value.string p, Value.slice a len cap] 36)).alloc (Obj.cells #[Value.int IntKind.u8 254] 5)) :=
    ((Below.refl _ _).alloc (Nat.le_refl _) _).alloc (by simp) _
  have hbox : ((w.alloc (Obj.cells #[Value.string p, Value.slice a len cap] 36)).alloc (Obj.cells #[Value.int IntKind.u8 254] 5)).cell? ⟨w.heap.size, 1, none⟩ = some (.slice a len cap) := by go_simp
  refine (appendC_any (w.heap.size + 1) _ 1 [254] p _ hown0 (by simp) (by omega)).mono ?_
  rintro e w1 ⟨v1, rfl, hown1, hbel1⟩
  have hbox1 : w1.cell? ⟨w.heap.size, 1, none⟩ = some (.slice a len cap) := (hbel1.cell (by show w.heap.size < w.heap.size + 1; omega)).trans hbox
  have hb1 : Below w.heap.size w w1 := hbel0.trans (hbel1.mono (by omega))
  have hsz1 : w.heap.size + 1 ≤ w1.heap.size := by have := hbel1.size; simp at this; omega
  have hcv := (h.later hb1).convert
  clear hown0 hbel0 hbox
  have hll : (ByteArray.mk l.toArray).size = len := by rw [← h.len_eq]; simp [ByteArray.size]
  clear hbel1
  go_wp2_with fail
  refine (appendC_any (w.heap.size + 1) _ _ _ _ _ hown1 hsz1 (by rw [hll]; omega)).mono ?_
  rintro e w2 ⟨v2, rfl, hown2, hbel2⟩
  have hb2 : Below w.heap.size w w2 := hb1.trans (hbel2.mono (by omega))
  have e1 : (1 + p.size + 1 + (ByteArray.mk l.toArray).size + 1) = p.size + len + 3 := by rw [hll]; omega
  rw [e1] at hown2
  clear e1 hll
  go_wp2
  go_ret
  exact ⟨_, rfl, own_lower hown2 (by omega), hb2⟩

end Go.Proofs.Qxb6615469a
