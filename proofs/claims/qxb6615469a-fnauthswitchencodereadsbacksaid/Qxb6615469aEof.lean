/-
  Seat b6615469a: the walk of 'FnAuthSwitchIsEOFOnlyWhenShort'.
-/
import Derived.Test.Qxb6615469aBytes
namespace Go.Proofs.Qxb6615469a
open Go.RowKit

theorem own_at {w : World} {base : Nat} {v : Value} {n : Nat} {xs : List Value} (h : w.ownsRow base 5 1 v n xs) (hn : 0 < n) : ∃ g cap, v = .slice (some ⟨g, 0, none⟩) n cap ∧ base ≤ g ∧ n ≤ cap ∧ cap ≤ maxLen := by
  rcases h.2 with ⟨_, rfl⟩ | ⟨g, cap', cur, e, hb, _, hnc, hm, _⟩
  · omega
  · exact ⟨g, cap', e, hb, hnc, hm⟩

set_option maxHeartbeats 400000 in
theorem isEOF_any (q L : Int) (g cap : Nat) (B : Bool) (w : World) (hc : w.cell? ⟨g, 0, none⟩ = some (.int .u8 254)) (hB : (B = true ∧ L < 9) ∨ (B = false ∧ ¬ L < 9)) :
    Calls Try.prog 24 #[.agg #[.int .u8 q, .int .i64 L, .slice (some ⟨g, 0, none⟩) 1 cap]] w fun e w' => e = .returned (.bool B) ∧ Below w.heap.size w w' := by
  have hg : g < w.heap.size := World.block_lt_of_cell? w _ hc
  rcases hB with ⟨rfl, hL⟩ | ⟨rfl, hL⟩
  all_goals
    go_enter Try.func24, Try.ntmps24
    go_wp2
    go_ret
    exact ⟨rfl, (Below.refl _ _).alloc (Nat.le_refl _) _⟩

set_option maxHeartbeats 400000 in
theorem eof_walk (p : ByteArray) (a : Option Addr) (len cap : Nat) (l : List UInt8) (q : Int) (w : World) (hp : p.size ≤ maxLen) (h : IsBytes w a len cap l) :
    Calls Try.prog 6 #[.string p, .slice a len cap, .int .u8 q] w fun e w' => e = .returned (.bool true) ∧ Below w.heap.size w w' := by
  have hl := h.len_le
  go_enter Try.func6, Try.ntmps6
  go_wp2_with fail
  refine (zzBytes23_any p a len cap q _ hp hl).mono ?_
  rintro e w' ⟨⟨b, rfl, hb⟩, rfl⟩
  cases b with
  | false =>
    go_wp2
    go_ret
    exact ⟨rfl, Below.refl _ _⟩
  | true =>
  have hn := hb rfl
  clear hb hp
  go_wp2_with fail
  have hbel0 : Below w'.heap.size w' (w'.alloc (Obj.cells #[Value.string p, Value.slice a len cap] 36)) := (Below.refl _ _).alloc (Nat.le_refl _) _
  refine (encode_any p a len cap l _ (h.later hbel0) hn).mono ?_
  rintro e w1 ⟨v1, rfl, hown1, hbel1⟩
  have hb1 : Below w'.heap.size w' w1 := hbel0.trans (hbel1.mono hbel0.size)
  obtain ⟨g, c, rfl, hg, hnc, hcm⟩ := own_at hown1 (by omega)
  have hc0 : w1.cell? ⟨g, 0, none⟩ = some (.int .u8 254) := (hown1.cellAt 0 (by omega)).trans rfl
  have hgs : g < w1.heap.size := World.block_lt_of_cell? w1 _ hc0
  clear hown1 hbel0 hbel1 h
  by_cases hsh : p.size + len < 6
  · go_wp2_with fail
    refine (isEOF_any q _ g c true _ (by go_simp) (.inl ⟨rfl, by omega⟩)).mono ?_
    rintro e w2 ⟨rfl, hbel2⟩
    have hb2 : Below w'.heap.size w' w2 := (hb1.alloc hb1.size (Obj.cells #[Value.int IntKind.u8 q, Value.int IntKind.i64 (↑p.size + ↑len + 3), Value.slice (some ⟨g, 0, none⟩) 1 c] 40)).trans (hbel2.mono (by have := hb1.size; simp; omega))
    clear hbel2
    have hsh' : (p.size : Int) + len < 6 := by omega
    go_wp2
    go_ret
    exact ⟨rfl, hb2⟩
  · go_wp2_with fail
    refine (isEOF_any q _ g c false _ (by go_simp) (.inr ⟨rfl, by omega⟩)).mono ?_
    rintro e w2 ⟨rfl, hbel2⟩
    have hb2 : Below w'.heap.size w' w2 := (hb1.alloc hb1.size (Obj.cells #[Value.int IntKind.u8 q, Value.int IntKind.i64 (↑p.size + ↑len + 3), Value.slice (some ⟨g, 0, none⟩) 1 c] 40)).trans (hbel2.mono (by have := hb1.size; simp; omega))
    clear hbel2
    have hsh' : ¬ (p.size : Int) + len < 6 := by omega
    go_wp2
    go_ret
    refine ⟨?_, hb2⟩
    show Ending.returned (Value.bool !decide ((p.size : Int) + len < 6)) = _
    rw [decide_eq_false (by omega)]
    rfl

end Go.Proofs.Qxb6615469a
