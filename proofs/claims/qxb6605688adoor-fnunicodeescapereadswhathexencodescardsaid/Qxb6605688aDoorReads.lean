/-
  Seat b6605688aD: the walks of appendEscape and of 'FnUnicodeEscapeReadsWhatHexEncodes'.
-/
import Derived.Test.Qxb6605688aDoorHex4
namespace Go.Proofs.Qxb6605688aDoor
open Go.RowKit

theorem cells_two_new (w : World) (x y : Value) (t : TypeId) : ∀ j u, [x, y][j]? = some u → (w.alloc (.cells #[x, y] t)).cell? ((⟨w.heap.size, 0, none⟩ : Addr).add j) = some u := by
  intro j u hu
  rw [Addr.add_lit]
  match j, hu with
  | 0, hu => simp at hu; subst hu; exact World.cell?_alloc_at _ _ _ _ rfl
  | 1, hu => simp at hu; subst hu; exact World.cell?_alloc_at _ _ _ _ rfl
  | j + 2, hu => simp at hu

set_option maxHeartbeats 400000 in
theorem appendEscape_any (base : Nat) (v : Value) (n : Nat) (l : List UInt8) (u : Nat) (up : Bool) (w : World) (hown : w.ownsRow base 5 1 v n (bc l)) (hb : base ≤ w.heap.size) (hn : n ≤ 65536) (hu : u ≤ 65535) :
    Calls Tryd.prog 12 #[v, .int .u16 (u : Int), .bool up] w fun e w' => ∃ v', e = .returned v' ∧ w'.ownsRow base 5 1 v' (n + 2 + 4) (bc (l ++ [92, 117] ++ digs up u)) ∧ Below base w w' := by
  obtain ⟨i0, hi, hz0, hz1, hz2⟩ := info_parts Tryd.info5
  go_enter Tryd.func12, Tryd.ntmps12
  go_wp2_with (at_builtin; refine wpList_append_own _ rfl (.tmp 7) (.tmp 8) 22 rfl base 5 i0 (.int .u8 0) 1 1 Tryd.underlying22 hi hz0 hz1 hz2 rfl (by decide) _ n _ rfl (hown.alloc _) ⟨w.heap.size, 0, none⟩ 2 2 [.int .u8 92, .int .u8 117] rfl rfl (cells_two_new _ _ _ _) (bc_oneCell [92, 117]) (by unfold maxLen; omega) (by omega) (by simp; omega) ?_; intro v2 w2 hown2 hg2 _)
  have hbel2 := ((Below.refl base w).alloc hb (Obj.cells #[Value.int .u8 92, Value.int .u8 117] 5)).grown hg2 (by simp; omega) (fun j hj => (hown.lt j hj).1)
  have hs2 : base ≤ w2.heap.size := Nat.le_trans hb hbel2.size
  have hown3 : w2.ownsRow base 5 1 v2 (n + 2) (bc (l ++ [92, 117])) := by rw [bc_append]; exact hown2
  clear hown2 hg2 hown
  go_wp2_with fail
  refine (hex4_any base v2 (n + 2) _ u up _ hown3 hs2 (by omega) hu).mono ?_
  rintro e w3 ⟨v3, rfl, hown4, hbel3⟩
  go_wp2
  go_ret
  exact ⟨_, rfl, hown4, hbel2.trans hbel3⟩

/-- append to a row of the call's own, whatever the source (nil or not). -/
theorem wpList_append_any {P : Program} {w : World} {ops : Array Oper} {rest : List Oper} {o : Oper} {a : Act} {Q : Exit → Act → World → Prop} (hgd : o.guard = none) (s x : Operand) (t : TypeId)
    (ho : o.op = .call { callee := .builtin .append, args := #[s, x], argTypes := #[t, t] })
    (base : Nat) (e : TypeId) (i : TypeInfo) (z : Value) (size bytes : Nat) (ht : P.underlying t = some (.slice e)) (hi : P.info? e = some i) (hz : i.zero = some z)
    (hsize : i.size = size) (hby : i.bytes = bytes) (hzs : z.cells.size = size) (hsz : 0 < size)
    (v : Value) (n : Nat) (xs : List Value) (hs : a.eval s = v) (hown : w.ownsRow base e size v n xs)
    (ao : Option Addr) (m c : Nat) (news : List Value) (hx : a.eval x = .slice ao m c) (hnone : ao = none → m = 0 ∧ c = 0) (hl : news.length = m * size) (hc : ∀ ad, ao = some ad → ∀ j u, news[j]? = some u → w.cell? (ad.add j) = some u) (h1 : ∀ u ∈ news, u.oneCell' = true)
    (h63 : n + m ≤ maxLen) (hbytes : (n + m) * bytes ≤ 140737488355328) (hbase : base ≤ w.heap.size)
    (h : ∀ v' w', w'.ownsRow base e size v' (n + m) (xs ++ news) → w.grownBy w' v.ownBlock → wpList P ops Q rest (a.put o.dst v') w') : wpList P ops Q (o :: rest) a w := by
  cases ao with
  | some ad => exact wpList_append_own w hgd s x t ho base e i z size bytes ht hi hz hsize hby hzs hsz v n xs hs hown ad m c news hx hl (hc ad rfl) h1 h63 hbytes hbase (fun v' w' h2 h3 _ => h v' w' h2 h3)
  | none =>
    obtain ⟨rfl, rfl⟩ := hnone rfl
    obtain rfl : news = [] := List.eq_nil_of_length_eq_zero (by simpa using hl)
    refine wpList_plain hgd fun K hK => ?_
    have hrun := run_append_owned_none (P := P) (w := w) base t o.type e i size ht hi v n xs hown
    unfold Oper.wp
    simp [execOp, ho, resolve, invoke, builtin, hs, hx, hrun, Result.andThen]
    exact hK _ _ (h v w (by simpa using hown) (World.grownBy.refl _ _))

theorem IsBytes.cells {w : World} {a : Option Addr} {len cap : Nat} {l : List UInt8} (h : IsBytes w a len cap l) : ∀ ad, a = some ad → ∀ j u, (bc l)[j]? = some u → w.cell? (ad.add j) = some u := by
  intro ad had j u hu
  rcases h with ⟨rfl, rfl, rfl, rfl⟩ | ⟨x, rfl, _, _, hz, hc⟩
  · cases had
  · cases had
    have hj : j < l.length := by have := (List.getElem?_eq_some_iff.1 hu).1; simpa [bc] using this
    rw [hc j hj]
    simpa [bc, List.getElem?_eq_getElem hj] using hu

theorem own_later {w w' : World} {base : Nat} {v : Value} {n : Nat} {xs : List Value} (h : w.ownsRow base 5 1 v n xs) (hb : Below w.heap.size w w') : w'.ownsRow base 5 1 v n xs := by
  refine ⟨h.1, ?_⟩
  rcases h.2 with hn | ⟨g, cap, cur, rfl, hbg, hgg, rest⟩
  · exact .inl hn
  · exact .inr ⟨g, cap, cur, rfl, hbg, by rw [hb.block g (Array.getElem?_eq_some_iff.1 hgg).1]; exact hgg, rest⟩

theorem own_at {w : World} {base : Nat} {v : Value} {n : Nat} {xs : List Value} (h : w.ownsRow base 5 1 v n xs) (hn : 0 < n) : ∃ g cap, v = .slice (some ⟨g, 0, none⟩) n cap ∧ base ≤ g ∧ n ≤ cap ∧ cap ≤ maxLen := by
  rcases h.2 with ⟨_, rfl⟩ | ⟨g, cap', cur, e, hb, _, hnc, hm, _⟩
  · omega
  · exact ⟨g, cap', e, hb, hnc, hm⟩

theorem IsBytes.cut {w : World} {a : Option Addr} {len cap k : Nat} {l : List UInt8} (h : IsBytes w a len cap l) (hk : k ≤ len) : IsBytes w a k cap (l.take k) := by
  rcases h with ⟨rfl, rfl, rfl, rfl⟩ | ⟨x, rfl, hl, hm, hz, hc⟩
  · exact .inl ⟨rfl, by omega, rfl, by simp⟩
  · refine .inr ⟨x, rfl, by omega, hm, by simp; omega, fun j hj => ?_⟩
    rw [hc j (by simp at hj; omega)]
    simp

/-- The text that the law writes. -/
def text (up : Bool) (u : Nat) (l : List UInt8) : List UInt8 := [] ++ [92, 117] ++ digs up u ++ l

theorem text_esc (up : Bool) (u : Nat) (l : List UInt8) (h : u ≤ 65535) : esc (text up u l) = ((u : Int), true) :=
  esc_some (by simp [text, digs]) (by simp [text, digs]) (by simp [text, digs]) (by
    have : ((text up u l).drop 2).take 4 = digs up u := by simp [text, digs]
    rw [this]; exact hexRun_digs up u h)

theorem text_cut (up : Bool) (u : Nat) (l : List UInt8) : esc ((text up u l).take 5) = (0, false) :=
  esc_short (by simp [text, digs])

theorem text_up (up : Bool) (u : Nat) (l : List UInt8) : esc ((text up u l).set 1 85) = (0, false) :=
  esc_c1 (by simp [text, digs])

theorem bc_set (l : List UInt8) (k : Nat) (c : UInt8) : (bc l).set k (.int .u8 (c.toNat : Int)) = bc (l.set k c) := by
  simp [bc, List.map_set]

set_option maxHeartbeats 1000000 in
theorem reads_walk (u : Nat) (up : Bool) (a : Option Addr) (len cap : Nat) (l : List UInt8) (ev : Value) (w : World) (hu : u ≤ 65535) (h : IsBytes w a len cap l) (hv : w.cell? ⟨1, 0, none⟩ = some ev) (hev : IsErr ev) :
    Calls Tryd.prog 4 #[.int .u16 (u : Int), .bool up, .slice a len cap] w fun e w' => e = .returned (.bool true) ∧ Below w.heap.size w w' := by
  obtain ⟨i0, hi, hz0, hz1, hz2⟩ := info_parts Tryd.info5
  have hl := h.len_le
  have hG : 1 < w.heap.size := World.block_lt_of_cell? w _ hv
  have HV : Hid (w.cell? ⟨1, 0, none⟩ = some ev) := hv
  clear hv
  go_enter Tryd.func4, Tryd.ntmps4
  go_wp2_with fail
  refine (zzBytes11_any (u : Int) up a len cap _ hl).mono ?_
  rintro e w' ⟨⟨b, rfl⟩, rfl⟩
  cases b with
  | false =>
    go_wp2
    go_ret
    exact ⟨rfl, Below.refl _ _⟩
  | true =>
  by_cases hbig : 65536 < len
  · go_wp2
    go_ret
    exact ⟨rfl, Below.refl _ _⟩
  go_wp2_with fail
  refine (cloneB_any a len cap l _ h (by omega)).mono ?_
  rintro e w1 ⟨v1, rfl, hown1, hbel1⟩
  obtain ⟨a1, cap1, rfl, h1⟩ := own_bytes hown1
  clear hown1 h
  go_wp2_with (at_make; refine wpList_make_own _ rfl _ _ 22 rfl w1.heap.size 5 i0 _ 1 Tryd.underlying22 hi hz0 hz1 _ _ _ (6 + len) rfl rfl (by omega) (by rw [hz2]; omega) (by unfold maxLen; omega) (Nat.le_refl _) ?_; intro w2 hown2 hg2)
  have hbel2 := (Below.refl w1.heap.size w1).grown hg2 (Nat.le_refl _) (by simp)
  clear hg2
  go_wp2_with fail
  refine (appendEscape_any w1.heap.size _ 0 [] u up _ hown2 hbel2.size (by omega) hu).mono ?_
  rintro e w3 ⟨v3, rfl, hown3, hbel3⟩
  have hbel13 : Below w1.heap.size w1 w3 := hbel2.trans hbel3
  have h3 := h1.later hbel13
  clear hown2 hbel2 hbel3
  go_wp2_with (at_builtin; refine wpList_append_any rfl (.tmp 32) (.tmp 33) 22 rfl w1.heap.size 5 i0 (.int .u8 0) 1 1 Tryd.underlying22 hi hz0 hz1 hz2 rfl (by decide) _ (0 + 2 + 4) _ rfl hown3 a1 len cap1 (bc l) rfl h3.nil_of (by rw [bc_length, h3.len_eq]; omega) h3.cells (bc_oneCell l) (by unfold maxLen; omega) (by omega) hbel13.size ?_; intro v4 w4 hown4 hg4)
  have hbel14 : Below w1.heap.size w1 w4 := hbel13.grown hg4 hbel13.size (fun j hj => (hown3.lt j hj).1)
  have hown5 : w4.ownsRow w1.heap.size 5 1 v4 (6 + len) (bc (text up u l)) := by
    unfold text; rw [bc_append, show 6 + len = 0 + 2 + 4 + len by omega]; exact hown4
  clear hown3 hown4 hg4 hbel13 h3 h1
  have hbelA : Below w'.heap.size w' w4 := hbel1.trans (hbel14.mono hbel1.size)
  obtain ⟨g, c4, rfl, hg, hnc, hcm⟩ := own_at hown5 (by omega)
  obtain ⟨a5, c5, he5, h5⟩ := own_bytes hown5
  cases he5
  have hB4 : w'.heap.size ≤ g := Nat.le_trans hbel1.size hg
  clear hbel14 hbel1
  unfold maxLen at hcm
  have HV4 : Hid (w4.cell? ⟨1, 0, none⟩ = some ev) := (hbelA.cell (p := ⟨1, 0, none⟩) hG).trans HV.out
  have hG4 : 1 < w4.heap.size := Nat.lt_of_lt_of_le hG hbelA.size
  have E1 := zzEscape_any _ _ _ _ ev _ h5 HV4.out hev
  rw [text_esc up u l hu] at E1
  refine E1.mono ?_
  rintro e w5 ⟨rfl, hbel5⟩
  clear E1
  have HV5 : Hid (w5.cell? ⟨1, 0, none⟩ = some ev) := (hbel5.cell (p := ⟨1, 0, none⟩) hG4).trans HV4.out
  have hbelB : Below w'.heap.size w' w5 := hbelA.trans (hbel5.mono hbelA.size)
  have hG5 : 1 < w5.heap.size := Nat.lt_of_lt_of_le hG4 hbel5.size
  have E2 := zzEscape_any _ _ _ _ ev _ ((h5.later hbel5).cut (show 5 ≤ 6 + len by omega)) HV5.out hev
  rw [text_cut up u l] at E2
  have hown6 := own_later hown5 hbel5
  clear h5 hown5 hbelA
  go_wp2_with fail
  refine E2.mono ?_
  rintro e w6 ⟨rfl, hbel6⟩
  clear E2
  have hown7 := own_later hown6 hbel6
  have hc1 := hown7.cellAt 1 (by omega)
  have hf1 := hown7.frozenAt 1
  have hst := (hown7.stored 1 (.int .u8 85)).1
  have hset : (bc (text up u l)).set 1 (.int .u8 85) = bc ((text up u l).set 1 85) := bc_set _ 1 85
  rw [hset] at hst
  have hc1' : w6.cell? ⟨g, 1, none⟩ = some (.int .u8 117) := hc1.trans (by simp [text, bc])
  have hbelC : Below w'.heap.size w' w6 := hbelB.trans (hbel6.mono hbelB.size)
  have hbelD := hbelC.setCell (p := ⟨g, 1, none⟩) hB4 (.int .u8 85)
  have HV6 : Hid ((w6.setCell ⟨g, 1, none⟩ (.int .u8 85)).cell? ⟨1, 0, none⟩ = some ev) := (hbelD.cell (p := ⟨1, 0, none⟩) hG).trans HV.out
  obtain ⟨a7, c7, he7, h7⟩ := own_bytes hst
  cases he7
  have E3 := zzEscape_any _ _ _ _ ev _ h7 HV6.out hev
  rw [text_up up u l] at E3
  clear hown6 hown7 hc1 hset hst h7 hbelB hbelC hbel5 hbel6
  go_wp2_with fail
  refine E3.mono ?_
  rintro e w8 ⟨rfl, hbel8⟩
  clear E3
  have hbelE : Below w'.heap.size w' w8 := hbelD.trans (hbel8.mono hbelD.size)
  go_wp2
  go_ret
  exact ⟨rfl, hbelE⟩

end Go.Proofs.Qxb6605688aDoor
