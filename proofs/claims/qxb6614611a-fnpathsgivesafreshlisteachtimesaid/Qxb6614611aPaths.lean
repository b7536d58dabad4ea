/-
  Seat b6614611a: the walk of '(policy.Files).Paths': two appends in one region that draws its order.
-/
import Derived.Test.Qxb6614611aStrs
import Derived.Deep.RegionLaw
namespace Go.Proofs.Qxb6614611a
open Go.RowKit

/-- append to a row of the call's own, whatever the source (nil or not), as one step of a region that draws. -/
theorem step_append_own_any {P : Program} {ops : Array Oper} {o : Oper} {a : Act} {w : World} {K : Act → World → Prop} {Q : Exit → Act → World → Prop} {E : Prop}
    (hg : o.guard = none) (s x : Operand) (t : TypeId) (hop : o.op = Op.call { callee := Callee.builtin Builtin.append, args := #[s, x], argTypes := #[t, t] })
    (base : Nat) (e : TypeId) (i : TypeInfo) (z : Value) (size bytes : Nat) (h1 : P.underlying t = some (.slice e)) (h2 : P.info? e = some i) (h3 : i.zero = some z) (h4 : i.size = size) (h5 : i.bytes = bytes) (h6 : z.cells.size = size) (h7 : 0 < size)
    (v : Value) (n : Nat) (xs : List Value) (hs : a.eval s = v) (hown : w.ownsRow base e size v n xs)
    (ao : Option Addr) (m c : Nat) (news : List Value) (hx : a.eval x = .slice ao m c) (hnone : ao = none → m = 0 ∧ c = 0) (hn : news.length = m * size) (hc : ∀ ad, ao = some ad → ∀ j u, news[j]? = some u → w.cell? (ad.add j) = some u) (h1c : ∀ u ∈ news, u.oneCell' = true)
    (b1 : n + m ≤ maxLen) (b2 : (n + m) * bytes ≤ 140737488355328) (b3 : base ≤ w.heap.size)
    (hK : ∀ v' w', w'.ownsRow base e size v' (n + m) (xs ++ news) → w.grownBy w' v.ownBlock → K (a.put o.dst v') w') :
    if Region.wanted o (yielded ops a.tmps) = true then Oper.wp P o a w K Q else E := by
  have hw : Region.wanted o (yielded ops a.tmps) = true := by simp [Region.wanted, hg]
  rw [if_pos hw]
  cases ao with
  | some b =>
    obtain ⟨v', w', hrun, r1, r2, _⟩ := run_append_own (P := P) w base t o.type e i z size bytes h1 h2 h3 h4 h5 h6 h7 v n xs hown b m c news hn (hc b rfl) h1c b1 b2 b3
    unfold Oper.wp
    simp [execOp, hop, resolve, invoke, builtin, hs, hx, hrun, Result.andThen]
    exact hK v' w' r1 r2
  | none =>
    obtain ⟨rfl, rfl⟩ := hnone rfl
    obtain rfl : news = [] := List.eq_nil_of_length_eq_zero (by simpa using hn)
    have hrun := run_append_owned_none (P := P) (w := w) base t o.type e i size h1 h2 v n xs hown
    unfold Oper.wp
    simp [execOp, hop, resolve, invoke, builtin, hs, hx, hrun, Result.andThen]
    exact hK v w (by simpa using hown) (World.grownBy.refl _ _)

theorem Try.info9 : (Try.prog.info? 9).map (fun i => (i.zero, i.size, i.bytes)) = some (some (.string ByteArray.empty), 1, 16) := by kernel_rfl

theorem strs_oneCell (ss : List ByteArray) : ∀ u ∈ ss.map Value.string, u.oneCell' = true := by
  intro u hu
  obtain ⟨_, _, rfl⟩ := List.mem_map.1 hu
  rfl

theorem IsStrs.nil_of {w : World} {a : Option Addr} {len cap : Nat} {ss : List ByteArray} (h : IsStrs w a len cap ss) : a = none → len = 0 ∧ cap = 0 := by
  rcases h with ⟨_, rfl, rfl, rfl⟩ | ⟨x, rfl, _⟩
  · simp
  · simp

theorem IsStrs.cells {w : World} {a : Option Addr} {len cap : Nat} {ss : List ByteArray} (h : IsStrs w a len cap ss) : ∀ ad, a = some ad → ∀ j u, (ss.map Value.string)[j]? = some u → w.cell? (ad.add j) = some u := by
  intro ad had j u hu
  rcases h with ⟨rfl, rfl, rfl, rfl⟩ | ⟨x, rfl, _, _, hz, hc, _⟩
  · cases had
  · cases had
    have hj : j < ss.length := by have := (List.getElem?_eq_some_iff.1 hu).1; simpa using this
    rw [hc j (by omega)]
    simpa [List.getD, hj] using hu

theorem IsStrs.len_map {w : World} {a : Option Addr} {len cap : Nat} {ss : List ByteArray} (h : IsStrs w a len cap ss) : (ss.map Value.string).length = len * 1 := by
  simp [h.len_eq]

theorem IsStrs.later {w w' : World} {a : Option Addr} {len cap : Nat} {ss : List ByteArray} (h : IsStrs w a len cap ss) (hb : Below w.heap.size w w') : IsStrs w' a len cap ss := by
  rcases h with h | ⟨x, rfl, hl, hm, hz, hc, hs⟩
  · exact .inl h
  · exact .inr ⟨x, rfl, hl, hm, hz, fun i hi => (hb.cell (World.block_lt_of_cell? w _ (hc i hi))).trans (hc i hi), hs⟩

set_option maxHeartbeats 400000 in
theorem paths_any (a0 : Option Addr) (len0 cap0 : Nat) (s0 : List ByteArray) (a1 : Option Addr) (len1 cap1 : Nat) (s1 : List ByteArray) (w : World) (h0 : IsStrs w a0 len0 cap0 s0) (h1 : IsStrs w a1 len1 cap1 s1)
    (hsum : len0 + len1 ≤ 1048576) :
    Calls Try.prog 10 #[.agg #[.slice a0 len0 cap0, .slice a1 len1 cap1]] w fun e w' => ∃ v, e = .returned v ∧ w'.ownsRow w.heap.size 9 1 v (len0 + len1) (s0.map Value.string ++ s1.map Value.string) ∧ Below w.heap.size w w' := by
  obtain ⟨i0, hi, hz0, hz1, hz2⟩ := info_parts Try.info9
  go_enter Try.func10, Try.ntmps10
  go_wp2
  have hb1 : Below w.heap.size w (w.alloc (Obj.cells #[Value.slice a0 len0 cap0, Value.slice a1 len1 cap1] 32)).drew := ((Below.refl _ _).alloc (Nat.le_refl _) _).drew
  have hbox : (w.alloc (Obj.cells #[Value.slice a0 len0 cap0, Value.slice a1 len1 cap1] 32)).drew.cell? ⟨w.heap.size, 1, none⟩ = some (.slice a1 len1 cap1) := by go_simp
  have hsz : w.heap.size ≤ (w.alloc (Obj.cells #[Value.slice a0 len0 cap0, Value.slice a1 len1 cap1] 32)).drew.heap.size := by simp
  go_region_law (first
    | (refine step_append_own_any rfl (.const (.slice none 0 0)) (.tmp 4) 28 rfl w.heap.size 9 i0 _ 1 16 Try.underlying28 hi hz0 hz1 hz2 rfl (by decide) (.slice none 0 0) 0 [] rfl (World.ownsRow_nil _ _ _ _) a0 len0 cap0 (s0.map Value.string) rfl h0.nil_of h0.len_map (h0.later hb1).cells (strs_oneCell _) (by unfold maxLen; omega) (by omega) hsz ?_; intro v1 w1 hown1 hg1; simp only [Nat.zero_add, List.nil_append] at hown1; have hbel1 := hb1.grown hg1 hsz (by simp [Value.ownBlock]); have hbox1 : w1.cell? ⟨w.heap.size, 1, none⟩ = some (.slice a1 len1 cap1) := hg1.cell hbox (by simp [Value.ownBlock]))
    | (refine step_append_own_any rfl (.tmp 5) (.tmp 7) 28 rfl w.heap.size 9 i0 _ 1 16 Try.underlying28 hi hz0 hz1 hz2 rfl (by decide) v1 len0 (s0.map Value.string) rfl hown1 a1 len1 cap1 (s1.map Value.string) rfl h1.nil_of h1.len_map (h1.later hbel1).cells (strs_oneCell _) (by unfold maxLen; omega) (by omega) hbel1.size ?_; intro v2 w2 hown2 hg2; have hbel2 := hbel1.grown hg2 hbel1.size (fun k hk => (hown1.lt k hk).1)))
  all_goals
    go_wp2
    go_ret
    exact ⟨_, rfl, hown2, hbel2⟩

/-- What the call owns, as a slice of strings. -/
theorem own_strs {w : World} {base : Nat} {v : Value} {n : Nat} {ss : List ByteArray} (h : w.ownsRow base 9 1 v n (ss.map Value.string)) (hs : ∀ s ∈ ss, s.size ≤ maxLen) :
    ∃ a cap, v = .slice a n cap ∧ IsStrs w a n cap ss ∧ ∀ x, a = some x → base ≤ x.block := by
  have hl : ss.length = n := by simpa using h.1
  rcases h.2 with ⟨rfl, rfl⟩ | ⟨g, cap, cur, rfl, hb, hg, hnc, hcm, hcs, htake⟩
  · exact ⟨none, 0, rfl, .inl ⟨rfl, rfl, rfl, List.eq_nil_of_length_eq_zero hl⟩, by simp⟩
  · refine ⟨some ⟨g, 0, none⟩, cap, rfl, .inr ⟨_, rfl, hnc, hcm, hl, fun i hi => ?_, hs⟩, ?_⟩
    · refine h.cells (g := g) rfl i _ ?_
      simp [List.getD, show i < ss.length by omega]
    · intro x hx
      cases hx
      exact hb

end Go.Proofs.Qxb6614611a
