/-
  Seat b6605688aD: a slice of bytes in a world; the walks of unicodeEscape, of its model, of cloneBytes and of the guards.
-/
import Derived.Test.Qxb6605688aDoorErr
import Derived.Laws.IdiomStrings
import Derived.Deep.QuietTactic
import Derived.BigQuiet
namespace Go.Proofs.Qxb6605688aDoor
open Go.RowKit

/-- Bytes as cells. -/
def bc (l : List UInt8) : List Value := l.map fun b => Value.int .u8 b.toNat

theorem bc_append (l m : List UInt8) : bc (l ++ m) = bc l ++ bc m := by simp [bc]
theorem bc_length (l : List UInt8) : (bc l).length = l.length := by simp [bc]
theorem bc_oneCell (l : List UInt8) : ∀ u ∈ bc l, u.oneCell' = true := by
  intro u hu
  obtain ⟨_, _, rfl⟩ := List.mem_map.1 hu
  rfl

/-- A slice of bytes in the world w: nil, or 'len' cells at an address. -/
def IsBytes (w : World) (a : Option Addr) (len cap : Nat) (l : List UInt8) : Prop :=
  (a = none ∧ len = 0 ∧ cap = 0 ∧ l = []) ∨
  ∃ x, a = some x ∧ len ≤ cap ∧ cap ≤ maxLen ∧ l.length = len ∧ ∀ j (hj : j < l.length), w.cell? (x.add j) = some (.int .u8 (l[j].toNat : Int))

theorem IsBytes.len_eq {w : World} {a : Option Addr} {len cap : Nat} {l : List UInt8} (h : IsBytes w a len cap l) : l.length = len := by
  rcases h with ⟨_, rfl, _, rfl⟩ | ⟨x, _, _, _, hz, _⟩
  · rfl
  · exact hz

theorem IsBytes.len_le {w : World} {a : Option Addr} {len cap : Nat} {l : List UInt8} (h : IsBytes w a len cap l) : len ≤ 9223372036854775807 := by
  rcases h with ⟨_, rfl, _, rfl⟩ | ⟨x, _, hl, hm, _⟩
  · omega
  · unfold maxLen at hm; omega

theorem IsBytes.nil_of {w : World} {a : Option Addr} {len cap : Nat} {l : List UInt8} (h : IsBytes w a len cap l) : a = none → len = 0 ∧ cap = 0 := by
  rcases h with ⟨_, rfl, rfl, rfl⟩ | ⟨x, rfl, _⟩
  · simp
  · simp

theorem IsBytes.later {w w' : World} {a : Option Addr} {len cap : Nat} {l : List UInt8} (h : IsBytes w a len cap l) (hb : Below w.heap.size w w') : IsBytes w' a len cap l := by
  rcases h with h | ⟨x, rfl, hl, hm, hz, hc⟩
  · exact .inl h
  · exact .inr ⟨x, rfl, hl, hm, hz, fun i hi => (hb.cell (World.block_lt_of_cell? w _ (hc i hi))).trans (hc i hi)⟩

/-- Where there is an element the address is a plain one. -/
theorem IsBytes.at {w : World} {a : Option Addr} {len cap : Nat} {l : List UInt8} (h : IsBytes w a len cap l) {k : Nat} (hk : k < len) :
    ∃ b off, a = some ⟨b, off, none⟩ ∧ len ≤ cap ∧ cap ≤ 9223372036854775807 ∧ b < w.heap.size ∧ ∀ j (hj : j < l.length), w.cell? ⟨b, off + j, none⟩ = some (.int .u8 (l[j].toNat : Int)) := by
  rcases h with ⟨_, rfl, _, rfl⟩ | ⟨x, rfl, hl, hm, hz, hc⟩
  · omega
  · obtain ⟨b, off, spot⟩ := x
    have h0 := hc 0 (by omega)
    have hspot : spot = none := by simpa [Addr.add] using World.cell?_spot h0
    subst hspot
    unfold maxLen at hm
    refine ⟨b, off, rfl, hl, by omega, ?_, fun j hj => by rw [← Go.WideShapes.add_plain]; exact hc j hj⟩
    have := World.block_lt_of_cell? w _ h0
    simpa [Addr.add] using this

theorem esc_short {l : List UInt8} (h : l.length < 6) : esc l = (0, false) := by
  unfold esc; rw [if_pos (.inl h)]
theorem esc_c0 {l : List UInt8} (h : l.getD 0 0 ≠ 92) : esc l = (0, false) := by
  unfold esc; rw [if_pos (.inr (.inl h))]
theorem esc_c1 {l : List UInt8} (h : l.getD 1 0 ≠ 117) : esc l = (0, false) := by
  unfold esc; rw [if_pos (.inr (.inr h))]
theorem esc_some {l : List UInt8} {v : Nat} (h : 6 ≤ l.length) (h0 : l.getD 0 0 = 92) (h1 : l.getD 1 0 = 117) (hr : hexRun 0 ((l.drop 2).take 4) = some v) : esc l = ((v : Int), true) := by
  unfold esc; rw [if_neg (fun e => e.elim (fun e => by omega) (fun e => e.elim (fun e => e h0) (fun e => e h1))), hr]
theorem esc_none {l : List UInt8} (h : 6 ≤ l.length) (h0 : l.getD 0 0 = 92) (h1 : l.getD 1 0 = 117) (hr : hexRun 0 ((l.drop 2).take 4) = none) : esc l = (0, false) := by
  unfold esc; rw [if_neg (fun e => e.elim (fun e => by omega) (fun e => e.elim (fun e => e h0) (fun e => e h1))), hr]

theorem getD_at {l : List UInt8} {j : Nat} (h : j < l.length) : l[j] = l.getD j 0 := by simp [List.getD, h]

set_option maxHeartbeats 1000000 in
theorem escape_any (a : Option Addr) (len cap : Nat) (l : List UInt8) (ev : Value) (w : World) (h : IsBytes w a len cap l) (hv : w.cell? ⟨1, 0, none⟩ = some ev) (hev : IsErr ev) :
    Calls Tryd.prog 19 #[.slice a len cap] w fun e w' => e = .returned (.tuple #[.int .u64 (esc l).1, .bool (esc l).2]) ∧ Below w.heap.size w w' := by
  have hl := h.len_le
  have HV : Hid _ := hv
  clear hv
  by_cases h6 : len < 6
  · rw [esc_short (by rw [h.len_eq]; exact h6)]
    clear h
    go_enter Tryd.func19, Tryd.ntmps19
    go_wp2
    go_ret2
    exact ⟨rfl, Below.refl _ _⟩
  obtain ⟨b, off, rfl, hlc, hcm, hb, hc⟩ := h.at (show 0 < len by omega)
  have hle := h.len_eq
  have hc0 := hc 0 (by omega)
  have hc1 := hc 1 (by omega)
  rw [getD_at (by omega)] at hc0 hc1
  by_cases h0 : l.getD 0 0 = 92
  case neg =>
    rw [esc_c0 h0]
    obtain ⟨x, hx⟩ : ∃ x, x = l.getD 0 0 := ⟨_, rfl⟩
    rw [← hx] at hc0 h0
    have hne : ((x.toNat : Int) != 92) = true := by
      have : x.toNat ≠ 92 := fun e => h0 (UInt8.toNat_inj.1 e)
      simp; omega
    have hc0' : w.cell? ⟨b, off, none⟩ = some (.int .u8 (x.toNat : Int)) := hc0
    clear hx h0 hc h hc1 hle hc0
    go_enter Tryd.func19, Tryd.ntmps19
    go_wp2
    go_ret2
    exact ⟨rfl, Below.refl _ _⟩
  by_cases h1 : l.getD 1 0 = 117
  case neg =>
    rw [esc_c1 h1]
    obtain ⟨x, hx⟩ : ∃ x, x = l.getD 1 0 := ⟨_, rfl⟩
    rw [← hx] at hc1 h1
    rw [h0] at hc0
    have hc0' : w.cell? ⟨b, off, none⟩ = some (.int .u8 92) := hc0
    have hne : ((x.toNat : Int) != 117) = true := by
      have : x.toNat ≠ 117 := fun e => h1 (UInt8.toNat_inj.1 e)
      simp; omega
    clear hx h0 hc h hc0 hle h1
    go_enter Tryd.func19, Tryd.ntmps19
    go_wp2
    go_ret2
    exact ⟨rfl, Below.refl _ _⟩
  rw [h0] at hc0
  rw [h1] at hc1
  have hc0' : w.cell? ⟨b, off, none⟩ = some (.int .u8 92) := hc0
  have hc1' : w.cell? ⟨b, off + 1, none⟩ = some (.int .u8 117) := hc1
  have hq : ((l.drop 2).take 4).length = 4 := by simp; omega
  have hcv : (convert 22 9 (.slice (some ⟨b, off + 2, none⟩) 4 (cap - 2))).run Tryd.prog w = .ok (.string ⟨((l.drop 2).take 4).toArray⟩) w := by
    have := run_convert_bytes_back (P := Tryd.prog) w 22 9 5 ⟨b, off + 2, none⟩ (cap - 2) ((l.drop 2).take 4) Tryd.underlying22 Tryd.underlying5 Tryd.underlying9 (fun j hj => by
      rw [Addr.add_lit, Nat.add_assoc, hc (2 + j) (by omega)]; simp)
    rw [hq] at this
    exact this
  have hts : (ByteArray.mk ((l.drop 2).take 4).toArray).size = 4 := by rw [← hq]; simp [ByteArray.size]
  have HP := parseUint_any ⟨((l.drop 2).take 4).toArray⟩ hts ev w HV.out hev
  have htl : (ByteArray.mk ((l.drop 2).take 4).toArray).data.toList = (l.drop 2).take 4 := by simp
  rw [htl] at HP
  have hes := fun v => esc_some (l := l) (v := v) (by omega) h0 h1
  have hen := esc_none (l := l) (by omega) h0 h1
  generalize hexRun 0 ((l.drop 2).take 4) = o at HP hes hen
  generalize (ByteArray.mk ((l.drop 2).take 4).toArray) = t at HP hcv hts htl
  clear h0 h1 hc hc0 hc1 h htl
  cases o with
  | some v =>
    rw [hes v rfl]
    clear hes hen
    go_enter Tryd.func19, Tryd.ntmps19
    go_wp2_with fail
    refine HP.mono ?_
    rintro e w2 ⟨rfl, hbel⟩
    clear HP
    go_wp2
    go_quiet (fail)
    go_wp2
    go_ret2
    exact ⟨rfl, below_drewN hbel _⟩
  | none =>
    rw [hen rfl]
    clear hes hen
    go_enter Tryd.func19, Tryd.ntmps19
    go_wp2_with fail
    refine HP.mono ?_
    rintro e w2 ⟨⟨N, rfl⟩, hbel⟩
    clear HP
    go_wp2
    go_quiet (fail)
    go_wp2
    go_ret2
    exact ⟨rfl, below_drewN hbel _⟩

theorem zzEscape_any (a : Option Addr) (len cap : Nat) (l : List UInt8) (ev : Value) (w : World) (h : IsBytes w a len cap l) (hv : w.cell? ⟨1, 0, none⟩ = some ev) (hev : IsErr ev) :
    Calls Tryd.prog 9 #[.slice a len cap] w fun e w' => e = .returned (.tuple #[.int .u64 (esc l).1, .bool (esc l).2]) ∧ Below w.heap.size w w' := by
  have H := escape_any a len cap l ev w h hv hev
  clear hv
  generalize esc l = r at H ⊢
  obtain ⟨u, ok⟩ := r
  go_enter Tryd.func9, Tryd.ntmps9
  go_wp2_with fail
  refine H.mono ?_
  rintro e w2 ⟨rfl, hbel⟩
  clear H
  go_wp2
  go_ret2
  exact ⟨rfl, hbel⟩

/-- What the model's digit hands back. -/
def hexRes (o : Option Nat) : Value :=
  match o with
  | some d => .tuple #[.int .u64 (d : Int), .bool true]
  | none => .tuple #[.int .u64 0, .bool false]

theorem tuple_eq {a b : Int} {x : Bool} (h : a = b) : Ending.returned (.tuple #[.int .u64 a, .bool x]) = .returned (.tuple #[.int .u64 b, .bool x]) := by rw [h]

theorem hexVal_any (c : UInt8) (w : World) :
    Calls Tryd.prog 20 #[.int .u8 (c.toNat : Int)] w fun e w' => e = .returned (hexRes (hexv c)) ∧ w' = w := by
  have hc256 : c.toNat < 256 := c.toNat_lt
  by_cases hdig : 48 ≤ c.toNat ∧ c.toNat ≤ 57
  · rw [hexv_dig hdig]
    obtain ⟨h0, h1⟩ := hdig
    go_enter Tryd.func20, Tryd.ntmps20
    go_wp2
    go_ret2
    exact ⟨tuple_eq (by show (c.toNat : Int) - 48 = ((c.toNat - 48 : Nat) : Int); omega), rfl⟩
  by_cases hlow : 97 ≤ c.toNat ∧ c.toNat ≤ 102
  · rw [hexv_low hlow]
    obtain ⟨h0, h1⟩ := hlow
    clear hdig
    go_enter Tryd.func20, Tryd.ntmps20
    go_wp2
    go_ret2
    exact ⟨tuple_eq (by show (c.toNat : Int) - 97 + 10 = ((c.toNat - 87 : Nat) : Int); omega), rfl⟩
  by_cases hup : 65 ≤ c.toNat ∧ c.toNat ≤ 70
  · rw [hexv_up hup]
    obtain ⟨h0, h1⟩ := hup
    clear hdig hlow
    go_enter Tryd.func20, Tryd.ntmps20
    go_wp2
    go_ret2
    exact ⟨tuple_eq (by show (c.toNat : Int) - 65 + 10 = ((c.toNat - 55 : Nat) : Int); omega), rfl⟩
  · rw [hexv_none hdig hlow hup]
    have k1 : ¬ (48 ≤ (c.toNat : Int) ∧ (c.toNat : Int) ≤ 57) := by omega
    have k2 : ¬ (97 ≤ (c.toNat : Int) ∧ (c.toNat : Int) ≤ 102) := by omega
    have k3 : ¬ (65 ≤ (c.toNat : Int) ∧ (c.toNat : Int) ≤ 70) := by omega
    clear hdig hlow hup
    go_enter Tryd.func20, Tryd.ntmps20
    go_wp2
    all_goals
      go_ret2
      exact ⟨rfl, rfl⟩

end Go.Proofs.Qxb6605688aDoor
