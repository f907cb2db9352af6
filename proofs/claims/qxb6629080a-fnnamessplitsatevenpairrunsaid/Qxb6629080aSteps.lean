/-
  THE WALKS of the callees.
-/
import Derived.Test.Qxb6629080aRows
import Derived.Test.Qxb6629080aPlain
import Derived.WalkKit
import Derived.WalkSpells
import Derived.WalkLawsBesides
import Derived.RegionTactic
import Derived.BigRegion
import Derived.ChangeAlike
import Derived.Deep.QuietTactic
import Derived.BigQuiet
namespace Go.Proofs.Qxb6629080a
open Go.RowKit
set_option linter.unusedVariables false
set_option linter.unusedSimpArgs false

theorem ret_int {k : IntKind} {a b : Int} (h : a = b) : Ending.returned (.int k a) = .returned (.int k b) := by rw [h]
theorem ret_bool {a b : Bool} (h : a = b) : Ending.returned (.bool a) = .returned (.bool b) := by rw [h]

/-- The cells of one argument at ⟨b, o⟩. -/
structure CellsAt (w : World) (b o : Nat) (p : Par) : Prop where
  name : w.cell? ⟨b, o, none⟩ = some (.string p.name)
  ty : w.cell? ⟨b, o + 1, none⟩ = some (.string p.ty)
  req : w.cell? ⟨b, o + 2, none⟩ = some (.bool p.req)
  paired : w.cell? ⟨b, o + 3, none⟩ = some (.bool p.paired)
  opt : w.cell? ⟨b, o + 4, none⟩ = some (.bool p.opt)
  framing : w.cell? ⟨b, o + 5, none⟩ = some (.bool p.framing)

/-- A slice of len arguments holds ps in w. -/
def PRow (w : World) (a : Option Addr) (len : Nat) (ps : List Par) : Prop :=
  ps.length = len ∧ (0 < len → ∃ b off, a = some ⟨b, off, none⟩ ∧ b < w.heap.size ∧ ∀ i, i < len → CellsAt w b (off + i * 6) (ps.getD i blank))

/-- No text is longer than 2^20. -/
def Short (ps : List Par) : Prop := ∀ p ∈ ps, p.name.size ≤ 1048576 ∧ p.ty.size ≤ 1048576

set_option maxHeartbeats 1000000 in
theorem paramsBytes_any (a : Option Addr) (len cap : Nat) (ps : List Par) (w : World) (hr : PRow w a len ps) (hlen : len ≤ 16384) (hs : Short ps) :
    Calls Try.prog 6 #[.slice a len cap] w fun e w' => ∃ t : Nat, e = .returned (.int .i64 t) ∧ t ≤ 4194304 ∧ ∃ n, w' = w.drewN n := by
  go_enter Try.func6, Try.ntmps6
  go_wp2
  go_loopw [3, 4] (fun t i wr => ∃ k s : Nat, k ≤ len ∧ i = .int .i64 k ∧ t = .int .i64 s ∧ s ≤ 1048576 ∧ ∃ n, wr = w.drewN n) (fun _ i _ => len - (intOf i).toNat)
  case atStart => exact ⟨0, 0, Nat.zero_le _, rfl, rfl, Nat.zero_le _, 0, rfl⟩
  case round =>
    obtain ⟨k, s, hk, rfl, rfl, hs1, n, rfl⟩ := hrel
    by_cases hlt : k < len
    · obtain ⟨b, off, rfl, hb, hc⟩ := hr.2 (by omega)
      have c := hc k hlt
      have c0 := c.name
      have c1 := c.ty
      have hm : ps.getD k blank ∈ ps := by
        have : k < ps.length := by rw [hr.1]; exact hlt
        rw [List.getD_eq_getElem?_getD, List.getElem?_eq_getElem this]
        exact List.getElem_mem this
      have hs2 := hs _ hm
      generalize ps.getD k blank = p at c0 c1 hs2
      obtain ⟨hn, ht⟩ := hs2
      clear hc c hs hr hm
      go_wp2
      go_quiet (fail)
      go_wp2
      · go_ret
        exact ⟨s + (64 + p.name.size + p.ty.size), ret_int (by omega), by omega, n + nq, by simp [World.drewN]⟩
      · go_roundw
        case rel => exact ⟨k + 1, s + (64 + p.name.size + p.ty.size), by omega, by go_num, by go_num, by omega, n + nq, by simp [World.drewN]⟩
        case measure => simp [intOf]; omega
    · go_wp2
      go_ret
      exact ⟨s, rfl, by omega, n, rfl⟩
/-- A bool comes back; the world is the old one; where it is true Q holds. -/
def BoolOut (w w' : World) (e : Ending) (Q : Prop) : Prop := ∃ r, e = .returned (.bool r) ∧ w' = w ∧ (r = true → Q)
/-- The first k arguments are short. -/
def ShortTo (ps : List Par) (k : Nat) : Prop := ∀ i, i < k → (ps.getD i blank).name.size ≤ 1048576 ∧ (ps.getD i blank).ty.size ≤ 1048576
theorem short_of {ps : List Par} (h : ShortTo ps ps.length) : Short ps := by
  intro p hp
  obtain ⟨i, hi, rfl⟩ := List.getElem_of_mem hp
  have := h i hi
  rw [List.getD_eq_getElem?_getD, List.getElem?_eq_getElem hi] at this
  exact this
theorem ShortTo.succ {ps : List Par} {k : Nat} (h : ShortTo ps k) {n t : Nat} (hn : (ps.getD k blank).name.size = n) (ht : (ps.getD k blank).ty.size = t) (h1 : n ≤ 1048576) (h2 : t ≤ 1048576) : ShortTo ps (k + 1) := by
  intro i hi
  by_cases e : i = k
  · subst e; omega
  · exact h i (by omega)

set_option maxHeartbeats 2000000 in
theorem bytes1_any (nm sm : ByteArray) (a : Option Addr) (len cap : Nat) (ps : List Par) (b1 b2 b3 b4 : Bool) (w : World) (hr : PRow w a len ps) (hnm : nm.size ≤ maxLen) (hsm : sm.size ≤ maxLen) (hlen : len ≤ maxLen) :
    Calls Try.prog 5 #[.string nm, .string sm, .slice a len cap, .bool b1, .bool b2, .bool b3, .bool b4] w fun e w' => BoolOut w w' e (Short ps ∧ nm.size ≤ 1048576 ∧ sm.size ≤ 1048576) := by
  unfold maxLen at hnm hsm hlen
  have HR : Hid (PRow w a len ps) := hr
  clear hr
  by_cases g1 : 1048576 < nm.size
  · go_enter Try.func5, Try.ntmps5
    go_wp2
    go_ret
    exact ⟨false, rfl, rfl, fun h => by cases h⟩
  by_cases g2 : 1048576 < sm.size
  · go_enter Try.func5, Try.ntmps5
    go_wp2
    go_ret
    exact ⟨false, rfl, rfl, fun h => by cases h⟩
  by_cases g3 : 1048576 < nm.size + sm.size
  · go_enter Try.func5, Try.ntmps5
    go_wp2
    go_ret
    exact ⟨false, rfl, rfl, fun h => by cases h⟩
  by_cases g4 : 1048576 < len
  · go_enter Try.func5, Try.ntmps5
    go_wp2
    go_ret
    exact ⟨false, rfl, rfl, fun h => by cases h⟩
  by_cases g5 : 1048576 < nm.size + sm.size + len
  · go_enter Try.func5, Try.ntmps5
    go_wp2
    go_ret
    exact ⟨false, rfl, rfl, fun h => by cases h⟩
  go_enter Try.func5, Try.ntmps5
  go_wp2
  go_loop [15, 16] (fun t i => ∃ k s : Nat, k ≤ len ∧ i = .int .i64 k ∧ t = .int .i64 s ∧ s ≤ 1048576 ∧ ShortTo ps k) (fun _ i => len - (intOf i).toNat)
  case atStart => exact ⟨0, nm.size + sm.size + len, Nat.zero_le _, rfl, by go_num, by omega, fun i hi => by omega⟩
  case round =>
    obtain ⟨k, s, hk, rfl, rfl, hs1, hsh⟩ := hrel
    have HS : Hid (ShortTo ps k) := hsh
    clear hsh
    by_cases hlt : k < len
    · obtain ⟨b, off, rfl, hb, hc⟩ := HR.out.2 (by omega)
      have c := hc k hlt
      have c0 := c.name
      have c1 := c.ty
      obtain ⟨x, hx⟩ : ∃ x, (ps.getD k blank).name = x := ⟨_, rfl⟩
      obtain ⟨y, hy⟩ : ∃ y, (ps.getD k blank).ty = y := ⟨_, rfl⟩
      rw [hx] at c0
      rw [hy] at c1
      have HX : Hid ((ps.getD k blank).name = x ∧ (ps.getD k blank).ty = y) := ⟨hx, hy⟩
      clear hx hy c hc
      by_cases d1 : 1048576 < x.size
      · go_wp2
        go_ret
        exact ⟨false, rfl, rfl, fun h => by cases h⟩
      by_cases d2 : 1048576 < s + x.size
      · go_wp2
        go_ret
        exact ⟨false, rfl, rfl, fun h => by cases h⟩
      by_cases d3 : 1048576 < y.size
      · go_wp2
        go_ret
        exact ⟨false, rfl, rfl, fun h => by cases h⟩
      by_cases d4 : 1048576 < s + x.size + y.size
      · go_wp2
        go_ret
        exact ⟨false, rfl, rfl, fun h => by cases h⟩
      go_wp2
      go_round
      case rel => exact ⟨k + 1, s + x.size + y.size, by omega, by go_num, by go_num, by omega, HS.out.succ (by rw [HX.out.1]) (by rw [HX.out.2]) (by omega) (by omega)⟩
      case measure => simp [intOf]; omega
    · have hke : Hid (k = ps.length) := by show k = ps.length; rw [HR.out.1]; omega
      go_wp2
      go_ret
      exact ⟨true, rfl, rfl, fun _ => ⟨short_of (by rw [← hke.out]; exact HS.out), by omega, by omega⟩⟩
end Go.Proofs.Qxb6629080a
