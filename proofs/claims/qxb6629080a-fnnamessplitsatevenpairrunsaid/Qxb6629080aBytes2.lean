/-
  THE WALK of zzBytes_FnNamesSplitsAtEvenPairRun.
-/
import Derived.Test.Qxb6629080aNames
namespace Go.Proofs.Qxb6629080a
open Go.RowKit
set_option linter.unusedVariables false
set_option linter.unusedSimpArgs false

set_option maxHeartbeats 4000000 in
theorem bytes2_any (a : Option Addr) (len cap : Nat) (ps : List Par) (a' : Option Addr) (len' cap' : Nat) (qs : List Par) (w : World) (hr : PRow w a len ps) (hr' : PRow w a' len' qs) (hlen : len ≤ maxLen) (hlen' : len' ≤ maxLen) :
    Calls Try.prog 9 #[.slice a len cap, .slice a' len' cap'] w fun e w' => BoolOut w w' e (Short ps ∧ Short qs) := by
  unfold maxLen at hlen hlen'
  have HR : Hid (PRow w a len ps) := hr
  have HQ : Hid (PRow w a' len' qs) := hr'
  clear hr hr'
  by_cases g4 : 1048576 < len
  · go_enter Try.func9, Try.ntmps9
    go_wp2
    go_ret
    exact ⟨false, rfl, rfl, fun h => by cases h⟩
  go_enter Try.func9, Try.ntmps9
  go_wp2
  go_loop [5, 6] (fun t i => ∃ k s : Nat, k ≤ len ∧ i = .int .i64 k ∧ t = .int .i64 s ∧ s ≤ 1048576 ∧ ShortTo ps k) (fun _ i => len - (intOf i).toNat)
  case atStart => exact ⟨0, len, Nat.zero_le _, rfl, by go_num, by omega, fun i hi => by omega⟩
  case round =>
    obtain ⟨k, s, hk, rfl, rfl, hs1, hsh⟩ := hrel
    have HS : Hid (ShortTo ps k) := hsh
    clear hsh
    by_cases hlt : k < len
    · obtain ⟨b, off, rfl, hb, hc⟩ := HR.out.2 (by omega)
      have c := hc k hlt
      have c0 := c.name
      have c1 := c.ty
      obtain ⟨x, hx⟩ : ∃ x, (ps.getD k blank).name = x := ⟨_, rfl⟩
      obtain ⟨y, hy⟩ : ∃ y, (ps.getD k blank).ty = y := ⟨_, rfl⟩
      rw [hx] at c0
      rw [hy] at c1
      have HX : Hid ((ps.getD k blank).name = x ∧ (ps.getD k blank).ty = y) := ⟨hx, hy⟩
      clear hx hy c hc
      by_cases d1 : 1048576 < x.size
      · go_wp2
        go_ret
        exact ⟨false, rfl, rfl, fun h => by cases h⟩
      by_cases d2 : 1048576 < s + x.size
      · go_wp2
        go_ret
        exact ⟨false, rfl, rfl, fun h => by cases h⟩
      by_cases d3 : 1048576 < y.size
      · go_wp2
        go_ret
        exact ⟨false, rfl, rfl, fun h => by cases h⟩
      by_cases d4 : 1048576 < s + x.size + y.size
      · go_wp2
        go_ret
        exact ⟨false, rfl, rfl, fun h => by cases h⟩
      go_wp2
      go_round
      case rel => exact ⟨k + 1, s + x.size + y.size, by omega, by go_num, by go_num, by omega, HS.out.succ (by rw [HX.out.1]) (by rw [HX.out.2]) (by omega) (by omega)⟩
      case measure => simp [intOf]; omega
    · have hke : Hid (k = ps.length) := by show k = ps.length; rw [HR.out.1]; omega
      have HP : Hid (Short ps) := short_of (by rw [← hke.out]; exact HS.out)
      clear hke HS
      by_cases e1 : 1048576 < len'
      · go_wp2
        go_ret
        exact ⟨false, rfl, rfl, fun h => by cases h⟩
      by_cases e2 : 1048576 < s + len'
      · go_wp2
        go_ret
        exact ⟨false, rfl, rfl, fun h => by cases h⟩
      go_wp2
      go_loop [5, 7] (fun t i => ∃ k s : Nat, k ≤ len' ∧ i = .int .i64 k ∧ t = .int .i64 s ∧ s ≤ 1048576 ∧ ShortTo qs k) (fun _ i => len' - (intOf i).toNat)
      case atStart => exact ⟨0, s + len', Nat.zero_le _, rfl, by go_num, by omega, fun i hi => by omega⟩
      case round =>
        obtain ⟨k2, s2, hk2, rfl, rfl, hs2, hsh⟩ := hrel
        have HS : Hid (ShortTo qs k2) := hsh
        clear hsh
        by_cases hlt2 : k2 < len'
        · obtain ⟨b, off, rfl, hb, hc⟩ := HQ.out.2 (by omega)
          have c := hc k2 hlt2
          have c0 := c.name
          have c1 := c.ty
          obtain ⟨x, hx⟩ : ∃ x, (qs.getD k2 blank).name = x := ⟨_, rfl⟩
          obtain ⟨y, hy⟩ : ∃ y, (qs.getD k2 blank).ty = y := ⟨_, rfl⟩
          rw [hx] at c0
          rw [hy] at c1
          have HX : Hid ((qs.getD k2 blank).name = x ∧ (qs.getD k2 blank).ty = y) := ⟨hx, hy⟩
          clear hx hy c hc
          by_cases d1 : 1048576 < x.size
          · go_wp2
            go_ret
            exact ⟨false, rfl, rfl, fun h => by cases h⟩
          by_cases d2 : 1048576 < s2 + x.size
          · go_wp2
            go_ret
            exact ⟨false, rfl, rfl, fun h => by cases h⟩
          by_cases d3 : 1048576 < y.size
          · go_wp2
            go_ret
            exact ⟨false, rfl, rfl, fun h => by cases h⟩
          by_cases d4 : 1048576 < s2 + x.size + y.size
          · go_wp2
            go_ret
            exact ⟨false, rfl, rfl, fun h => by cases h⟩
          go_wp2
          go_round
          case rel => exact ⟨k2 + 1, s2 + x.size + y.size, by omega, by go_num, by go_num, by omega, HS.out.succ (by rw [HX.out.1]) (by rw [HX.out.2]) (by omega) (by omega)⟩
          case measure => simp [intOf]; omega
        · have hke : Hid (k2 = qs.length) := by show k2 = qs.length; rw [HQ.out.1]; omega
          go_wp2
          go_ret
          exact ⟨true, rfl, rfl, fun _ => ⟨HP.out, short_of (by rw [← hke.out]; exact HS.out)⟩⟩
end Go.Proofs.Qxb6629080a
