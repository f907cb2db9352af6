/-
  THE WALKS of sameFloat, isLeastOf, isGreatestOf.
-/
import Derived.Test.Qxb6629104aRows
import Derived.Test.Qxb6629104aMean
import Derived.WalkKit
import Derived.WalkSpells
import Derived.WalkLawsBesides
import Derived.Deep.QuietTactic
import Derived.BigQuiet
namespace Go.Proofs.Qxb6629104a
open Go.RowKit
set_option linter.unusedVariables false
set_option linter.unusedSimpArgs false

theorem ret_bool {a b : Bool} (h : a = b) : Ending.returned (.bool a) = .returned (.bool b) := by rw [h]

theorem quo_pos (w : World) : (binOp .quo 24 (.float .f64 4607182418800017408) (.float .f64 0)).run Try.prog w = .ok (.float .f64 9218868437227405312) w := run_float_arith w .quo 24 .f64 _ _ _ (by decide +kernel)
theorem quo_neg (w : World) : (binOp .quo 24 (.float .f64 4607182418800017408) (.float .f64 9223372036854775808)).run Try.prog w = .ok (.float .f64 18442240474082181120) w := run_float_arith w .quo 24 .f64 _ _ _ (by decide +kernel)
theorem pos_lt : (FloatKind.f64.format.order 9218868437227405312 0 == some .lt) = false := by decide +kernel
theorem neg_lt : (FloatKind.f64.format.order 18442240474082181120 0 == some .lt) = true := by decide +kernel
theorem pos_gt : (FloatKind.f64.format.order 9218868437227405312 0 == some .gt) = true := by decide +kernel
theorem neg_gt : (FloatKind.f64.format.order 18442240474082181120 0 == some .gt) = false := by decide +kernel
theorem nan_zero : isN 0 = false := by decide
theorem key_of_zero : key 0 = 0 := by decide

/-- 1 over a zero tells its sign. -/
theorem recip (x : Nat) (hx : x < 18446744073709551616) (hr : rung x = 0) : ∃ Y, (∀ w, (binOp .quo 24 (.float .f64 4607182418800017408) (.float .f64 x)).run Try.prog w = .ok (.float .f64 Y) w) ∧ (FloatKind.f64.format.order Y 0 == some .lt) = sgn x ∧ (FloatKind.f64.format.order Y 0 == some .gt) = !sgn x := by
  have h := zero_word x hx hr
  cases hs : sgn x
  · rw [hs] at h
    have h0 : x = 0 := h
    subst h0
    exact ⟨_, quo_pos, pos_lt, pos_gt⟩
  · rw [hs] at h
    have h0 : x = 9223372036854775808 := h
    subst h0
    exact ⟨_, quo_neg, neg_lt, neg_gt⟩

def sameB (x y : Nat) : Bool := if isN x || isN y then isN x && isN y else decide (okey x = okey y)

set_option maxHeartbeats 1000000 in
theorem same_any (x y : Nat) (hx : x < 18446744073709551616) (hy : y < 18446744073709551616) (w : World) :
    Calls Try.prog 8 #[.float .f64 x, .float .f64 y] w fun e w' => e = .returned (.bool (sameB x y)) ∧ w' = w := by
  have n1 := self_neq x
  have n2 := self_neq y
  unfold sameB
  cases hnx : isN x
  · cases hny : isN y
    · rw [hnx] at n1
      rw [hny] at n2
      have n3 := c_neq x y hnx hny
      have n4 := c_eql x 0 hnx nan_zero
      have oe := okey_eq x y hnx hny
      rw [key_of_zero] at n4
      by_cases h1 : key x = key y
      · rw [decide_eq_true h1] at n3
        by_cases h2 : key x = 0
        · obtain ⟨X, qx, lx, _⟩ := recip x hx ((key_zero x hnx).1 h2)
          obtain ⟨Y, qy, ly, _⟩ := recip y hy ((key_zero y hny).1 (by omega))
          rw [decide_eq_true h2] at n4
          have E : Hid (okey x = okey y ↔ sgn x = sgn y) := ⟨fun h => (oe.1 h).2 h2, fun h => oe.2 ⟨h1, fun _ => h⟩⟩
          clear oe h1 h2
          generalize sgn x = sx at lx E
          generalize sgn y = sy at ly E
          go_enter Try.func8, Try.ntmps8
          go_wp2
          go_ret
          refine ⟨ret_bool ?_, rfl⟩
          have e := E.out
          by_cases h : sx = sy <;> simp [e, h]
        · rw [decide_eq_false h2] at n4
          have E : Hid (okey x = okey y) := oe.2 ⟨h1, fun h => absurd h h2⟩
          clear oe h1 h2
          go_enter Try.func8, Try.ntmps8
          go_wp2
          go_ret
          exact ⟨ret_bool (by simp [E.out]), rfl⟩
      · rw [decide_eq_false h1] at n3
        have E : Hid (¬ okey x = okey y) := fun h => h1 (oe.1 h).1
        clear oe h1 n4
        go_enter Try.func8, Try.ntmps8
        go_wp2
        go_ret
        exact ⟨ret_bool (by simp [E.out]), rfl⟩
    · rw [hnx] at n1
      rw [hny] at n2
      go_enter Try.func8, Try.ntmps8
      go_wp2
      go_ret
      exact ⟨ret_bool (by simp), rfl⟩
  · rw [hnx] at n1
    go_enter Try.func8, Try.ntmps8
    go_wp2
    go_ret
    exact ⟨ret_bool (by simp), rfl⟩

/-- A slice of len floats holds xs in w. -/
def FRow (w : World) (a : Option Addr) (len : Nat) (xs : List Nat) : Prop :=
  xs.length = len ∧ (∀ x ∈ xs, x < 18446744073709551616) ∧ (0 < len → ∃ b off, a = some ⟨b, off, none⟩ ∧ b < w.heap.size ∧ ∀ i, i < len → w.cell? ⟨b, off + i, none⟩ = some (.float .f64 (xs.getD i 0)))

def foundTo (r : Nat) (xs : List Nat) (k : Nat) : Bool := (xs.take k).any fun x => decide (okey x = okey r)
theorem foundTo_succ (r : Nat) (xs : List Nat) (k : Nat) (hk : k < xs.length) : foundTo r xs (k + 1) = (foundTo r xs k || decide (okey (xs.getD k 0) = okey r)) := by
  have e : xs.getD k 0 = xs[k] := by simp [List.getD_eq_getElem?_getD, hk]
  unfold foundTo
  rw [List.take_succ_eq_append_getElem hk, List.any_append, e]
  simp
theorem foundTo_end (r : Nat) (xs : List Nat) (k : Nat) (hk : xs.length ≤ k) (h : ∃ x ∈ xs, okey x = okey r) : foundTo r xs k = true := by
  unfold foundTo
  rw [List.take_of_length_le hk, List.any_eq_true]
  obtain ⟨x, hx, e⟩ := h
  exact ⟨x, hx, by simp [e]⟩
theorem getD_mem {xs : List Nat} {k : Nat} (hk : k < xs.length) : xs.getD k 0 ∈ xs := by
  have e : xs.getD k 0 = xs[k] := by simp [List.getD_eq_getElem?_getD, hk]
  rw [e]; exact List.getElem_mem hk

set_option maxHeartbeats 2000000 in
theorem least_any (r : Nat) (a : Option Addr) (len cap : Nat) (xs : List Nat) (w : World) (hr : FRow w a len xs) (hlen : len ≤ 1048576) (hL : Least r xs) :
    Calls Try.prog 7 #[.float .f64 r, .slice a len cap] w fun e w' => e = .returned (.bool true) ∧ ∃ n, w' = w.drewN n := by
  have HR : Hid (FRow w a len xs) := hr
  have HL : Hid (Least r xs) := hL
  clear hr hL
  go_enter Try.func7, Try.ntmps7
  go_wp2
  go_loopw [5] (fun i wr => ∃ k n : Nat, k ≤ len ∧ i = .int .i64 k ∧ (∀ i, i < k → isN (xs.getD i 0) = false) ∧ wr = w.drewN n) (fun i _ => len - (intOf i).toNat)
  case atStart => exact ⟨0, 0, Nat.zero_le _, rfl, fun i hi => by omega, rfl⟩
  case round =>
    obtain ⟨k, n, hk, rfl, hno, rfl⟩ := hrel
    have HN : Hid (∀ i, i < k → isN (xs.getD i 0) = false) := hno
    clear hno
    by_cases hlt : k < len
    · obtain ⟨b, off, rfl, hb, hc⟩ := HR.out.2.2 (by omega)
      have c := hc k hlt
      clear hc
      have hm : xs.getD k 0 ∈ xs := getD_mem (by rw [HR.out.1]; exact hlt)
      have nx := self_neq (xs.getD k 0)
      cases hnx : isN (xs.getD k 0)
      · rw [hnx] at nx
        have HX : Hid (isN (xs.getD k 0) = false) := hnx
        clear hnx hm
        generalize xs.getD k 0 = x at c nx
        go_wp2
        go_quiet (fail)
        go_wp2
        go_roundw
        case rel => exact ⟨k + 1, n + nq, by omega, by go_num, fun i hi => by
          by_cases e : i = k
          · rw [e]; exact HX.out
          · exact HN.out i (by omega), by simp [World.drewN]⟩
        case measure => simp [intOf]; omega
      · rw [hnx] at nx
        have hrn := HL.out.nan ⟨_, hm, hnx⟩
        have n0 := self_neq r
        rw [hrn] at n0
        clear hnx hm hrn
        generalize xs.getD k 0 = x at c nx
        go_wp2
        go_quiet (fail)
        go_wp2
        go_ret
        exact ⟨rfl, n + nq, by simp [World.drewN]⟩
    · have hge : ¬ (k : Int) < len := by omega
      obtain ⟨hrn, hex, hall⟩ := HL.out.num (fun x hx => by
        obtain ⟨i, hi, rfl⟩ := List.getElem_of_mem hx
        have := HN.out i (by have := HR.out.1; omega)
        rw [List.getD_eq_getElem?_getD, List.getElem?_eq_getElem hi] at this
        exact this)
      obtain ⟨wd, hwd⟩ : ∃ wd, wd = w.drewN n := ⟨_, rfl⟩
      have FW : Hid (FRow wd a len xs) := by rw [hwd]; exact HR.out
      have HW : Hid (wd = w.drewN n) := hwd
      rw [← hwd]
      have HALL : Hid (∀ x ∈ xs, okey r ≤ okey x) := hall
      have HEX : Hid (∃ x ∈ xs, okey x = okey r) := hex
      have HF : Hid (r < 18446744073709551616) := HL.out.fits
      have HNO : Hid (∀ x ∈ xs, isN x = false) := all_of HL.out hrn
      have HRN : Hid (isN r = false) := hrn
      clear hall hex HN HL HR hrn hwd
      go_wp2
      go_loop [6, 7] (fun f i => ∃ k : Nat, k ≤ len ∧ i = .int .i64 k ∧ f = .bool (foundTo r xs k)) (fun _ i => len - (intOf i).toNat)
      case atStart => exact ⟨0, Nat.zero_le _, rfl, by simp [foundTo]⟩
      case round =>
        obtain ⟨q, hq, rfl, rfl⟩ := hrel
        by_cases hlt2 : q < len
        · obtain ⟨b, off, rfl, hb, hc⟩ := FW.out.2.2 (by omega)
          have c := hc q hlt2
          have hql : q < xs.length := by rw [FW.out.1]; exact hlt2
          have hm : xs.getD q 0 ∈ xs := getD_mem hql
          have hsucc := foundTo_succ r xs q hql
          have hx := FW.out.2.1 _ hm
          have hnx := HNO.out _ hm
          have hle := HALL.out _ hm
          clear hc hql hm
          generalize xs.getD q 0 = x at *
          have hD0 : sameB x r = decide (okey x = okey r) := by unfold sameB; rw [hnx, HRN.out]; rfl
          rw [← hD0] at hsucc
          have HSU : Hid (foundTo r xs (q + 1) = (foundTo r xs q || sameB x r)) := hsucc
          have hnlt : ¬ key x < key r := fun h => by
            have := (okey_lt x r hnx HRN.out).2 (.inl h)
            omega
          have lt0 := c_lss x r hnx HRN.out
          rw [decide_eq_false hnlt] at lt0
          have e0 := c_eql x 0 hnx nan_zero
          have r0 := c_eql r 0 HRN.out nan_zero
          rw [key_of_zero] at e0 r0
          have hch : (FloatKind.f64.format.order x 0 == some .eq) = false ∨ ((FloatKind.f64.format.order x 0 == some .eq) = true ∧ (FloatKind.f64.format.order r 0 == some .eq) = false) ∨
              (∃ X, (FloatKind.f64.format.order x 0 == some .eq) = true ∧ (FloatKind.f64.format.order r 0 == some .eq) = true ∧ (∀ w, (binOp .quo 24 (.float .f64 4607182418800017408) (.float .f64 x)).run Try.prog w = .ok (.float .f64 X) w) ∧ (FloatKind.f64.format.order X 0 == some .lt) = false) ∨
              (∃ X R, (FloatKind.f64.format.order x 0 == some .eq) = true ∧ (FloatKind.f64.format.order r 0 == some .eq) = true ∧ (∀ w, (binOp .quo 24 (.float .f64 4607182418800017408) (.float .f64 x)).run Try.prog w = .ok (.float .f64 X) w) ∧ (FloatKind.f64.format.order X 0 == some .lt) = true ∧ (∀ w, (binOp .quo 24 (.float .f64 4607182418800017408) (.float .f64 r)).run Try.prog w = .ok (.float .f64 R) w) ∧ (FloatKind.f64.format.order R 0 == some .gt) = false) := by
            by_cases z1 : key x = 0
            · rw [decide_eq_true z1] at e0
              by_cases z2 : key r = 0
              · rw [decide_eq_true z2] at r0
                obtain ⟨X, qx, lx, _⟩ := recip x hx ((key_zero x hnx).1 z1)
                obtain ⟨R, qr, _, gr⟩ := recip r HF.out ((key_zero r HRN.out).1 z2)
                cases hs : sgn x
                · rw [hs] at lx
                  exact .inr (.inr (.inl ⟨X, e0, r0, qx, lx⟩))
                · rw [hs] at lx
                  have hsr : sgn r = true := by
                    cases hs2 : sgn r
                    · have := (okey_lt x r hnx HRN.out).2 (.inr ⟨z1, z2, hs, hs2⟩)
                      omega
                    · rfl
                  rw [hsr] at gr
                  exact .inr (.inr (.inr ⟨X, R, e0, r0, qx, lx, qr, gr⟩))
              · rw [decide_eq_false z2] at r0
                exact .inr (.inl ⟨e0, r0⟩)
            · rw [decide_eq_false z1] at e0
              exact .inl e0
          have HX : Hid (x < 18446744073709551616) := hx
          clear e0 r0 hnlt hle hsucc hD0 hnx hx
          rcases hch with e0 | ⟨e0, r0⟩ | ⟨X, e0, r0, qx, lx⟩ | ⟨X, R, e0, r0, qx, lx, qr, gr⟩
          all_goals
            cases hD : sameB x r
            all_goals
              go_wp2_with fail
              refine (same_any x r HX.out HF.out _).mono ?_
              rintro e w' ⟨rfl, rfl⟩
              rw [hD]
              go_wp2
              go_round
              case rel => exact ⟨q + 1, by omega, by go_num, by rw [HSU.out, hD]; simp⟩
              case measure => simp [intOf]; omega
        · have hge2 : ¬ (q : Int) < len := by omega
          have hfe := foundTo_end r xs q (by rw [FW.out.1]; omega) HEX.out
          go_wp2
          go_ret
          exact ⟨rfl, n, HW.out⟩
theorem all_ofG {s : Nat} {xs : List Nat} (h : Greatest s xs) (hs : isN s = false) : ∀ x ∈ xs, isN x = false := by
  intro x hx
  cases e : isN x
  · rfl
  · rw [h.nan ⟨x, hx, e⟩] at hs; cases hs

set_option maxHeartbeats 2000000 in
theorem greatest_any (r : Nat) (a : Option Addr) (len cap : Nat) (xs : List Nat) (w : World) (hr : FRow w a len xs) (hlen : len ≤ 1048576) (hL : Greatest r xs) :
    Calls Try.prog 10 #[.float .f64 r, .slice a len cap] w fun e w' => e = .returned (.bool true) ∧ ∃ n, w' = w.drewN n := by
  have HR : Hid (FRow w a len xs) := hr
  have HL : Hid (Greatest r xs) := hL
  clear hr hL
  go_enter Try.func10, Try.ntmps10
  go_wp2
  go_loopw [5] (fun i wr => ∃ k n : Nat, k ≤ len ∧ i = .int .i64 k ∧ (∀ i, i < k → isN (xs.getD i 0) = false) ∧ wr = w.drewN n) (fun i _ => len - (intOf i).toNat)
  case atStart => exact ⟨0, 0, Nat.zero_le _, rfl, fun i hi => by omega, rfl⟩
  case round =>
    obtain ⟨k, n, hk, rfl, hno, rfl⟩ := hrel
    have HN : Hid (∀ i, i < k → isN (xs.getD i 0) = false) := hno
    clear hno
    by_cases hlt : k < len
    · obtain ⟨b, off, rfl, hb, hc⟩ := HR.out.2.2 (by omega)
      have c := hc k hlt
      clear hc
      have hm : xs.getD k 0 ∈ xs := getD_mem (by rw [HR.out.1]; exact hlt)
      have nx := self_neq (xs.getD k 0)
      cases hnx : isN (xs.getD k 0)
      · rw [hnx] at nx
        have HX : Hid (isN (xs.getD k 0) = false) := hnx
        clear hnx hm
        generalize xs.getD k 0 = x at c nx
        go_wp2
        go_quiet (fail)
        go_wp2
        go_roundw
        case rel => exact ⟨k + 1, n + nq, by omega, by go_num, fun i hi => by
          by_cases e : i = k
          · rw [e]; exact HX.out
          · exact HN.out i (by omega), by simp [World.drewN]⟩
        case measure => simp [intOf]; omega
      · rw [hnx] at nx
        have hrn := HL.out.nan ⟨_, hm, hnx⟩
        have n0 := self_neq r
        rw [hrn] at n0
        clear hnx hm hrn
        generalize xs.getD k 0 = x at c nx
        go_wp2
        go_quiet (fail)
        go_wp2
        go_ret
        exact ⟨rfl, n + nq, by simp [World.drewN]⟩
    · have hge : ¬ (k : Int) < len := by omega
      obtain ⟨hrn, hex, hall⟩ := HL.out.num (fun x hx => by
        obtain ⟨i, hi, rfl⟩ := List.getElem_of_mem hx
        have := HN.out i (by have := HR.out.1; omega)
        rw [List.getD_eq_getElem?_getD, List.getElem?_eq_getElem hi] at this
        exact this)
      obtain ⟨wd, hwd⟩ : ∃ wd, wd = w.drewN n := ⟨_, rfl⟩
      have FW : Hid (FRow wd a len xs) := by rw [hwd]; exact HR.out
      have HW : Hid (wd = w.drewN n) := hwd
      rw [← hwd]
      have HALL : Hid (∀ x ∈ xs, okey x ≤ okey r) := hall
      have HEX : Hid (∃ x ∈ xs, okey x = okey r) := hex
      have HF : Hid (r < 18446744073709551616) := HL.out.fits
      have HNO : Hid (∀ x ∈ xs, isN x = false) := all_ofG HL.out hrn
      have HRN : Hid (isN r = false) := hrn
      clear hall hex HN HL HR hrn hwd
      go_wp2
      go_loop [6, 7] (fun f i => ∃ k : Nat, k ≤ len ∧ i = .int .i64 k ∧ f = .bool (foundTo r xs k)) (fun _ i => len - (intOf i).toNat)
      case atStart => exact ⟨0, Nat.zero_le _, rfl, by simp [foundTo]⟩
      case round =>
        obtain ⟨q, hq, rfl, rfl⟩ := hrel
        by_cases hlt2 : q < len
        · obtain ⟨b, off, rfl, hb, hc⟩ := FW.out.2.2 (by omega)
          have c := hc q hlt2
          have hql : q < xs.length := by rw [FW.out.1]; exact hlt2
          have hm : xs.getD q 0 ∈ xs := getD_mem hql
          have hsucc := foundTo_succ r xs q hql
          have hx := FW.out.2.1 _ hm
          have hnx := HNO.out _ hm
          have hle := HALL.out _ hm
          clear hc hql hm
          generalize xs.getD q 0 = x at *
          have hD0 : sameB x r = decide (okey x = okey r) := by unfold sameB; rw [hnx, HRN.out]; rfl
          rw [← hD0] at hsucc
          have HSU : Hid (foundTo r xs (q + 1) = (foundTo r xs q || sameB x r)) := hsucc
          have hnlt : ¬ key r < key x := fun h => by
            have := (okey_lt r x HRN.out hnx).2 (.inl h)
            omega
          have lt0 := c_gtr x r hnx HRN.out
          rw [decide_eq_false hnlt] at lt0
          have e0 := c_eql x 0 hnx nan_zero
          have r0 := c_eql r 0 HRN.out nan_zero
          rw [key_of_zero] at e0 r0
          have hch : (FloatKind.f64.format.order x 0 == some .eq) = false ∨ ((FloatKind.f64.format.order x 0 == some .eq) = true ∧ (FloatKind.f64.format.order r 0 == some .eq) = false) ∨
              (∃ X, (FloatKind.f64.format.order x 0 == some .eq) = true ∧ (FloatKind.f64.format.order r 0 == some .eq) = true ∧ (∀ w, (binOp .quo 24 (.float .f64 4607182418800017408) (.float .f64 x)).run Try.prog w = .ok (.float .f64 X) w) ∧ (FloatKind.f64.format.order X 0 == some .gt) = false) ∨
              (∃ X R, (FloatKind.f64.format.order x 0 == some .eq) = true ∧ (FloatKind.f64.format.order r 0 == some .eq) = true ∧ (∀ w, (binOp .quo 24 (.float .f64 4607182418800017408) (.float .f64 x)).run Try.prog w = .ok (.float .f64 X) w) ∧ (FloatKind.f64.format.order X 0 == some .gt) = true ∧ (∀ w, (binOp .quo 24 (.float .f64 4607182418800017408) (.float .f64 r)).run Try.prog w = .ok (.float .f64 R) w) ∧ (FloatKind.f64.format.order R 0 == some .lt) = false) := by
            by_cases z1 : key x = 0
            · rw [decide_eq_true z1] at e0
              by_cases z2 : key r = 0
              · rw [decide_eq_true z2] at r0
                obtain ⟨X, qx, _, lx⟩ := recip x hx ((key_zero x hnx).1 z1)
                obtain ⟨R, qr, gr, _⟩ := recip r HF.out ((key_zero r HRN.out).1 z2)
                cases hs : sgn x
                · rw [hs] at lx
                  have hsr : sgn r = false := by
                    cases hs2 : sgn r
                    · rfl
                    · have := (okey_lt r x HRN.out hnx).2 (.inr ⟨z2, z1, hs2, hs⟩)
                      omega
                  rw [hsr] at gr
                  exact .inr (.inr (.inr ⟨X, R, e0, r0, qx, lx, qr, gr⟩))
                · rw [hs] at lx
                  exact .inr (.inr (.inl ⟨X, e0, r0, qx, lx⟩))
              · rw [decide_eq_false z2] at r0
                exact .inr (.inl ⟨e0, r0⟩)
            · rw [decide_eq_false z1] at e0
              exact .inl e0
          have HX : Hid (x < 18446744073709551616) := hx
          clear e0 r0 hnlt hle hsucc hD0 hnx hx
          rcases hch with e0 | ⟨e0, r0⟩ | ⟨X, e0, r0, qx, lx⟩ | ⟨X, R, e0, r0, qx, lx, qr, gr⟩
          all_goals
            cases hD : sameB x r
            all_goals
              go_wp2_with fail
              refine (same_any x r HX.out HF.out _).mono ?_
              rintro e w' ⟨rfl, rfl⟩
              rw [hD]
              go_wp2
              go_round
              case rel => exact ⟨q + 1, by omega, by go_num, by rw [HSU.out, hD]; simp⟩
              case measure => simp [intOf]; omega
        · have hge2 : ¬ (q : Int) < len := by omega
          have hfe := foundTo_end r xs q (by rw [FW.out.1]; omega) HEX.out
          go_wp2
          go_ret
          exact ⟨rfl, n, HW.out⟩
end Go.Proofs.Qxb6629104a
