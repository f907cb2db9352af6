/-
  FnValueOfNotIsComplement: the walk of the law, and the maps' facts that both laws use.
-/
import Derived.Test.Qxb6629006aSteps
import Derived.Maps.OwnSet
import Derived.ProofKit
import Derived.OpenShut
import Derived.ChangeOld
namespace Go.Proofs.Qxb6629006a
open Go.ChangeShapes Go.WideShapes Go.ChangeAt Go.RowKit Go.Maps Go.WideElems
set_option linter.unusedVariables false
set_option linter.unusedSimpArgs false

/-- THE MAP IN THE WORLD W AND IN EVERY LATER ONE: what a look-up gives; its length. -/
def MapIs (m : Option Nat) (lk : Int → Bool) (n : Nat) (W : World) : Prop :=
  n ≤ maxLen ∧ ∀ w', Below W.heap.size W w' → MapLook m lk w' ∧ ∀ ty, (Builtin.len_ #[24] ty #[.map m]).run Try.prog w' = .ok (.int .i64 n) w'

theorem back64 (v : Nat) (h : v < 18446744073709551616) : IntKind.u64.wrap (wrap64 (v : Int)) = (v : Int) := by
  rw [IntKind.wrap_u64]
  unfold wrap64
  omega

theorem row_own {w : World} {base g len cap : Nat} {ys : List Int} (h : w.ownsRow base 25 1 (.slice (some ⟨g, 0, none⟩) len cap) len (ys.map (.int .i32))) (hl : ys.length = len) (hf : ∀ f ∈ ys, Fits f) : Row w (some ⟨g, 0, none⟩) len ys := by
  refine ⟨hl, hf, fun hp => ⟨g, 0, rfl, (h.lt g rfl).2, fun i hi => ?_⟩⟩
  rw [Nat.zero_add, h.cellAt i (by omega)]
  simp [List.getD_eq_getElem?_getD, hl, hi]

set_option maxHeartbeats 1000000 in
theorem law1 (a : Option Addr) (len cap : Nat) (zs : List Int) (m : Option Nat) (lk : Int → Bool) (n : Nat) (w : World) (hr : Row w a len zs) (hc : len ≤ cap) (hm : cap ≤ maxLen) (hmap : MapIs m lk n w) :
    Calls Try.prog 3 #[.slice a len cap, .map m] w fun e w' => e = .returned (.bool true) ∧ Below w.heap.size w w' := by
  obtain ⟨hn, hmap⟩ := hmap
  have hm0 := hm
  unfold maxLen at hm hn
  by_cases g1 : 65536 < len
  · clear hmap
    go_enter Try.func3, Try.ntmps3
    go_wp2
    go_ret
    exact ⟨rfl, Below.refl _ _⟩
  have hL := (hmap w (Below.refl _ _)).2
  by_cases g2 : 65536 < n
  · clear hmap
    go_enter Try.func3, Try.ntmps3
    go_wp2
    go_ret
    exact ⟨rfl, Below.refl _ _⟩
  have HM : Hid (∀ w', Below w.heap.size w w' → MapLook m lk w' ∧ ∀ ty, (Builtin.len_ #[24] ty #[.map m]).run Try.prog w' = .ok (.int .i64 n) w') := hmap
  clear hmap
  have l0 := (HM.out w (Below.refl _ _)).1 0 (by decide) (by decide)
  cases g3 : lk 0
  · rw [g3] at l0
    have e1 := back64 (val lk zs) (val_lt _ _)
    have e2 := back64 (val lk (zs.map notI)) (val_lt _ _)
    have e3 : ((val lk (zs.map notI) : Int) == bits .xor .u64 (val lk zs : Int) (low len : Int)) = true := by
      rw [u64_xor_nat _ _ (val_lt _ _) (low_lt _), val_not lk g3 zs hr.2.1, hr.1]
      simp
    go_enter Try.func3, Try.ntmps3
    go_wp2_with fail
    refine (value_any a len cap zs m lk w hr hc hm0 (HM.out w (Below.refl _ _)).1).mono ?_
    rintro e w' ⟨rfl, rfl⟩
    go_wp2_with fail
    refine (wnot_any a len cap zs w' hr (by omega)).mono ?_
    rintro e w1 ⟨rfl, hown, hbel⟩
    have hr1 : Row w1 (some ⟨w'.heap.size, 0, none⟩) len (zs.map notI) := row_own hown (by simp [hr.1]) (fun f hf => by obtain ⟨g, hg, rfl⟩ := List.mem_map.1 hf; exact fits_not (hr.2.1 g hg))
    have HB : Hid (Below w'.heap.size w' w1) := hbel
    clear hown hbel
    go_wp2_with fail
    refine (value_any _ len len (zs.map notI) m lk w1 hr1 (Nat.le_refl _) (by unfold maxLen; omega) (HM.out w1 HB.out).1).mono ?_
    rintro e w2 ⟨rfl, rfl⟩
    go_wp2_with fail
    refine (low_any len w2).mono ?_
    rintro e w3 ⟨rfl, rfl⟩
    go_wp2
    go_ret
    exact ⟨rfl, HB.out⟩
  · rw [g3] at l0
    go_enter Try.func3, Try.ntmps3
    go_wp2
    go_ret
    exact ⟨rfl, Below.refl _ _⟩

theorem law25 : Keyed Try.prog 25 := int_keyed Try.underlying25
theorem zero4 (w : World) : (zeroValue 4).run Try.prog w = .ok (.bool false) w := by kernel_rfl
theorem plain_bool_inv {H : Type} {v : Value} {z : DataW H × List MemPlace} (h : plainElem Try.prog 4 v = some z) : ∃ b, v = .bool b ∧ z = (.lit (.bool b), []) := by
  unfold plainElem at h
  rw [Try.underlying4] at h
  cases v <;> simp at h
  exact ⟨_, rfl, h.symm⟩

/-- What a look-up in the map D gives. -/
def lookB {H : Type} (D : DataW H) (k : Int) : Bool := match D.atKey (.int .i32 k) (.lit (.bool false)) with | .lit (.bool b) => b | _ => false

theorem wf32 {k : Int} (h0 : -2147483648 ≤ k) (h1 : k ≤ 2147483647) : (Lit.int .i32 k).wf = true := by
  simp [Lit.wf, IntKind.min, IntKind.max, IntKind.signed, IntKind.bits]; omega
theorem fits_of_wf {k : Int} (h : (Lit.int .i32 k).wf = true) : Fits k := by
  simp [Lit.wf, IntKind.min, IntKind.max, IntKind.signed, IntKind.bits] at h
  exact ⟨by omega, by omega⟩

theorem mapIs_own {H : Type} {W : World} {b n : Nat} {D : DataW H} (hn : n ≤ maxLen) (h : W.ownsMap Try.prog 25 (plainElem Try.prog 4) b n D) : MapIs (some b) (lookB D) (Maps.size D) W := by
  refine ⟨Nat.le_trans h.size_le hn, fun w' hb => ?_⟩
  have h' : w'.ownsMap Try.prog 25 (plainElem Try.prog 4) b n D := by
    obtain ⟨es, clock, hh, F, hs, rfl⟩ := h
    refine ⟨es, clock, ?_, F, hs, rfl⟩
    rw [hb.block b (Array.getElem?_eq_some_iff.1 hh).1]
    exact hh
  refine ⟨fun k h0 h1 => ?_, fun ty => h'.len Try.underlying24 ty⟩
  obtain ⟨v, ps, hrun, hv⟩ := h'.lookup law25 Try.underlying24 (zero4 _) (zd := .lit (.bool false)) (zp := []) (by simp [plainElem, Try.underlying4]) (keyOf_int_mk Try.underlying25 (wf32 h0 h1))
  obtain ⟨x, rfl, hx⟩ := plain_bool_inv hv
  rw [hrun]
  simp only [Prod.mk.injEq] at hx
  rw [lookB, hx.1]

theorem mapIs_nil (W : World) : MapIs none (fun _ => false) 0 W :=
  ⟨Nat.zero_le _, fun w' _ => ⟨fun k h0 h1 => look_nil (w := w') false law25 Try.underlying24 (zero4 _) (keyOf_int_mk Try.underlying25 (wf32 h0 h1)), fun ty => len_nil (w := w') Try.underlying24 ty⟩⟩

/-- THE SECOND ARGUMENT, OPENED. -/
theorem open_lookup {H : Type} {enc : TypeId × Value → H} {W : World} {base : Nat} {sp : Nat → Bool} {held : Bool} {m : Option Nat} {d : DataW H} {p : List MemPlace}
    (h : DataW.Trod enc Try.prog W base sp held 24 (.map m) d p) : ∃ lk n, MapIs m lk n W := by
  obtain ⟨fuel, hf⟩ := h
  rcases open_map Try.underlying24 hf with ⟨hcs, hx⟩ | ⟨bm, es, clock, q, rfl, hcs, hb, _, F, hx⟩
  · simp [Value.cells] at hcs
    subst hcs
    exact ⟨_, _, mapIs_nil W⟩
  · simp [Value.cells] at hcs
    subst hcs
    have hown := World.ownsMap_of_fit (R := plainElem Try.prog 4) hb F (fun x _ z hz => by
      obtain ⟨b, e1, e2⟩ := elemAt_bool Try.underlying4 hz
      rw [e1, e2]
      simp [plainElem, Try.underlying4])
    exact ⟨_, _, mapIs_own F.size hown⟩

theorem lt_cell {w : World} {a : Addr} {v : Value} (h : w.cell? a = some v) : a.block < w.heap.size := by
  apply Decidable.byContradiction
  intro hn
  have hb : w.heap[a.block]? = none := Array.getElem?_eq_none (by omega)
  simp [World.cell?, hb] at h

/-- THE FIRST ARGUMENT, OPENED. -/
theorem open_row {H : Type} {enc : TypeId × Value → H} {W : World} {a : Option Addr} {len cap : Nat} {d : DataW H} {p : List MemPlace}
    (h : DataW.Trod enc Try.prog W 0 (fun _ => true) true 23 (.slice a len cap) d p) : ∃ zs, Row W a len zs ∧ len ≤ cap ∧ cap ≤ maxLen := by
  obtain ⟨fuel, hf⟩ := h
  rcases open_ints Try.underlying23 Try.underlying25 (by kernel_rfl) hf with ⟨hcs, _⟩ | ⟨x, l, c, zs, hcs, _, hl, hm, hz, _, hcell, hwz⟩
  · simp [Value.cells] at hcs
    obtain ⟨rfl, rfl, rfl⟩ := hcs
    exact ⟨[], ⟨rfl, fun f hf => by simp at hf, fun h => by omega⟩, Nat.le_refl _, Nat.zero_le _⟩
  · simp [Value.cells] at hcs
    obtain ⟨rfl, rfl, rfl⟩ := hcs
    simp only [if_true] at hz
    refine ⟨zs.take len, ⟨by simp; omega, fun f hf => fits_of_wf (hwz f (List.mem_of_mem_take hf)), fun hp => ?_⟩, hl, hm⟩
    obtain ⟨b, off, spot⟩ := x
    have hspot : spot = none := by simpa [Addr.add] using World.cell?_spot (hcell 0 (by omega))
    subst hspot
    refine ⟨b, off, rfl, ?_, fun i hi => ?_⟩
    · have h1 := hcell 0 (by omega)
      rw [add_plain] at h1
      exact lt_cell h1
    · have h1 := hcell i (by omega)
      have e : (zs.take len).getD i 0 = zs.getD i 0 := by simp [List.getD_eq_getElem?_getD, List.getElem?_take, hi]
      rw [e, ← add_plain]
      exact h1

theorem own : ownKnob Try.prog.godebug = none := by kernel_rfl
theorem laidOut : laidOutB Try.prog = true := by kernel_rfl

set_option maxRecDepth 100000 in
theorem lifted1 (os : Os) (started : os.Started) (H : Type) (enc : TypeId × Value → H) :
    ReturnsInHanded {} Try.checked os 3 .any (Rows.fnValueOfNotIsComplementSpec.pre6 enc Try.prog Try.f3 Rows.fnValueOfNotIsComplementRow.domain false) (Rows.fnValueOfNotIsComplementSpec.post enc Try.prog Try.f3 false true false false) := by
  refine returnsInHanded_of_change (C := Try.checked) own started (by kernel_rfl) Try.func3
    (ChangeSpec.witness6 (enc := enc) (C := Try.checked) false ⟨#[], #[.slice none 0 0, .map none], []⟩ 8 (by kernel_rfl) (by kernel_rfl) (by kernel_rfl) (by kernel_rfl)) ?_
  intro W base args ds gs before hval0 hW hcnd _
  have hval : ∀ (j : Nat) t v, Try.f3.params[j]? = some t → args[j]? = some v → Value.okWide Try.prog W .any base t v := hval0
  have hW' := hW
  obtain ⟨p, q, hA0, hV, rfl, hfz, hnd⟩ := hW
  have hA : DataW.TrodAll enc Try.prog W 0 (fun _ => true) true Try.f3.params.toList args.toList ds p := hA0
  rw [Try.params3] at hA hval
  obtain ⟨v0, vs0, d0, ds0, p0, q0, hargs, rfl, rfl, h0, r0⟩ := trodAll_cons hA
  obtain ⟨v1, vs1, d1, ds1, p1, q1, rfl, rfl, rfl, h1, r1⟩ := trodAll_cons r0
  obtain ⟨rfl, rfl, rfl⟩ := trodAll_nil r1
  obtain rfl : args = #[v0, v1] := by cases args; simp_all
  obtain ⟨rfl, rfl⟩ := trodVars_none hV
  obtain ⟨a0, len0, cap0, rfl⟩ := okWide_slice Try.underlying23 (hval 0 23 v0 rfl rfl)
  obtain ⟨m, rfl⟩ := okWide_map Try.underlying24 (hval 1 24 v1 rfl rfl)
  have lt0 : ∀ x ∈ p0, x.block < W.heap.size := by obtain ⟨m, hm⟩ := h0; exact DataW.trod_lt m _ _ _ hm
  have lt1 : ∀ x ∈ p1, x.block < W.heap.size := by obtain ⟨m, hm⟩ := h1; exact DataW.trod_lt m _ _ _ hm
  obtain ⟨zs, hrow, hc, hm⟩ := open_row h0
  obtain ⟨lk, n, hmap⟩ := open_lookup h1
  clear hA0 hval0
  refine (law1 a0 len0 cap0 zs m lk n W hrow hc hm hmap).mono fun e W' ⟨he, bel⟩ => ?_
  subst he
  exact ⟨_, rfl, _, _, _, [], _, [], hW', trodAll_mk1 (shut_bool Try.underlying4 _), (trodAll_cons_mk (Below.trod laidOut (by kernel_rfl) (of_decide_eq_true (by kernel_rfl)) h0 bel lt0) (trodAll_cons_mk (Below.trod laidOut (by kernel_rfl) (of_decide_eq_true (by kernel_rfl)) h1 bel lt1) trodAll_mk0)), rfl, bel.frame _, fun h => by cases h⟩

/-- THE STATEMENT. -/
theorem valueOfNot_proved : Rows.FnValueOfNotIsComplementSaid :=
  OpenClaim.holds_of_wide 3 Try.f3 rfl rfl rfl rfl rfl rfl rfl ⟨rfl, rfl, rfl, rfl, rfl⟩ rfl rfl rfl rfl rfl (by kernel_rfl) Try.func3 (by kernel_rfl)
    (of_decide_eq_true (by kernel_rfl)) (by unfold Func.isWrapper; first | (rw [if_pos (by decide +kernel)]; kernel_rfl) | (rw [if_neg (by decide +kernel)]; exact ⟨rfl, rfl⟩))
    (fun os started H enc _ => lifted1 os started H enc)
#print axioms valueOfNot_proved
end Go.Proofs.Qxb6629006a
