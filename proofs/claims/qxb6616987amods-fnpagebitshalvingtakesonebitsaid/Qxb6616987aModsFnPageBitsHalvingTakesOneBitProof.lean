/-
  'Rows.FnPageBitsHalvingTakesOneBitSaid', proved: the shell of the kit (proof-skeleton) with its one open place filled: all ahead of 'lifted' but 'own' is this seat's own work.
-/
import Derived.Test.Qxb6616987aModsRows
import Derived.Test.Qxb6616987aModsLen
import Derived.WalkKit
import Derived.ProofKit
import Derived.OpenShut
import Derived.ShutString
namespace Go.Proofs.Qxb6616987aMods.fnPageBitsHalvingTakesOneBit
open Go.ChangeShapes Go.WideShapes Go.ChangeAt Go.RowKit
open Go.ChangeMaps (open_string shut_string)
set_option linter.unusedVariables false      -- a walk need not use every 'w<i>' (that an integer argument fits its kind)

theorem own : ownKnob Trym.prog.godebug = none := by kernel_rfl

/-- What 'open_int' hands over of an int, as a range. -/
theorem range_of_wf {x : Int} (h : (Lit.int .i64 x).wf = true) : -9223372036854775808 ≤ x ∧ x ≤ 9223372036854775807 := by
  simp [Lit.wf, IntKind.min, IntKind.max, IntKind.signed, IntKind.bits] at h
  exact ⟨by omega, by omega⟩

/-! ### THE PLAIN LAW: no Go in sight -/
/-- How many bits 'c' points want, uncapped. -/
def top (c : Int) : Int := max ((Lib.bitLen (c / 128).toNat : Int) - 1) 1
/-- What pageBits computes (the wrap: 'positionBits - 6' goes round in an int64). -/
def pb (c p : Int) : Int := min (top c) (wrap64 (p - 6))

theorem bitLen_bd (c : Int) (h0 : 0 ≤ c) (h1 : c ≤ 9223372036854775807) : (Lib.bitLen (c / 128).toNat : Int) ≤ 63 := by
  have := Lib.bitLen_le (c / 128).toNat 63 (by omega) (by omega)
  omega

theorem top_bd (c : Int) (h0 : 0 ≤ c) (h1 : c ≤ 9223372036854775807) : 1 ≤ top c ∧ top c ≤ 62 := by
  have := bitLen_bd c h0 h1
  unfold top
  omega

theorem top_small (c : Int) (h0 : 0 ≤ c) (h1 : c < 512) : top c = 1 := by
  have := Lib.bitLen_le (c / 128).toNat 2 (by omega) (by omega)
  unfold top
  omega

theorem top_half (c : Int) (h0 : 512 ≤ c) (h1 : c ≤ 9223372036854775807) : top c = top (c / 2) + 1 := by
  have e : (c / 2 / 128).toNat = (c / 128).toNat / 2 := by omega
  have a := Lib.bitLen_half (c / 128).toNat (by omega) (by omega)
  have b := Lib.bitLen_half ((c / 128).toNat / 2) (by omega) (by omega)
  have d := Lib.bitLen_half ((c / 128).toNat / 2 / 2) (by omega) (by omega)
  unfold top
  rw [e]
  omega

theorem law_small (c p : Int) (h0 : 0 ≤ c) (h1 : c < 512) : (pb c p == min 1 (wrap64 (p - 6))) = true := by
  unfold pb
  rw [top_small c h0 h1]
  simp

theorem law_half (c p : Int) (h0 : 512 ≤ c) (h1 : c ≤ 9223372036854775807) : (pb c p == min (wrap64 (pb (c / 2) p + 1)) (wrap64 (p - 6))) = true := by
  have t := top_bd (c / 2) (by omega) (by omega)
  unfold pb
  rw [top_half c h0 h1, beq_iff_eq]
  have l : -9223372036854775808 ≤ wrap64 (p - 6) := by unfold wrap64; omega
  generalize wrap64 (p - 6) = m at l ⊢
  generalize top (c / 2) = n at t ⊢
  unfold wrap64
  omega

/-! ### THE CALLEES: a contract each -/
set_option maxHeartbeats 400000 in
theorem pageBits_any (c p : Int) (w : World) (h0 : 0 ≤ c) (h1 : c ≤ 9223372036854775807) :
    Calls Trym.prog 6 #[.int .i64 c, .int .i64 p] w fun e w' => e = .returned (.int .i64 (pb c p)) ∧ w' = w := by
  have hb := bitLen_bd c h0 h1
  go_enter Trym.func6, Trym.ntmps6
  go_wp2_with fail
  refine (bits_Len (c / 128) _ (by omega) (by omega)).mono ?_
  rintro e w' ⟨rfl, rfl⟩
  go_wp2
  go_ret
  exact ⟨rfl, rfl⟩

set_option maxHeartbeats 400000 in
theorem zz_any (c p : Int) (w : World) (h0 : 0 ≤ c) (h1 : c ≤ 9223372036854775807) :
    Calls Trym.prog 5 #[.int .i64 c, .int .i64 p] w fun e w' => e = .returned (.int .i64 (pb c p)) ∧ w' = w := by
  go_enter Trym.func5, Trym.ntmps5
  go_wp2_with fail
  refine (pageBits_any c p _ h0 h1).mono ?_
  rintro e w' ⟨rfl, rfl⟩
  go_wp2
  go_ret
  exact ⟨rfl, rfl⟩

/-! ### THE WALK -/
set_option maxHeartbeats 400000 in
theorem walk (a0 : Int) (a1 : Int) (w0 : (Lit.int .i64 a0).wf = true) (w1 : (Lit.int .i64 a1).wf = true) (w : World) :
    Calls Trym.prog 3 #[.int .i64 a0, .int .i64 a1] w fun e w' => e = .returned (.bool true) ∧ Grown w w' := by
  obtain ⟨l0, u0⟩ := range_of_wf w0
  by_cases c0 : a0 < 0
  · go_enter Trym.func3, Trym.ntmps3
    go_wp2
    go_ret
    exact ⟨rfl, Grown.refl _⟩
  have z0 : 0 ≤ a0 := by omega
  by_cases c1 : a0 < 512
  · have hl := law_small a0 a1 z0 c1
    go_enter Trym.func3, Trym.ntmps3
    go_wp2_with fail
    refine (zz_any a0 a1 _ z0 u0).mono ?_
    rintro e w' ⟨rfl, rfl⟩
    go_wp2_with fail
    go_ret
    exact ⟨rfl, Grown.refl _⟩
  · have hl := law_half a0 a1 (by omega) u0
    go_enter Trym.func3, Trym.ntmps3
    go_wp2_with fail
    refine (zz_any a0 a1 _ z0 u0).mono ?_
    rintro e w' ⟨rfl, rfl⟩
    go_wp2_with fail
    refine (zz_any (a0 / 2) a1 _ (by omega) (by omega)).mono ?_
    rintro e w' ⟨rfl, rfl⟩
    go_wp2_with fail
    go_ret
    exact ⟨rfl, Grown.refl _⟩

/-! ### THE ROW's STEP: WRITTEN OUT: LEAVE IT -/
set_option maxRecDepth 100000 in
theorem lifted (os : Os) (started : os.Started) (H : Type) (enc : TypeId × Value → H) :
    ReturnsInHanded {} Trym.checked os 3 .any (Rows.fnPageBitsHalvingTakesOneBitSpec.pre6 enc Trym.prog Trym.f3 Rows.fnPageBitsHalvingTakesOneBitRow.domain false) (Rows.fnPageBitsHalvingTakesOneBitSpec.post enc Trym.prog Trym.f3 false true false false) := by
  refine returnsInHanded_of_change (C := Trym.checked) own started (by kernel_rfl) Trym.func3
    (ChangeSpec.witness6 (enc := enc) (C := Trym.checked) false ⟨#[], #[.int .i64 0, .int .i64 0], []⟩ 8 (by kernel_rfl) (by kernel_rfl) (by kernel_rfl) (by kernel_rfl)) ?_
  intro W base args ds gs before hval0 hW hcnd _
  have hval : ∀ (j : Nat) t v, Trym.f3.params[j]? = some t → args[j]? = some v → Value.okWide Trym.prog W .any base t v := hval0
  have hW' := hW
  obtain ⟨p, q, hA0, hV, rfl, hfz, hnd⟩ := hW
  have hA : DataW.TrodAll enc Trym.prog W 0 (fun _ => true) true Trym.f3.params.toList args.toList ds p := hA0
  rw [Trym.params3] at hA hval
  obtain ⟨v0, vs0, d0, ds0, p0, q0, hargs, rfl, rfl, h0, r0⟩ := trodAll_cons hA
  obtain ⟨v1, vs1, d1, ds1, p1, q1, rfl, rfl, rfl, h1, r1⟩ := trodAll_cons r0
  obtain ⟨rfl, rfl, rfl⟩ := trodAll_nil r1
  obtain rfl : args = #[v0, v1] := by cases args; simp_all
  obtain ⟨rfl, rfl⟩ := trodVars_none hV
  obtain ⟨a0, rfl, rfl, rfl, w0⟩ := open_int Trym.underlying3 (hval 0 3 v0 rfl rfl) h0
  obtain ⟨a1, rfl, rfl, rfl, w1⟩ := open_int Trym.underlying3 (hval 1 3 v1 rfl rfl) h1
  clear hA0 hval0
  simp only [List.append_nil] at hW'
  refine (walk a0 a1 w0 w1 W).mono fun e W' ⟨he, hg⟩ => ?_
  subst he
  exact ⟨_, rfl, post_of_same (pa := []) (pv := []) hW' (fun _ _ _ => (trodAll_cons_mk (shut_bool Trym.underlying4 _) trodAll_mk0)) (fun sp _ => (trodAll_cons_mk (shut_int Trym.underlying3 w0) (trodAll_cons_mk (shut_int Trym.underlying3 w1) trodAll_mk0))) (fun _ _ => rfl) rfl
    (hg.frame _) hg.2.1 (ok_one (by kernel_rfl) rfl (okWide_bool_mk Trym.underlying4 _))⟩

theorem over : Rows.fnPageBitsHalvingTakesOneBitRow.holds Trym.pinned (OpenSpec.ofChange Rows.fnPageBitsHalvingTakesOneBitSpec) :=
  OpenClaim.holds_of_wide 3 Trym.f3 rfl rfl rfl rfl rfl rfl rfl ⟨rfl, rfl, rfl, rfl, rfl⟩ rfl rfl rfl rfl rfl (by kernel_rfl) Trym.func3 (by kernel_rfl)
    (of_decide_eq_true (by kernel_rfl)) (by unfold Func.isWrapper; first | (rw [if_pos (by decide +kernel)]; kernel_rfl) | (rw [if_neg (by decide +kernel)]; exact ⟨rfl, rfl⟩))
    (fun os started H enc _ => lifted os started H enc)

/-- ████ THE STATEMENT ████ -/
theorem proved : Rows.FnPageBitsHalvingTakesOneBitSaid :=
  over
#print axioms proved
end Go.Proofs.Qxb6616987aMods.fnPageBitsHalvingTakesOneBit
