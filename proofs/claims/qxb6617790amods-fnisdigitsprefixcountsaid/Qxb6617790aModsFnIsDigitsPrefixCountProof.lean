/-
  'Rows.FnIsDigitsPrefixCountSaid', proved: the shell of the kit (proof-skeleton) with its one open place filled: all ahead of 'lifted' but 'own' is this seat's own work.
-/
import Derived.Test.Qxb6617790aModsRows
import Derived.WalkKit
import Derived.ProofKit
import Derived.OpenShut
import Derived.ShutString
namespace Go.Proofs.Qxb6617790aMods.fnIsDigitsPrefixCount
open Go.ChangeShapes Go.WideShapes Go.ChangeAt Go.RowKit
open Go.ChangeMaps (open_string shut_string)
set_option linter.unusedVariables false      -- a walk need not use every 'w<i>' (that an integer argument fits its kind)

theorem own : ownKnob Trym.prog.godebug = none := by kernel_rfl

/-! ### THE PLAIN LAW: no Go in sight -/
/-- An ASCII digit. -/
def dg (c : UInt8) : Bool := decide (48 ≤ c.toNat) && decide (c.toNat ≤ 57)
/-- The length of the run of digits at the head of a list of bytes. -/
def run : List UInt8 → Nat
  | [] => 0
  | c :: cs => if dg c then run cs + 1 else 0
theorem run_le : ∀ l : List UInt8, run l ≤ l.length
  | [] => Nat.le_refl _
  | c :: cs => by
    have := run_le cs
    unfold run
    split
    · simp only [List.length_cons]; omega
    · omega
/-- Inside the run, and at its end: the byte there is a digit just where the run goes on. -/
theorem run_step : ∀ (l : List UInt8) (k : Nat) (h : k < l.length), k ≤ run l → (k < run l ↔ dg l[k] = true)
  | [], k, h, _ => absurd h (by simp)
  | c :: cs, 0, _, _ => by
    unfold run
    by_cases hc : dg c = true
    · simp [hc]
    · simp [hc]
  | c :: cs, k + 1, h, hk => by
    have ih := run_step cs k (by simpa using h)
    unfold run at hk ⊢
    by_cases hc : dg c = true
    · simp only [hc, if_true] at hk ⊢
      have := ih (by omega)
      simp only [List.getElem_cons_succ]
      rw [← this]
      omega
    · simp [hc] at hk
theorem run_take : ∀ (l : List UInt8) (k : Nat), run (l.take k) = min k (run l)
  | [], k => by simp [run]
  | c :: cs, 0 => by simp [run]
  | c :: cs, k + 1 => by
    have ih := run_take cs k
    simp only [List.take_succ_cons]
    unfold run
    split
    · rw [ih]; omega
    · omega
/-- The run of digits at the head of a string. -/
def runB (s : ByteArray) : Nat := run s.data.toList
theorem runB_le (s : ByteArray) : runB s ≤ s.size := by
  have := run_le s.data.toList
  simpa [runB] using this
theorem runB_step (s : ByteArray) (k : Nat) (h : k < s.size) (hk : k ≤ runB s) : k < runB s ↔ (48 ≤ (s[k].toNat : Int) ∧ (s[k].toNat : Int) ≤ 57) := by
  have e := run_step s.data.toList k (by simpa using h) hk
  have g : s.data.toList[k]'(by simpa using h) = s[k] := rfl
  unfold runB
  rw [e, g]
  simp only [dg, Bool.and_eq_true, decide_eq_true_eq]
  omega

/-- What isDigits answers. -/
def isD (s : ByteArray) : Bool := decide (0 < s.size ∧ runB s = s.size)

/-- The test for the empty string, as the walk writes it. -/
theorem empty_of (s : ByteArray) : s.toList.isEmpty = decide (s.size = 0) := by
  have e : s.size = s.data.toList.length := by rw [Array.length_toList]; rfl
  rw [ByteArray.toList_eq, e]
  cases s.data.toList with
  | nil => rfl
  | cons _ _ => rfl

/-! ### THE CALLEES: a contract each -/
set_option maxHeartbeats 400000 in
theorem isDigits_any (s : ByteArray) (hs : s.size ≤ maxLen) (w : World) :
    Calls Trym.prog 8 #[.string s] w fun e w' => e = .returned (.bool (isD s)) ∧ w' = w := by
  unfold maxLen at hs
  have he := empty_of s
  by_cases hz : s.size = 0
  · rw [decide_eq_true hz] at he
    have hd : isD s = false := by unfold isD; rw [decide_eq_false]; omega
    have HD : Hid _ := hd
    clear hd hz
    go_enter Trym.func8, Trym.ntmps8
    go_wp2
    go_ret
    exact ⟨by rw [HD.out]; rfl, rfl⟩
  · rw [decide_eq_false hz] at he
    have hr := runB_le s
    have HT : Hid (runB s = s.size → isD s = true) := fun h => by unfold isD; rw [decide_eq_true]; omega
    have HF : Hid (runB s < s.size → isD s = false) := fun h => by unfold isD; rw [decide_eq_false]; omega
    go_enter Trym.func8, Trym.ntmps8
    go_wp2
    go_loop [3] (fun i => ∃ k : Nat, k ≤ s.size ∧ k ≤ runB s ∧ i = .int .i64 k) (fun i => s.size - (intOf i).toNat)
    case atStart => exact ⟨0, Nat.zero_le _, Nat.zero_le _, rfl⟩
    case round =>
      obtain ⟨k, hk, hkr, rfl⟩ := hrel
      by_cases hlt : k < s.size
      · have hst := runB_step s k hlt hkr
        by_cases hd : k < runB s
        · obtain ⟨d1, d2⟩ := hst.1 hd
          clear hst
          go_wp2
          go_round
          case rel => exact ⟨k + 1, by omega, by omega, by go_num⟩
          case measure => simp [intOf]; omega
        · have hn : ¬ (48 ≤ (s[k].toNat : Int) ∧ (s[k].toNat : Int) ≤ 57) := fun h => hd (hst.2 h)
          clear hst
          have hf := HF.out (by omega)
          have HF' : Hid _ := hf
          clear hf
          by_cases d1 : (s[k].toNat : Int) < 48
          · clear hn
            go_wp2
            go_ret
            exact ⟨by rw [HF'.out]; rfl, rfl⟩
          · have d2 : 57 < (s[k].toNat : Int) := by omega
            clear hn
            go_wp2
            go_ret
            exact ⟨by rw [HF'.out]; rfl, rfl⟩
      · have ht := HT.out (by omega)
        have HT' : Hid _ := ht
        clear ht
        go_wp2
        go_ret
        exact ⟨by rw [HT'.out]; rfl, rfl⟩

theorem pre_size (s : ByteArray) (k : Nat) (hk : k ≤ s.size) : (s.extract 0 k).size = k := by
  rw [ByteArray.size_extract]
  omega

theorem pre_run (s : ByteArray) (k : Nat) : runB (s.extract 0 k) = min k (runB s) := by
  unfold runB
  rw [← run_take, ByteArray.data_extract, Array.toList_extract]
  simp

/-- What isDigits answers at the first k bytes. -/
theorem pre_isD (s : ByteArray) (k : Nat) (hk : k ≤ s.size) : isD (s.extract 0 k) = decide (1 ≤ k ∧ k ≤ runB s) := by
  unfold isD
  rw [pre_size s k hk, pre_run, Bool.eq_iff_iff]
  simp only [decide_eq_true_eq]
  omega

set_option maxHeartbeats 400000 in
theorem zz_any (s : ByteArray) (hs : s.size ≤ maxLen) (w : World) :
    Calls Trym.prog 6 #[.string s] w fun e w' => e = .returned (.bool (isD s)) ∧ w' = w := by
  go_enter Trym.func6, Trym.ntmps6
  go_wp2_with fail
  refine (isDigits_any s hs _).mono ?_
  rintro e w' ⟨rfl, rfl⟩
  go_wp2
  go_ret
  exact ⟨rfl, rfl⟩

set_option maxHeartbeats 400000 in
theorem bytes_any (a0 : ByteArray) (w0 : a0.size ≤ maxLen) (w : World) :
    Calls Trym.prog 7 #[.string a0] w fun e w' => ∃ b, e = .returned (.bool b) ∧ w' = w := by
  unfold maxLen at w0
  go_enter Trym.func7, Trym.ntmps7
  go_wp2
  all_goals
    go_ret
    exact ⟨_, rfl, rfl⟩

/-! ### THE WALK: after k rounds the count is min (k - 1) run -/
set_option maxHeartbeats 400000 in
theorem walk (a0 : ByteArray) (w0 : a0.size ≤ maxLen) (w : World) :
    Calls Trym.prog 4 #[.string a0] w fun e w' => e = .returned (.bool true) ∧ Grown w w' := by
  go_enter Trym.func4, Trym.ntmps4
  go_wp2_with fail
  refine (bytes_any a0 w0 _).mono ?_
  rintro e w' ⟨b, rfl, rfl⟩
  cases b
  · go_wp2
    go_ret
    exact ⟨rfl, Grown.refl _⟩
  by_cases c0 : 4096 < a0.size
  · go_wp2
    go_ret
    exact ⟨rfl, Grown.refl _⟩
  have hr := runB_le a0
  go_wp2_with fail
  go_loop [3, 4] (fun c i => ∃ k n : Nat, k ≤ a0.size + 1 ∧ n ≤ runB a0 ∧ Hid (n = min (k - 1) (runB a0)) ∧ i = .int .i64 k ∧ c = .int .i64 n) (fun _ i => a0.size + 1 - (intOf i).toNat)
  case atStart => exact ⟨0, 0, Nat.zero_le _, Nat.zero_le _, (by show 0 = min (0 - 1) (runB a0); omega), rfl, rfl⟩
  case round =>
    obtain ⟨k, n, hk, hn, HN, rfl, rfl⟩ := hrel
    by_cases hlt : k ≤ a0.size
    · have HP : Hid (isD (a0.extract 0 k) = decide (1 ≤ k ∧ k ≤ runB a0)) := pre_isD a0 k hlt
      have hs : (a0.extract 0 k).size ≤ maxLen := by rw [pre_size a0 k hlt]; exact Nat.le_trans hlt w0
      go_wp2_with fail
      refine (zz_any (a0.extract 0 k) hs _).mono ?_
      rintro e w1 ⟨rfl, rfl⟩
      clear hs
      rw [HP.out]
      by_cases hy : 1 ≤ k ∧ k ≤ runB a0
      · rw [decide_eq_true hy]
        have HM : Hid (n + 1 = min (k + 1 - 1) (runB a0)) := by have := HN.out; show n + 1 = _; omega
        have hn' : n + 1 ≤ runB a0 := by have := HM.out; omega
        go_wp2_with fail
        go_round
        case rel => exact ⟨k + 1, n + 1, by omega, hn', HM, by go_num, by go_num⟩
        case measure => simp [intOf]; omega
      · rw [decide_eq_false hy]
        have HM : Hid (n = min (k + 1 - 1) (runB a0)) := by have := HN.out; show n = _; omega
        go_wp2_with fail
        go_round
        case rel => exact ⟨k + 1, n, by omega, hn, HM, by go_num, rfl⟩
        case measure => simp [intOf]; omega
    · have HE : Hid (n = runB a0) := by have := HN.out; show n = _; omega
      go_wp2_with fail
      go_loop [5] (fun i => ∃ k : Nat, k ≤ runB a0 ∧ i = .int .i64 k) (fun i => a0.size - (intOf i).toNat)
      case atStart => exact ⟨0, Nat.zero_le _, rfl⟩
      case round =>
        obtain ⟨j, hj, rfl⟩ := hrel
        by_cases hjs : j < a0.size
        · have hst := runB_step a0 j hjs hj
          by_cases hd : j < runB a0
          · obtain ⟨d1, d2⟩ := hst.1 hd
            clear hst
            go_wp2_with fail
            go_round
            case rel => exact ⟨j + 1, by omega, by go_num⟩
            case measure => simp [intOf]; omega
          · have hno : ¬ (48 ≤ (a0[j].toNat : Int) ∧ (a0[j].toNat : Int) ≤ 57) := fun h => hd (hst.2 h)
            clear hst
            have hq : ((n : Int) == (j : Int)) = true := by have := HE.out; rw [beq_iff_eq]; omega
            by_cases d1 : (a0[j].toNat : Int) < 48
            · clear hno
              go_wp2_with fail
              go_ret
              exact ⟨rfl, Grown.refl _⟩
            · have d2 : 57 < (a0[j].toNat : Int) := by omega
              clear hno
              go_wp2_with fail
              go_ret
              exact ⟨rfl, Grown.refl _⟩
        · have hq : ((n : Int) == (j : Int)) = true := by have := HE.out; rw [beq_iff_eq]; omega
          go_wp2_with fail
          go_ret
          exact ⟨rfl, Grown.refl _⟩

/-! ### THE ROW's STEP: WRITTEN OUT: LEAVE IT -/
set_option maxRecDepth 100000 in
theorem lifted (os : Os) (started : os.Started) (H : Type) (enc : TypeId × Value → H) :
    ReturnsInHanded {} Trym.checked os 4 .any (Rows.fnIsDigitsPrefixCountSpec.pre6 enc Trym.prog Trym.f4 Rows.fnIsDigitsPrefixCountRow.domain false) (Rows.fnIsDigitsPrefixCountSpec.post enc Trym.prog Trym.f4 false true false false) := by
  refine returnsInHanded_of_change (C := Trym.checked) own started (by kernel_rfl) Trym.func4
    (ChangeSpec.witness6 (enc := enc) (C := Trym.checked) false ⟨#[], #[.string ByteArray.empty], []⟩ 8 (by kernel_rfl) (by kernel_rfl) (by kernel_rfl) (by kernel_rfl)) ?_
  intro W base args ds gs before hval0 hW hcnd _
  have hval : ∀ (j : Nat) t v, Trym.f4.params[j]? = some t → args[j]? = some v → Value.okWide Trym.prog W .any base t v := hval0
  have hW' := hW
  obtain ⟨p, q, hA0, hV, rfl, hfz, hnd⟩ := hW
  have hA : DataW.TrodAll enc Trym.prog W 0 (fun _ => true) true Trym.f4.params.toList args.toList ds p := hA0
  rw [Trym.params4] at hA hval
  obtain ⟨v0, vs0, d0, ds0, p0, q0, hargs, rfl, rfl, h0, r0⟩ := trodAll_cons hA
  obtain ⟨rfl, rfl, rfl⟩ := trodAll_nil r0
  obtain rfl : args = #[v0] := by cases args; simp_all
  obtain ⟨rfl, rfl⟩ := trodVars_none hV
  obtain ⟨a0, rfl, rfl, rfl, w0⟩ := open_string Trym.underlying9 (hval 0 9 v0 rfl rfl) h0
  clear hA0 hval0
  simp only [List.append_nil] at hW'
  refine (walk a0 w0 W).mono fun e W' ⟨he, hg⟩ => ?_
  subst he
  exact ⟨_, rfl, post_of_same (pa := []) (pv := []) hW' (fun _ _ _ => (trodAll_cons_mk (shut_bool Trym.underlying4 _) trodAll_mk0)) (fun sp _ => (trodAll_cons_mk (shut_string Trym.underlying9 w0) trodAll_mk0)) (fun _ _ => rfl) rfl
    (hg.frame _) hg.2.1 (ok_one (by kernel_rfl) rfl (okWide_bool_mk Trym.underlying4 _))⟩

theorem over : Rows.fnIsDigitsPrefixCountRow.holds Trym.pinned (OpenSpec.ofChange Rows.fnIsDigitsPrefixCountSpec) :=
  OpenClaim.holds_of_wide 4 Trym.f4 rfl rfl rfl rfl rfl rfl rfl ⟨rfl, rfl, rfl, rfl, rfl⟩ rfl rfl rfl rfl rfl (by kernel_rfl) Trym.func4 (by kernel_rfl)
    (of_decide_eq_true (by kernel_rfl)) (by unfold Func.isWrapper; first | (rw [if_pos (by decide +kernel)]; kernel_rfl) | (rw [if_neg (by decide +kernel)]; exact ⟨rfl, rfl⟩))
    (fun os started H enc _ => lifted os started H enc)

/-- ████ THE STATEMENT ████ -/
theorem proved : Rows.FnIsDigitsPrefixCountSaid :=
  over
#print axioms proved
end Go.Proofs.Qxb6617790aMods.fnIsDigitsPrefixCount
