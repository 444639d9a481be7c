/-
  'Rows.FnRefusalIsAnswersItsOwnKindOnlySaid', proved: the shell of the kit (proof-skeleton) with its one open place filled: all ahead of 'lifted' but 'own' is this seat's own work.
-/
import Derived.Test.Qxb6615863aModsRows
import Derived.WalkKit
import Derived.ProofKit
import Derived.OpenShut
import Derived.ShutString
import Derived.LaidEql
namespace Go.Proofs.Qxb6615863aMods.fnRefusalIsAnswersItsOwnKindOnly
open Go.ChangeShapes Go.WideShapes Go.ChangeAt Go.RowKit
open Go.ChangeMaps (open_string shut_string)
set_option linter.unusedVariables false      -- a walk need not use every 'w<i>' (that an integer argument fits its kind)

theorem own : ownKnob Trym.prog.godebug = none := by kernel_rfl

/-! ### THE CALLEES: a contract each -/
/-- '==' between two interface values of different dynamic types: false. -/
theorem run_eql_iface_types {P : Program} (w : World) {ti : TypeId} {ms : Array (String × TypeId)} (tx ty : TypeId) (x y : Value) (hi : P.underlying ti = some (.interface ms)) (hne : tx ≠ ty) :
    (binOp .eql ti (.iface tx x) (.iface ty y)).run P w = .ok (.bool false) w := by
  have h : ∀ d : Nat, (Op.equalIn (d + 1) ti (.iface tx x) (.iface ty y)).run P w = .ok false w := fun d => by simp [Op.equalIn, run_underlying hi, hne]
  simp only [binOp]
  simp [Op.equal, Op.maxDepth, h 9999]

set_option maxHeartbeats 400000 in
theorem is_any (b : Nat) (t u k : Value) (d : TypeId) (r : Bool) (w : World) (hk : w.cell? ⟨b, 0, none⟩ = some k) (ht : t = .iface d u) (he : (binOp .eql 28 t k).run Trym.prog w = .ok (.bool r) w) :
    Calls Trym.prog 10 #[.pointer (some ⟨b, 0, none⟩), t] w fun e w' => e = .returned (.bool r) ∧ w' = w := by
  subst ht
  go_enter Trym.func10, Trym.ntmps10
  go_wp2
  go_ret
  exact ⟨rfl, rfl⟩

set_option maxHeartbeats 400000 in
theorem is_nil (b : Nat) (v : Value) (d : TypeId) (w : World) (hk : w.cell? ⟨b, 0, none⟩ = some (.iface d v)) :
    Calls Trym.prog 10 #[.pointer (some ⟨b, 0, none⟩), .nilIface] w fun e w' => e = .returned (.bool false) ∧ w' = w := by
  have he := run_eql_iface_nil_left (P := Trym.prog) w d v Trym.underlying28
  go_enter Trym.func10, Trym.ntmps10
  go_wp2
  go_ret
  exact ⟨rfl, rfl⟩

set_option maxHeartbeats 400000 in
theorem kindOf_any (b c : Nat) (u k : Value) (d : TypeId) (r : Bool) (w : World) (hb : w.cell? ⟨b, 0, none⟩ = some k) (hc : w.cell? ⟨c, 0, none⟩ = some (.iface d u))
    (he : (binOp .eql 28 (.iface d u) k).run Trym.prog w = .ok (.bool r) w) :
    Calls Trym.prog 6 #[.pointer (some ⟨b, 0, none⟩), .pointer (some ⟨c, 0, none⟩)] w fun e w' => e = .returned (.bool r) ∧ w' = w := by
  go_enter Trym.func6, Trym.ntmps6
  go_wp2_with fail
  refine (is_any b _ u k d r _ hb rfl he).mono ?_
  rintro e w' ⟨rfl, rfl⟩
  go_wp2
  go_ret
  exact ⟨rfl, rfl⟩

set_option maxHeartbeats 400000 in
theorem isNil_any (b : Nat) (v : Value) (d : TypeId) (w : World) (hk : w.cell? ⟨b, 0, none⟩ = some (.iface d v)) :
    Calls Trym.prog 7 #[.pointer (some ⟨b, 0, none⟩)] w fun e w' => e = .returned (.bool false) ∧ w' = w := by
  go_enter Trym.func7, Trym.ntmps7
  go_wp2_with fail
  refine (is_nil b v d _ hk).mono ?_
  rintro e w' ⟨rfl, rfl⟩
  go_wp2
  go_ret
  exact ⟨rfl, rfl⟩

set_option maxHeartbeats 400000 in
theorem isSelf_any (b : Nat) (v : Value) (w : World) (hk : w.cell? ⟨b, 0, none⟩ = some (.iface 33 v)) :
    Calls Trym.prog 8 #[.pointer (some ⟨b, 0, none⟩)] w fun e w' => e = .returned (.bool false) ∧ w' = w := by
  have he := run_eql_iface_types (P := Trym.prog) w 23 33 (.pointer (some ⟨b, 0, none⟩)) v Trym.underlying28 (by decide)
  go_enter Trym.func8, Trym.ntmps8
  go_wp2_with fail
  refine (is_any b _ (.pointer (some ⟨b, 0, none⟩)) (.iface 33 v) 23 false _ hk rfl he).mono ?_
  rintro e w' ⟨rfl, rfl⟩
  go_wp2
  go_ret
  exact ⟨rfl, rfl⟩

/-- The type *errors.errorString can be compared. -/
theorem info33 : ∃ i, Trym.prog.info? 33 = some i ∧ i.comparable = true := by
  refine ⟨(Trym.prog.info? 33).get (by kernel_rfl), ?_, by kernel_rfl⟩
  exact (Option.some_get _).symm
/-- The type errors.errorString is not of size 0. -/
theorem info35 : ∃ i, Trym.prog.info? 35 = some i ∧ i.size ≠ 0 := by
  refine ⟨(Trym.prog.info? 35).get (by kernel_rfl), ?_, ?_⟩
  · exact (Option.some_get _).symm
  · have : (decide (((Trym.prog.info? 35).get (by kernel_rfl)).size ≠ 0)) = true := by kernel_rfl
    exact of_decide_eq_true this

/-- Two kinds made by errors.New at one address: equal. -/
theorem same (a : Addr) (w : World) : (binOp .eql 28 (.iface 33 (.pointer (some a))) (.iface 33 (.pointer (some a)))).run Trym.prog w = .ok (.bool true) w := by
  obtain ⟨i, hi, hc⟩ := info33
  obtain ⟨j, hj, _⟩ := info35
  exact run_eql_iface_ptr_same w a Trym.underlying28 Trym.underlying33 hi hc hj

/-- Two kinds at two addresses: not equal, whatever their texts. -/
theorem other {a b : Addr} {ca cb : Array Value} (w : World) (hne : a ≠ b) (ha : w.heap[a.block]? = some (.cells ca 35 (0, 0))) (hb : w.heap[b.block]? = some (.cells cb 35 (0, 0))) :
    (binOp .eql 28 (.iface 33 (.pointer (some a))) (.iface 33 (.pointer (some b)))).run Trym.prog w = .ok (.bool false) w := by
  obtain ⟨i, hi, hc⟩ := info33
  obtain ⟨j, hj, hs⟩ := info35
  exact run_eql_iface_ptr_other w Trym.underlying28 Trym.underlying33 hi hc hj hs hne ha hb
set_option maxHeartbeats 400000 in
theorem bytes_any (a0 : ByteArray) (a1 : ByteArray) (a2 : ByteArray) (a3 : ByteArray) (w0 : a0.size ≤ maxLen) (w1 : a1.size ≤ maxLen) (w2 : a2.size ≤ maxLen) (w3 : a3.size ≤ maxLen) (w : World) :
    Calls Trym.prog 4 #[.string a0, .string a1, .string a2, .string a3] w fun e w' => ∃ b, e = .returned (.bool b) ∧ w' = w := by
  unfold maxLen at w0 w1 w2 w3
  go_enter Trym.func4, Trym.ntmps4
  go_wp2
  all_goals
    go_ret
    exact ⟨_, rfl, rfl⟩

set_option maxHeartbeats 400000 in
theorem new_any (a0 a1 : ByteArray) (w : World) :
    Calls Trym.prog 5 #[.string a0, .string a1] w fun e w' => e = .returned (.pointer (some ⟨w.heap.size + 1, 0, none⟩)) ∧
      w' = (w.alloc (.cells #[.string a0] 35)).alloc (.cells #[.iface 33 (.pointer (some ⟨w.heap.size, 0, none⟩)), .string a1] 31) := by
  go_enter Trym.func5, Trym.ntmps5
  go_wp2
  go_ret
  exact ⟨rfl, rfl⟩


/-- A block that lay before a new one was laid lies there still. -/
theorem heap_old {w : World} {o : Obj} {i : Nat} {x : Obj} (h : w.heap[i]? = some x) : (w.alloc o).heap[i]? = some x := by
  have hi : i < w.heap.size := by
    rcases Nat.lt_or_ge i w.heap.size with hlt | hge
    · exact hlt
    · rw [Array.getElem?_eq_none hge] at h; exact absurd h (by simp)
  show (w.heap.push o)[i]? = some x
  rw [Array.getElem?_push, if_neg (by omega)]
  exact h
/-- The new block lies at the old size. -/
theorem heap_new (w : World) (o : Obj) : (w.alloc o).heap[w.heap.size]? = some o := by
  show (w.heap.push o)[w.heap.size]? = some o
  simp
/-- The first cell of a block. -/
theorem cell_of {w : World} {b : Nat} {v : Value} {vs : List Value} {t : TypeId} (h : w.heap[b]? = some (.cells (v :: vs).toArray t (0, 0))) : w.cell? ⟨b, 0, none⟩ = some v := by
  simp [World.cell?, h]

/-- What lies in the four new blocks: a kind, its refusal, the other kind, its refusal. -/
theorem four (w : World) (a0 a1 a2 a3 : ByteArray) :
    let W := (((w.alloc (.cells #[.string a0] 35)).alloc (.cells #[.iface 33 (.pointer (some ⟨w.heap.size, 0, none⟩)), .string a1] 31)).alloc (.cells #[.string a2] 35)).alloc (.cells #[.iface 33 (.pointer (some ⟨w.heap.size + 1 + 1, 0, none⟩)), .string a3] 31)
    W.heap[w.heap.size]? = some (.cells #[.string a0] 35 (0, 0)) ∧ W.heap[w.heap.size + 1]? = some (.cells #[.iface 33 (.pointer (some ⟨w.heap.size, 0, none⟩)), .string a1] 31 (0, 0)) ∧
      W.heap[w.heap.size + 1 + 1]? = some (.cells #[.string a2] 35 (0, 0)) ∧ W.heap[w.heap.size + 1 + 1 + 1]? = some (.cells #[.iface 33 (.pointer (some ⟨w.heap.size + 1 + 1, 0, none⟩)), .string a3] 31 (0, 0)) := by
  intro W
  have s1 : ∀ (w : World) (o : Obj), (w.alloc o).heap.size = w.heap.size + 1 := fun w o => by show (w.heap.push o).size = _; simp
  refine ⟨heap_old (heap_old (heap_old (heap_new _ _))), heap_old (heap_old ?_), heap_old ?_, ?_⟩
  · have h := heap_new (w.alloc (.cells #[.string a0] 35)) (.cells #[.iface 33 (.pointer (some ⟨w.heap.size, 0, none⟩)), .string a1] 31)
    rw [s1] at h
    exact h
  · have h := heap_new ((w.alloc (.cells #[.string a0] 35)).alloc (.cells #[.iface 33 (.pointer (some ⟨w.heap.size, 0, none⟩)), .string a1] 31)) (.cells #[.string a2] 35)
    rw [s1, s1] at h
    exact h
  · have h := heap_new (((w.alloc (.cells #[.string a0] 35)).alloc (.cells #[.iface 33 (.pointer (some ⟨w.heap.size, 0, none⟩)), .string a1] 31)).alloc (.cells #[.string a2] 35)) (.cells #[.iface 33 (.pointer (some ⟨w.heap.size + 1 + 1, 0, none⟩)), .string a3] 31)
    rw [s1, s1, s1] at h
    exact h

/-! ### THE WALK: the law out of the contracts -/
set_option maxHeartbeats 400000 in
theorem walk (a0 : ByteArray) (a1 : ByteArray) (a2 : ByteArray) (a3 : ByteArray) (w0 : a0.size ≤ maxLen) (w1 : a1.size ≤ maxLen) (w2 : a2.size ≤ maxLen) (w3 : a3.size ≤ maxLen) (w : World) :
    Calls Trym.prog 3 #[.string a0, .string a1, .string a2, .string a3] w fun e w' => e = .returned (.bool true) ∧ Grown w w' := by
  go_enter Trym.func3, Trym.ntmps3
  go_wp2_with fail
  refine (bytes_any a0 a1 a2 a3 w0 w1 w2 w3 _).mono ?_
  rintro e w' ⟨b, rfl, rfl⟩
  cases b
  · go_wp2
    go_ret
    exact ⟨rfl, Grown.refl _⟩
  unfold maxLen at w0 w1 w2 w3
  by_cases c0 : 262144 < a0.size
  · go_wp2
    go_ret
    exact ⟨rfl, Grown.refl _⟩
  by_cases c1 : 262144 < a1.size
  · go_wp2
    go_ret
    exact ⟨rfl, Grown.refl _⟩
  by_cases c2 : 262144 < a2.size
  · go_wp2
    go_ret
    exact ⟨rfl, Grown.refl _⟩
  by_cases c3 : 262144 < a3.size
  · go_wp2
    go_ret
    exact ⟨rfl, Grown.refl _⟩

  go_wp2_with fail
  refine (new_any _ _ _).mono ?_
  rintro e w1 ⟨rfl, rfl⟩
  go_wp2_with fail
  refine (new_any _ _ _).mono ?_
  rintro e w2 ⟨rfl, rfl⟩
  go_wp2_with fail
  have hg : Grown w' ((((w'.alloc (.cells #[.string a0] 35)).alloc (.cells #[.iface 33 (.pointer (some ⟨w'.heap.size, 0, none⟩)), .string a1] 31)).alloc (.cells #[.string a2] 35)).alloc (.cells #[.iface 33 (.pointer (some ⟨w'.heap.size + 1 + 1, 0, none⟩)), .string a3] 31)) :=
    ((((Grown.refl _).alloc _ _).alloc _ _).alloc _ _).alloc _ _
  obtain ⟨h0, h1, h2, h3⟩ := four w' a0 a1 a2 a3
  have ne : w'.heap.size ≠ w'.heap.size + 1 + 1 := by omega
  generalize ((((w'.alloc (.cells #[.string a0] 35)).alloc (.cells #[.iface 33 (.pointer (some ⟨w'.heap.size, 0, none⟩)), .string a1] 31)).alloc (.cells #[.string a2] 35)).alloc (.cells #[.iface 33 (.pointer (some ⟨w'.heap.size + 1 + 1, 0, none⟩)), .string a3] 31)) = W at hg h0 h1 h2 h3 ⊢
  generalize w'.heap.size + 1 + 1 + 1 = n3 at h3 ⊢
  generalize w'.heap.size + 1 + 1 = n2 at ne h2 h3 ⊢
  generalize w'.heap.size + 1 = n1 at h1 ⊢
  generalize w'.heap.size = n0 at ne h0 h1 ⊢
  have ka := cell_of h1
  have kb := cell_of h3
  have na : (⟨n0, 0, none⟩ : Addr) ≠ ⟨n2, 0, none⟩ := fun h => ne (congrArg Addr.block h)
  have e1 := same ⟨n0, 0, none⟩ W
  have e2 := same ⟨n2, 0, none⟩ W
  have e3 := other W na.symm h2 h0
  have e4 := other W na h0 h2
  have E1 : Hid _ := e1
  have E2 : Hid _ := e2
  have E3 : Hid _ := e3
  have E4 : Hid _ := e4
  clear h0 h1 h2 h3 ne na e1 e2 e3 e4
  refine (kindOf_any n1 n1 _ _ 33 true _ ka ka E1.out).mono ?_
  rintro e W1 ⟨rfl, rfl⟩
  go_wp2_with fail
  refine (kindOf_any n3 n3 _ _ 33 true _ kb kb E2.out).mono ?_
  rintro e W1 ⟨rfl, rfl⟩
  go_wp2_with fail
  refine (kindOf_any n1 n3 _ _ 33 false _ ka kb E3.out).mono ?_
  rintro e W1 ⟨rfl, rfl⟩
  go_wp2_with fail
  refine (kindOf_any n3 n1 _ _ 33 false _ kb ka E4.out).mono ?_
  rintro e W1 ⟨rfl, rfl⟩
  go_wp2_with fail
  refine (isNil_any n1 _ 33 _ ka).mono ?_
  rintro e W1 ⟨rfl, rfl⟩
  go_wp2_with fail
  refine (isSelf_any n1 _ _ ka).mono ?_
  rintro e W1 ⟨rfl, rfl⟩
  go_wp2_with fail
  go_ret
  exact ⟨rfl, hg⟩

/-! ### THE ROW's STEP: WRITTEN OUT: LEAVE IT -/
set_option maxRecDepth 100000 in
theorem lifted (os : Os) (started : os.Started) (H : Type) (enc : TypeId × Value → H) :
    ReturnsInHanded {} Trym.checked os 3 .any (Rows.fnRefusalIsAnswersItsOwnKindOnlySpec.pre6 enc Trym.prog Trym.f3 Rows.fnRefusalIsAnswersItsOwnKindOnlyRow.domain false) (Rows.fnRefusalIsAnswersItsOwnKindOnlySpec.post enc Trym.prog Trym.f3 false true false false) := by
  refine returnsInHanded_of_change (C := Trym.checked) own started (by kernel_rfl) Trym.func3
    (ChangeSpec.witness6 (enc := enc) (C := Trym.checked) false ⟨#[], #[.string ByteArray.empty, .string ByteArray.empty, .string ByteArray.empty, .string ByteArray.empty], []⟩ 8 (by kernel_rfl) (by kernel_rfl) (by kernel_rfl) (by kernel_rfl)) ?_
  intro W base args ds gs before hval0 hW hcnd _
  have hval : ∀ (j : Nat) t v, Trym.f3.params[j]? = some t → args[j]? = some v → Value.okWide Trym.prog W .any base t v := hval0
  have hW' := hW
  obtain ⟨p, q, hA0, hV, rfl, hfz, hnd⟩ := hW
  have hA : DataW.TrodAll enc Trym.prog W 0 (fun _ => true) true Trym.f3.params.toList args.toList ds p := hA0
  rw [Trym.params3] at hA hval
  obtain ⟨v0, vs0, d0, ds0, p0, q0, hargs, rfl, rfl, h0, r0⟩ := trodAll_cons hA
  obtain ⟨v1, vs1, d1, ds1, p1, q1, rfl, rfl, rfl, h1, r1⟩ := trodAll_cons r0
  obtain ⟨v2, vs2, d2, ds2, p2, q2, rfl, rfl, rfl, h2, r2⟩ := trodAll_cons r1
  obtain ⟨v3, vs3, d3, ds3, p3, q3, rfl, rfl, rfl, h3, r3⟩ := trodAll_cons r2
  obtain ⟨rfl, rfl, rfl⟩ := trodAll_nil r3
  obtain rfl : args = #[v0, v1, v2, v3] := by cases args; simp_all
  obtain ⟨rfl, rfl⟩ := trodVars_none hV
  obtain ⟨a0, rfl, rfl, rfl, w0⟩ := open_string Trym.underlying9 (hval 0 9 v0 rfl rfl) h0
  obtain ⟨a1, rfl, rfl, rfl, w1⟩ := open_string Trym.underlying9 (hval 1 9 v1 rfl rfl) h1
  obtain ⟨a2, rfl, rfl, rfl, w2⟩ := open_string Trym.underlying9 (hval 2 9 v2 rfl rfl) h2
  obtain ⟨a3, rfl, rfl, rfl, w3⟩ := open_string Trym.underlying9 (hval 3 9 v3 rfl rfl) h3
  clear hA0 hval0
  simp only [List.append_nil] at hW'
  refine (walk a0 a1 a2 a3 w0 w1 w2 w3 W).mono fun e W' ⟨he, hg⟩ => ?_
  subst he
  exact ⟨_, rfl, post_of_same (pa := []) (pv := []) hW' (fun _ _ _ => (trodAll_cons_mk (shut_bool Trym.underlying4 _) trodAll_mk0)) (fun sp _ => (trodAll_cons_mk (shut_string Trym.underlying9 w0) (trodAll_cons_mk (shut_string Trym.underlying9 w1) (trodAll_cons_mk (shut_string Trym.underlying9 w2) (trodAll_cons_mk (shut_string Trym.underlying9 w3) trodAll_mk0))))) (fun _ _ => rfl) rfl
    (hg.frame _) hg.2.1 (ok_one (by kernel_rfl) rfl (okWide_bool_mk Trym.underlying4 _))⟩

theorem over : Rows.fnRefusalIsAnswersItsOwnKindOnlyRow.holds Trym.pinned (OpenSpec.ofChange Rows.fnRefusalIsAnswersItsOwnKindOnlySpec) :=
  OpenClaim.holds_of_wide 3 Trym.f3 rfl rfl rfl rfl rfl rfl rfl ⟨rfl, rfl, rfl, rfl, rfl⟩ rfl rfl rfl rfl rfl (by kernel_rfl) Trym.func3 (by kernel_rfl)
    (of_decide_eq_true (by kernel_rfl)) (by unfold Func.isWrapper; first | (rw [if_pos (by decide +kernel)]; kernel_rfl) | (rw [if_neg (by decide +kernel)]; exact ⟨rfl, rfl⟩))
    (fun os started H enc _ => lifted os started H enc)

/-- ████ THE STATEMENT ████ -/
theorem proved : Rows.FnRefusalIsAnswersItsOwnKindOnlySaid :=
  over
#print axioms proved
end Go.Proofs.Qxb6615863aMods.fnRefusalIsAnswersItsOwnKindOnly
