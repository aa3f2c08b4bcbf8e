/-
  A proof of the given statement 'Rows.FnStringLitSpanOrderedSaid'. The frame is the given shell's (proof-skeleton); the walk is ours.
-/
import Derived.Test.YoeatwRows
import Derived.WalkKit
import Derived.ProofKit
import Derived.OpenShut
import Derived.ShutString
namespace Go.Proofs.Yoeatw.fnStringLitSpanOrdered
open Go.ChangeShapes Go.WideShapes Go.ChangeAt Go.RowKit
open Go.ChangeMaps (open_string shut_string)
set_option linter.unusedVariables false      -- a walk need not use every 'w<i>' (that an integer argument fits its kind)

theorem own : ownKnob Eatg.prog.godebug = none := by kernel_rfl

/-! ### THE PLAIN LAWS: no Go in sight -/
theorem ret_bool {a b : Bool} (h : a = b) : Ending.returned (.bool a) = .returned (.bool b) := by rw [h]

/-- The span is empty exactly when the literal is. -/
theorem empty_iff (p : Int) (n : Nat) : ((p == p + (n : Int)) == ((n : Int) == 0)) = true := by
  by_cases h : n = 0
  · subst h; simp
  · have h1 : (p == p + (n : Int)) = false := by simp; omega
    have h2 : ((n : Int) == 0) = false := by simp; omega
    rw [h1, h2]; rfl

/-- A sum past the greatest int wraps to a number below the position. -/
theorem over_lt (p : Int) (n : Nat) (hp : p ≤ 9223372036854775807) (hn : n ≤ 1048576) (h : ¬ p + (n : Int) ≤ 9223372036854775807) : wrap64 (p + n) < p := by
  unfold wrap64
  omega

/-! ### THE WALKS: one a way through the law's own tests -/
/-- The lengths add up to more than 1<<20: the bound's helper says no at one of its tests, and the law returns true at once. -/
theorem walk_out (a0 : ByteArray) (a1 : Int) (a2 : ByteArray) (w0 : a0.size ≤ maxLen) (w2 : a2.size ≤ maxLen) (c : 1048576 < a0.size + a2.size) (w : World) :
    Calls Eatg.prog 4 #[.string a0, .int .i64 a1, .string a2] w fun e w' => e = .returned (.bool true) ∧ Grown w w' := by
  unfold maxLen at w0 w2
  go_enter Eatg.func4, Eatg.ntmps4
  go_wp2
  all_goals (go_ret; exact ⟨rfl, by repeat (first | exact Grown.refl _ | apply Grown.drew | apply Grown.alloc)⟩)

/-- A position below nought. -/
theorem walk_neg (a0 : ByteArray) (a1 : Int) (a2 : ByteArray) (c : a0.size + a2.size ≤ 1048576) (n : a1 < 0) (w : World) :
    Calls Eatg.prog 4 #[.string a0, .int .i64 a1, .string a2] w fun e w' => e = .returned (.bool true) ∧ Grown w w' := by
  go_enter Eatg.func4, Eatg.ntmps4
  go_wp2
  go_ret
  exact ⟨rfl, by repeat (first | exact Grown.refl _ | apply Grown.drew | apply Grown.alloc)⟩

/-- The sum of position and length wraps. -/
theorem walk_over (a0 : ByteArray) (a1 : Int) (a2 : ByteArray) (c : a0.size + a2.size ≤ 1048576) (n : 0 ≤ a1) (ov : wrap64 (a1 + a2.size) < a1) (w : World) :
    Calls Eatg.prog 4 #[.string a0, .int .i64 a1, .string a2] w fun e w' => e = .returned (.bool true) ∧ Grown w w' := by
  go_enter Eatg.func4, Eatg.ntmps4
  go_wp2
  go_ret
  exact ⟨rfl, by repeat (first | exact Grown.refl _ | apply Grown.drew | apply Grown.alloc)⟩

/-- The way that lays the node and asks Pos and End. -/
theorem walk_in (a0 : ByteArray) (a1 : Int) (a2 : ByteArray) (c : a0.size + a2.size ≤ 1048576) (n : 0 ≤ a1) (ov : a1 + a2.size ≤ 9223372036854775807) (w : World) :
    Calls Eatg.prog 4 #[.string a0, .int .i64 a1, .string a2] w fun e w' => e = .returned (.bool true) ∧ Grown w w' := by
  go_enter Eatg.func4, Eatg.ntmps4
  go_wp2
  go_region
  all_goals go_wp2
  all_goals (go_ret; exact ⟨ret_bool (empty_iff a1 a2.size), by repeat (first | exact Grown.refl _ | apply Grown.drew | apply Grown.alloc)⟩)

/-! ### STEP 1: THE WALK: the Go text returns true; 'Grown w w'': the world has at most new blocks. -/
theorem walk (a0 : ByteArray) (a1 : Int) (a2 : ByteArray) (w0 : a0.size ≤ maxLen) (w1 : (Lit.int .i64 a1).wf = true) (w2 : a2.size ≤ maxLen) (w : World) :
    Calls Eatg.prog 4 #[.string a0, .int .i64 a1, .string a2] w fun e w' => e = .returned (.bool true) ∧ Grown w w' := by
  by_cases c : a0.size + a2.size ≤ 1048576
  · by_cases n : a1 < 0
    · exact walk_neg a0 a1 a2 c n w
    · by_cases ov : a1 + (a2.size : Int) ≤ 9223372036854775807
      · exact walk_in a0 a1 a2 c (by omega) ov w
      · exact walk_over a0 a1 a2 c (by omega) (over_lt a1 a2.size (bounds_i64 w1).2 (by omega) ov) w
  · exact walk_out a0 a1 a2 w0 w2 (by omega) w

/-! ### THE ROW's STEP: WRITTEN OUT: LEAVE IT -/
set_option maxRecDepth 100000 in
theorem lifted (os : Os) (started : os.Started) (H : Type) (enc : TypeId × Value → H) :
    ReturnsInHanded {} Eatg.checked os 4 .any (Rows.fnStringLitSpanOrderedSpec.pre6 enc Eatg.prog Eatg.f4 Rows.fnStringLitSpanOrderedRow.domain false) (Rows.fnStringLitSpanOrderedSpec.post enc Eatg.prog Eatg.f4 false true false false) := by
  refine returnsInHanded_of_change (C := Eatg.checked) own started (by kernel_rfl) Eatg.func4
    (ChangeSpec.witness6 (enc := enc) (C := Eatg.checked) false ⟨#[], #[.string ByteArray.empty, .int .i64 0, .string ByteArray.empty], []⟩ 8 (by kernel_rfl) (by kernel_rfl) (by kernel_rfl) (by kernel_rfl)) ?_
  intro W base args ds gs before hval0 hW hcnd _
  have hval : ∀ (j : Nat) t v, Eatg.f4.params[j]? = some t → args[j]? = some v → Value.okWide Eatg.prog W .any base t v := hval0
  have hW' := hW
  obtain ⟨p, q, hA0, hV, rfl, hfz, hnd⟩ := hW
  have hA : DataW.TrodAll enc Eatg.prog W 0 (fun _ => true) true Eatg.f4.params.toList args.toList ds p := hA0
  rw [Eatg.params4] at hA hval
  obtain ⟨v0, vs0, d0, ds0, p0, q0, hargs, rfl, rfl, h0, r0⟩ := trodAll_cons hA
  obtain ⟨v1, vs1, d1, ds1, p1, q1, rfl, rfl, rfl, h1, r1⟩ := trodAll_cons r0
  obtain ⟨v2, vs2, d2, ds2, p2, q2, rfl, rfl, rfl, h2, r2⟩ := trodAll_cons r1
  obtain ⟨rfl, rfl, rfl⟩ := trodAll_nil r2
  obtain rfl : args = #[v0, v1, v2] := by cases args; simp_all
  obtain ⟨rfl, rfl⟩ := trodVars_none hV
  obtain ⟨a0, rfl, rfl, rfl, w0⟩ := open_string Eatg.underlying9 (hval 0 9 v0 rfl rfl) h0
  obtain ⟨a1, rfl, rfl, rfl, w1⟩ := open_int Eatg.underlying3 (hval 1 3 v1 rfl rfl) h1
  obtain ⟨a2, rfl, rfl, rfl, w2⟩ := open_string Eatg.underlying9 (hval 2 9 v2 rfl rfl) h2
  clear hA0 hval0
  simp only [List.append_nil] at hW'
  refine (walk a0 a1 a2 w0 w1 w2 W).mono fun e W' ⟨he, hg⟩ => ?_
  subst he
  exact ⟨_, rfl, post_of_same (pa := []) (pv := []) hW' (fun _ _ _ => (trodAll_cons_mk (shut_bool Eatg.underlying4 _) trodAll_mk0)) (fun sp _ => (trodAll_cons_mk (shut_string Eatg.underlying9 w0) (trodAll_cons_mk (shut_int Eatg.underlying3 w1) (trodAll_cons_mk (shut_string Eatg.underlying9 w2) trodAll_mk0)))) (fun _ _ => rfl) rfl
    (hg.frame _) hg.2.1 (ok_one (by kernel_rfl) rfl (okWide_bool_mk Eatg.underlying4 _))⟩

theorem over : Rows.fnStringLitSpanOrderedRow.holds Eatg.pinned (OpenSpec.ofChange Rows.fnStringLitSpanOrderedSpec) :=
  OpenClaim.holds_of_wide 4 Eatg.f4 rfl rfl rfl rfl rfl rfl rfl ⟨rfl, rfl, rfl, rfl, rfl⟩ rfl rfl rfl rfl rfl (by kernel_rfl) Eatg.func4 (by kernel_rfl)
    (of_decide_eq_true (by kernel_rfl)) (by unfold Func.isWrapper; first | (rw [if_pos (by decide +kernel)]; kernel_rfl) | (rw [if_neg (by decide +kernel)]; exact ⟨rfl, rfl⟩))
    (fun os started H enc _ => lifted os started H enc)

/-- ████ THE STATEMENT ████ -/
theorem proved : Rows.FnStringLitSpanOrderedSaid :=
  over
end Go.Proofs.Yoeatw.fnStringLitSpanOrdered
