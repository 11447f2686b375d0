/-
  THE PROOF OF 'Rows.FnMembersMatchesEscapeRunModelSaid': the shell that was given with the seat, its hole filled.
-/
import Derived.Test.Qxb6601204aRows
import Derived.WalkKit
import Derived.ProofKit
import Derived.OpenShut
import Derived.ShutString
import Derived.ChangeOld
import Derived.Below
import Derived.Deep.DeepCutAuto
import Derived.Test.Qxb6601204aMembers
import Derived.Test.Qxb6601204aCopy
namespace Go.Proofs.Qxb6601204a.fnMembersMatchesEscapeRunModel
open Go.ChangeShapes Go.WideShapes Go.ChangeAt Go.RowKit
open Go.ChangeMaps (open_string shut_string)
set_option linter.unusedVariables false

theorem own : ownKnob Try.prog.godebug = none := by kernel_rfl
theorem laidOut : laidOutB Try.prog = true := by kernel_rfl

/-- WHAT THE WALK IS TOLD OF A SLICE OF INTEGERS THAT CAME IN: it is nil; or it leads to a row of 'cap' cells, the numbers 'zs' (the first 'len' are its elements, the rest its spare room), each fitting its kind. -/
def IsRow (k : IntKind) (w : World) (a : Option Addr) (len cap : Nat) (zs : List Int) : Prop :=
  (a = none ∧ len = 0 ∧ cap = 0 ∧ zs = []) ∨
  ∃ x, a = some x ∧ len ≤ cap ∧ cap ≤ maxLen ∧ zs.length = cap ∧ (∀ i, i < zs.length → w.cell? (x.add i) = some (.int k (zs.getD i 0))) ∧ ∀ n ∈ zs, (Lit.int k n).wf = true

theorem info5 : (Try.prog.info? 5).map (fun i => (i.zero, i.size, i.bytes)) = some (some (.int .u8 0), 1, 1) := by kernel_rfl
theorem size5 : (Try.prog.info? 5).map (·.size) = some 1 := by kernel_rfl

set_option maxRecDepth 100000 in
theorem walk_long (a0 : Option Addr) (len0 cap0 : Nat) (w : World) (hl : ¬ len0 ≤ 1048576) :
    Calls Try.prog 3 #[.slice a0 len0 cap0] w fun e w' => e = .returned (.bool true) ∧ Below w.heap.size w w' := by
  go_enter Try.func3, Try.ntmps3
  go_wp2
  go_ret
  exact ⟨rfl, Below.refl _ _⟩

set_option maxRecDepth 100000 in
theorem walk_nil (w : World) : Calls Try.prog 3 #[.slice none 0 0] w fun e w' => e = .returned (.bool true) ∧ Below w.heap.size w w' := by
  have hne := fun (w : World) => run_neq_slice_nil_any (P := Try.prog) w 22 5 none 0 0 0 0 Try.underlying22
  go_enter Try.func3, Try.ntmps3
  go_wp2_with (first | (go_at_call 9; refine (zzmembers_any _ _ _ (fun _ => 0) _ (by omega) (fun h => absurd h (by omega))).mono ?_; rintro e w' ⟨rfl, rfl⟩) | (go_at_call 10; refine (model_any _ _ _ (fun _ => 0) _ (by omega) (fun h => absurd h (by omega))).mono ?_; rintro e w' ⟨rfl, rfl⟩) | go_in)
  go_ret
  exact ⟨by simp, Below.refl _ _⟩

set_option maxRecDepth 100000 in
theorem walk_some (x : Addr) (len0 cap0 : Nat) (z0 : List Int) (w : World) (hl : len0 ≤ 1048576) (hcell : ∀ i, i < len0 → w.cell? (x.add i) = some (.int .u8 (z0.getD i 0))) :
    Calls Try.prog 3 #[.slice (some x) len0 cap0] w fun e w' => e = .returned (.bool true) ∧ Below w.heap.size w w' := by
  have hne := fun (w : World) => run_neq_slice_nil_any (P := Try.prog) w 22 5 (some x) len0 cap0 0 0 Try.underlying22
  have hmk := fun (w : World) => run_make_row' (P := Try.prog) 22 5 (.int .u8 0) 1 Try.underlying22 info5 rfl .i64 .i64 len0 (by omega) (by omega) w
  have hc2 : ∀ j, j < len0 → (w.alloc (.cells (madeCells #[.int .u8 0] len0) 5)).cell? (x.add j) = some (.int .u8 (z0.getD j 0)) := fun j hj => Lib.cell?_alloc_some _ (hcell j hj)
  have hg : (w.alloc (.cells (madeCells #[.int .u8 0] len0) 5)).heap[w.heap.size]? = some (.cells (madeCells #[.int .u8 0] len0) 5 (0, 0)) := Deep.blk_alloc_new _ _
  have hb : Below w.heap.size w (w.alloc (.cells (madeCells #[.int .u8 0] len0) 5)) := (Below.refl _ _).alloc (Nat.le_refl _) _
  have HH : Hid _ := And.intro hc2 (And.intro hg hb)
  clear hc2 hg hb hcell
  go_enter Try.func3, Try.ntmps3
  go_upto_region 7 with go_in
  go_upto_region 9 with (refine wpList_copy_full rfl (.tmp 15) (.tmp 16) 22 22 rfl 5 Try.underlying22 size5 w.heap.size len0 cap0 x rfl rfl (.int .u8 0) 5 HH.out.2.1 (fun i => .int .u8 (z0.getD i 0)) HH.out.1 (fun _ => rfl) w.heap.size w HH.out.2.2 (Nat.le_refl _) ?_; intro w2 hrow hb2)
  have HB : Hid (Bytes w2 (some ⟨w.heap.size, 0, none⟩) len0 (fun i => z0.getD i 0)) := fun _ => ⟨w.heap.size, 0, rfl, fun j hj => by rw [Nat.zero_add]; exact hrow.cell hj⟩
  clear hrow HH hmk hne
  go_wp2_with (first | (go_at_call 9; refine (zzmembers_any _ _ _ (fun i => z0.getD i 0) _ hl HB.out).mono ?_; rintro e w' ⟨rfl, rfl⟩) | (go_at_call 10; refine (model_any _ _ _ (fun i => z0.getD i 0) _ hl HB.out).mono ?_; rintro e w' ⟨rfl, rfl⟩))
  go_ret
  exact ⟨by simp, hb2⟩

/-! ### THE WALK: the Go text returns true, and writes nothing that was there. -/
theorem walk (a0 : Option Addr) (len0 cap0 : Nat) (z0 : List Int) (w : World) (w0 : IsRow .u8 w a0 len0 cap0 z0) :
    Calls Try.prog 3 #[.slice a0 len0 cap0] w fun e w' => e = .returned (.bool true) ∧ Below w.heap.size w w' := by
  by_cases h : len0 ≤ 1048576
  · rcases w0 with ⟨rfl, rfl, rfl, rfl⟩ | ⟨x, rfl, hlc, hcm, hzl, hcell, _⟩
    · exact walk_nil w
    · exact walk_some x len0 cap0 z0 w h (fun i hi => hcell i (by omega))
  · exact walk_long a0 len0 cap0 w h

/-! ### THE ROW's STEP: WRITTEN OUT: LEAVE IT -/
set_option maxRecDepth 100000 in
theorem lifted (os : Os) (started : os.Started) (H : Type) (enc : TypeId × Value → H) :
    ReturnsInHanded {} Try.checked os 3 .any (Rows.fnMembersMatchesEscapeRunModelSpec.pre6 enc Try.prog Try.f3 Rows.fnMembersMatchesEscapeRunModelRow.domain false) (Rows.fnMembersMatchesEscapeRunModelSpec.post enc Try.prog Try.f3 false true false false) := by
  refine returnsInHanded_of_change (C := Try.checked) own started (by kernel_rfl) Try.func3
    (ChangeSpec.witness6 (enc := enc) (C := Try.checked) false ⟨#[], #[.slice none 0 0], []⟩ 8 (by kernel_rfl) (by kernel_rfl) (by kernel_rfl) (by kernel_rfl)) ?_
  intro W base args ds gs before hval0 hW hcnd _
  have hval : ∀ (j : Nat) t v, Try.f3.params[j]? = some t → args[j]? = some v → Value.okWide Try.prog W .any base t v := hval0
  have hW' := hW
  obtain ⟨p, q, hA0, hV, rfl, hfz, hnd⟩ := hW
  have hA : DataW.TrodAll enc Try.prog W 0 (fun _ => true) true Try.f3.params.toList args.toList ds p := hA0
  rw [Try.params3] at hA hval
  obtain ⟨v0, vs0, d0, ds0, p0, q0, hargs, rfl, rfl, h0, r0⟩ := trodAll_cons hA
  obtain ⟨rfl, rfl, rfl⟩ := trodAll_nil r0
  obtain rfl : args = #[v0] := by cases args; simp_all
  obtain ⟨rfl, rfl⟩ := trodVars_none hV
  obtain ⟨a0, len0, cap0, rfl⟩ := okWide_slice Try.underlying22 (hval 0 22 v0 rfl rfl)
  have k0 := h0
  have lt0 : ∀ x ∈ p0, x.block < W.heap.size := by obtain ⟨m, hm⟩ := k0; exact DataW.trod_lt m _ _ _ hm
  obtain ⟨z0, w0⟩ : ∃ zs, IsRow .u8 W a0 len0 cap0 zs := by
    obtain ⟨fuel, hf⟩ := h0
    rcases open_ints Try.underlying22 Try.underlying5 (by kernel_rfl) hf with ⟨hcs, _⟩ | ⟨x, l, c, zs, hcs, _, hl, hm, hz, _, hcell, hwz⟩
    · simp [Value.cells] at hcs
      obtain ⟨rfl, rfl, rfl⟩ := hcs
      exact ⟨[], .inl ⟨rfl, rfl, rfl, rfl⟩⟩
    · simp [Value.cells] at hcs
      obtain ⟨rfl, rfl, rfl⟩ := hcs
      exact ⟨zs, .inr ⟨_, rfl, hl, hm, by simpa using hz, hcell, hwz⟩⟩
  clear hA0 hval0
  refine (walk a0 len0 cap0 z0 W w0).mono fun e W' ⟨he, bel⟩ => ?_
  subst he
  exact ⟨_, rfl, _, _, _, [], _, [], hW', trodAll_mk1 (shut_bool Try.underlying4 _), (trodAll_cons_mk (Below.trod laidOut (by kernel_rfl) (of_decide_eq_true (by kernel_rfl)) k0 bel lt0) trodAll_mk0), rfl, bel.frame _, fun h => by cases h⟩

theorem over : Rows.fnMembersMatchesEscapeRunModelRow.holds Try.pinned (OpenSpec.ofChange Rows.fnMembersMatchesEscapeRunModelSpec) :=
  OpenClaim.holds_of_wide 3 Try.f3 rfl rfl rfl rfl rfl rfl rfl ⟨rfl, rfl, rfl, rfl, rfl⟩ rfl rfl rfl rfl rfl (by kernel_rfl) Try.func3 (by kernel_rfl)
    (of_decide_eq_true (by kernel_rfl)) (by unfold Func.isWrapper; first | (rw [if_pos (by decide +kernel)]; kernel_rfl) | (rw [if_neg (by decide +kernel)]; exact ⟨rfl, rfl⟩))
    (fun os started H enc _ => lifted os started H enc)

/-- ████ THE STATEMENT ████ -/
theorem proved : Rows.FnMembersMatchesEscapeRunModelSaid := over
end Go.Proofs.Qxb6601204a.fnMembersMatchesEscapeRunModel
