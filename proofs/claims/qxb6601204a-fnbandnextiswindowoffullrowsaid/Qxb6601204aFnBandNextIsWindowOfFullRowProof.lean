/-
  THE PROOF OF 'Rows.FnBandNextIsWindowOfFullRowSaid': the frame after the shells that were given with the seat, an array by value opened by hand.
-/
import Derived.Test.Qxb6601204aRows
import Derived.WalkKit
import Derived.ProofKit
import Derived.OpenShut
import Derived.ShutString
import Derived.ChangeOld
import Derived.Below
import Derived.Test.Qxb6601204aLawCore
namespace Go.Proofs.Qxb6601204a.fnBandNextIsWindowOfFullRow
open Go.ChangeShapes Go.WideShapes Go.ChangeAt Go.RowKit
open Go.ChangeMaps (open_string shut_string)
set_option linter.unusedVariables false

theorem own : ownKnob Try.prog.godebug = none := by kernel_rfl
theorem laidOut : laidOutB Try.prog = true := by kernel_rfl
theorem cells27 : Try.prog.cellsOf 27 = 5 := by kernel_rfl
theorem cells26 : Try.prog.cellsOf 26 = 1 := by kernel_rfl

theorem list5 {α : Type} (l : List α) (h : (⟨l⟩ : Array α).size = 5) : ∃ a b c d e, l = [a, b, c, d, e] := by
  match l, h with
  | [a, b, c, d, e], _ => exact ⟨a, b, c, d, e, rfl⟩

/-- An array of five int8, opened. -/
theorem open_arr5 {H : Type} {enc : TypeId × Value → H} {W : World} {sp : Nat → Bool} {held : Bool} {cs : Array Value} {d : DataW H} {p : List MemPlace} (hsz : cs.size = 5) (h : DataW.Trod enc Try.prog W 0 sp held 27 (.agg cs) d p) :
    ∃ b : Nat → Int, cs = #[.int .i8 (b 0), .int .i8 (b 1), .int .i8 (b 2), .int .i8 (b 3), .int .i8 (b 4)] ∧ ∀ s, s < 5 → -128 ≤ b s ∧ b s ≤ 127 := by
  obtain ⟨l⟩ := cs
  obtain ⟨c0, c1, c2, c3, c4, rfl⟩ := list5 l hsz
  obtain ⟨fuel, hf⟩ := h
  obtain ⟨xs, m, _, _, _, hl, hall⟩ := DataW.trod_array Try.underlying27 hf
  obtain ⟨y0, y1, y2, y3, y4, rfl⟩ := list5 xs hl
  have e0 := hall 0 (by omega); have e1 := hall 1 (by omega); have e2 := hall 2 (by omega); have e3 := hall 3 (by omega); have e4 := hall 4 (by omega)
  simp [cells26, Value.cells] at e0 e1 e2 e3 e4
  obtain ⟨n0, f0, _, g0⟩ := DataW.trod_int Try.underlying26 e0
  obtain ⟨n1, f1, _, g1⟩ := DataW.trod_int Try.underlying26 e1
  obtain ⟨n2, f2, _, g2⟩ := DataW.trod_int Try.underlying26 e2
  obtain ⟨n3, f3, _, g3⟩ := DataW.trod_int Try.underlying26 e3
  obtain ⟨n4, f4, _, g4⟩ := DataW.trod_int Try.underlying26 e4
  simp at f0 f1 f2 f3 f4
  refine ⟨fun s => [n0, n1, n2, n3, n4].getD s 0, ?_, ?_⟩
  · simp [f0, f1, f2, f3, f4]
  · intro s hs
    rcases (by omega : s = 0 ∨ s = 1 ∨ s = 2 ∨ s = 3 ∨ s = 4) with rfl | rfl | rfl | rfl | rfl
    · exact bounds_i8 g0
    · exact bounds_i8 g1
    · exact bounds_i8 g2
    · exact bounds_i8 g3
    · exact bounds_i8 g4

set_option maxRecDepth 100000 in
theorem law_long (b : Nat → Int) (r k : Int) (a : Option Addr) (len cap : Nat) (w : World) (hl : ¬ len ≤ 262144) :
    Calls Try.prog 5 #[.agg #[.int .i8 (b 0), .int .i8 (b 1), .int .i8 (b 2), .int .i8 (b 3), .int .i8 (b 4)], .int .i32 r, .int .i64 k, .slice a len cap] w fun e w' => e = .returned (.bool true) ∧ Below w.heap.size w w' := by
  by_cases h1 : len ≤ 1048576
  · go_enter Try.func5, Try.ntmps5
    go_wp2
    go_ret
    exact ⟨rfl, ((Below.refl _ _).alloc (Nat.le_refl _) _).alloc (by simp) _⟩
  · go_enter Try.func5, Try.ntmps5
    go_wp2
    go_ret
    exact ⟨rfl, ((Below.refl _ _).alloc (Nat.le_refl _) _).alloc (by simp) _⟩

/-! ### THE WALK: the Go text returns true, and writes nothing that was there. -/
theorem walk (b : Nat → Int) (r k : Int) (a : Option Addr) (len cap : Nat) (z : List Int) (w : World) (hw : IsRow .i32 w a len cap z) (hb8 : ∀ s, s < 5 → -128 ≤ b s ∧ b s ≤ 127)
    (w0 : -9223372036854775808 ≤ k) (w1 : k ≤ 9223372036854775807) :
    Calls Try.prog 5 #[.agg #[.int .i8 (b 0), .int .i8 (b 1), .int .i8 (b 2), .int .i8 (b 3), .int .i8 (b 4)], .int .i32 r, .int .i64 k, .slice a len cap] w fun e w' => e = .returned (.bool true) ∧ Below w.heap.size w w' := by
  by_cases h : len ≤ 262144
  · exact law_core b r k a len cap z w hw h hb8 w0 w1
  · exact law_long b r k a len cap w h

/-! ### THE ROW's STEP: WRITTEN OUT: LEAVE IT -/
set_option maxRecDepth 100000 in
theorem lifted (os : Os) (started : os.Started) (H : Type) (enc : TypeId × Value → H) :
    ReturnsInHanded {} Try.checked os 5 .any (Rows.fnBandNextIsWindowOfFullRowSpec.pre6 enc Try.prog Try.f5 Rows.fnBandNextIsWindowOfFullRowRow.domain false) (Rows.fnBandNextIsWindowOfFullRowSpec.post enc Try.prog Try.f5 false true false false) := by
  refine returnsInHanded_of_change (C := Try.checked) own started (by kernel_rfl) Try.func5
    (ChangeSpec.witness6 (enc := enc) (C := Try.checked) false ⟨#[], #[.agg #[.int .i8 0, .int .i8 0, .int .i8 0, .int .i8 0, .int .i8 0], .int .i32 0, .int .i64 0, .slice none 0 0], []⟩ 8 (by kernel_rfl) (by kernel_rfl) (by kernel_rfl) (by kernel_rfl)) ?_
  intro W base args ds gs before hval0 hW hcnd _
  have hval : ∀ (j : Nat) t v, Try.f5.params[j]? = some t → args[j]? = some v → Value.okWide Try.prog W .any base t v := hval0
  have hW' := hW
  obtain ⟨p, q, hA0, hV, rfl, hfz, hnd⟩ := hW
  have hA : DataW.TrodAll enc Try.prog W 0 (fun _ => true) true Try.f5.params.toList args.toList ds p := hA0
  rw [Try.params5] at hA hval
  obtain ⟨v0, vs0, d0, ds0, p0, q0, hargs, rfl, rfl, h0, r0⟩ := trodAll_cons hA
  obtain ⟨v1, vs1, d1, ds1, p1, q1, rfl, rfl, rfl, h1, r1⟩ := trodAll_cons r0
  obtain ⟨v2, vs2, d2, ds2, p2, q2, rfl, rfl, rfl, h2, r2⟩ := trodAll_cons r1
  obtain ⟨v3, vs3, d3, ds3, p3, q3, rfl, rfl, rfl, h3, r3⟩ := trodAll_cons r2
  obtain ⟨rfl, rfl, rfl⟩ := trodAll_nil r3
  obtain rfl : args = #[v0, v1, v2, v3] := by cases args; simp_all
  obtain ⟨rfl, rfl⟩ := trodVars_none hV
  obtain ⟨cs, rfl, hsz, _⟩ : ∃ cs, v0 = .agg cs ∧ cs.size = Try.prog.cellsOf 27 ∧ Row.okWide Try.prog W .any base 27 cs := by
    have := hval 0 27 v0 rfl rfl
    simpa [Value.okWide, Try.underlying27] using this
  rw [cells27] at hsz
  have k0 := h0
  have lt0 : ∀ x ∈ p0, x.block < W.heap.size := by obtain ⟨m, hm⟩ := k0; exact DataW.trod_lt m _ _ _ hm
  obtain ⟨b, rfl, hb8⟩ := open_arr5 hsz h0
  obtain ⟨r, rfl, rfl, rfl, wr⟩ := open_int Try.underlying21 (hval 1 21 v1 rfl rfl) h1
  obtain ⟨k, rfl, rfl, rfl, wk⟩ := open_int Try.underlying3 (hval 2 3 v2 rfl rfl) h2
  obtain ⟨a3, len3, cap3, rfl⟩ := okWide_slice Try.underlying28 (hval 3 28 v3 rfl rfl)
  have k3 := h3
  have lt3 : ∀ x ∈ p3, x.block < W.heap.size := by obtain ⟨m, hm⟩ := k3; exact DataW.trod_lt m _ _ _ hm
  obtain ⟨z3, w3⟩ : ∃ zs, IsRow .i32 W a3 len3 cap3 zs := by
    obtain ⟨fuel, hf⟩ := h3
    rcases open_ints Try.underlying28 Try.underlying21 (by kernel_rfl) hf with ⟨hcs, _⟩ | ⟨x, l, c, zs, hcs, _, hl, hm, hz, _, hcell, hwz⟩
    · simp [Value.cells] at hcs
      obtain ⟨rfl, rfl, rfl⟩ := hcs
      exact ⟨[], .inl ⟨rfl, rfl, rfl, rfl⟩⟩
    · simp [Value.cells] at hcs
      obtain ⟨rfl, rfl, rfl⟩ := hcs
      exact ⟨zs, .inr ⟨_, rfl, hl, hm, by simpa using hz, hcell, hwz⟩⟩
  clear hA0 hval0
  refine (walk b r k a3 len3 cap3 z3 W w3 hb8 (bounds_i64 wk).1 (bounds_i64 wk).2).mono fun e W' ⟨he, bel⟩ => ?_
  subst he
  exact ⟨_, rfl, _, _, _, [], _, [], hW', trodAll_mk1 (shut_bool Try.underlying4 _), (trodAll_cons_mk (Below.trod laidOut (by kernel_rfl) (of_decide_eq_true (by kernel_rfl)) k0 bel lt0) (trodAll_cons_mk (shut_int Try.underlying21 wr) (trodAll_cons_mk (shut_int Try.underlying3 wk) (trodAll_cons_mk (Below.trod laidOut (by kernel_rfl) (of_decide_eq_true (by kernel_rfl)) k3 bel lt3) trodAll_mk0)))), rfl, bel.frame _, fun h => by cases h⟩

theorem over : Rows.fnBandNextIsWindowOfFullRowRow.holds Try.pinned (OpenSpec.ofChange Rows.fnBandNextIsWindowOfFullRowSpec) :=
  OpenClaim.holds_of_wide 5 Try.f5 rfl rfl rfl rfl rfl rfl rfl ⟨rfl, rfl, rfl, rfl, rfl⟩ rfl rfl rfl rfl rfl (by kernel_rfl) Try.func5 (by kernel_rfl)
    (of_decide_eq_true (by kernel_rfl)) (by unfold Func.isWrapper; first | (rw [if_pos (by decide +kernel)]; kernel_rfl) | (rw [if_neg (by decide +kernel)]; exact ⟨rfl, rfl⟩))
    (fun os started H enc _ => lifted os started H enc)

/-- ████ THE STATEMENT ████ -/
theorem proved : Rows.FnBandNextIsWindowOfFullRowSaid := over
end Go.Proofs.Qxb6601204a.fnBandNextIsWindowOfFullRow
