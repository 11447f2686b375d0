/-
  THE PROOF OF 'Rows.FnJoinRulesSplitsAtAnyCutSaid': the frame after the shells that were given with the seats, a slice of structs of three strings opened by hand.
-/
import Derived.Test.Qxb6601275aRows
import Derived.WalkKit
import Derived.ProofKit
import Derived.OpenShut
import Derived.ShutString
import Derived.ChangeOld
import Derived.Below
import Derived.Deep.Strs
import Derived.Deep.Slices
import Derived.Test.Qxb6601275aJoinLaw
namespace Go.Proofs.Qxb6601275a.fnJoinRulesSplitsAtAnyCut
open Go.ChangeShapes Go.WideShapes Go.ChangeAt Go.RowKit
open Go.ChangeMaps (open_string shut_string)
set_option linter.unusedVariables false

theorem own : ownKnob Try.prog.godebug = none := by kernel_rfl
theorem laidOut : laidOutB Try.prog = true := by kernel_rfl
theorem cells44 : Try.prog.cellsOf 44 = 3 := by kernel_rfl
theorem cells9 : Try.prog.cellsOf 9 = 1 := by kernel_rfl

theorem list3 {α : Type} (l : List α) (h : l.length = 3) : ∃ a b c, l = [a, b, c] := by
  match l, h with
  | [a, b, c], _ => exact ⟨a, b, c, rfl⟩

theorem cell_lt {w : World} {a : Addr} {v : Value} (h : w.cell? a = some v) : a.block < w.heap.size := by
  rcases Nat.lt_or_ge a.block w.heap.size with h' | h'
  · exact h'
  · simp [World.cell?, Array.getElem?_eq_none h'] at h

/-- A slice of rules, opened. -/
theorem open_rules {H : Type} {enc : TypeId × Value → H} {W : World} {fuel : Nat} {a : Option Addr} {len cap : Nat} {x : DataW H × List MemPlace}
    (hf : DataW.trod enc Try.prog W 0 (fun _ => true) true fuel 31 (Value.slice a len cap).cells.toList = some x) :
    (a = none → len = 0 ∧ cap = 0) ∧ ∃ N R F, JoinLaw.RulesAt W a len N R F := by
  rcases Deep.open_slice Try.underlying31 hf with ⟨hcs, _⟩ | ⟨y, l, c, m, n, D, Pl, hcs, _, hl, _, hm, _, hx⟩
  · simp [Value.cells] at hcs
    obtain ⟨rfl, rfl, rfl⟩ := hcs
    exact ⟨fun _ => ⟨rfl, rfl⟩, fun _ => default, fun _ => default, fun _ => default, fun h => absurd h (by omega)⟩
  · simp [Value.cells] at hcs
    obtain ⟨rfl, rfl, rfl⟩ := hcs
    refine ⟨(fun e => by cases e), ?_⟩
    have each : ∀ i, i < len → ∃ q : ByteArray × ByteArray × ByteArray, W.cell? (y.add (i * 3)) = some (.string q.1) ∧ W.cell? (y.add (i * 3 + 1)) = some (.string q.2.1) ∧ W.cell? (y.add (i * 3 + 2)) = some (.string q.2.2) := by
      intro i hi
      obtain ⟨cs', h1, h2⟩ := hx i (by rw [hm]; simp; omega)
      rw [cells44] at h1
      obtain ⟨_, hlen, hcell⟩ := World.cells?_some h1
      obtain ⟨v0, v1, v2, rfl⟩ := list3 cs' hlen
      obtain ⟨y0, y1, y2, k, _, _, g0, g1, g2⟩ := Deep.trod_struct3 Try.underlying44 h2
      simp [cells9] at g0 g1 g2
      obtain ⟨s0, e0, _⟩ := DataW.trod_string Try.underlying9 g0
      obtain ⟨s1, e1, _⟩ := DataW.trod_string Try.underlying9 g1
      obtain ⟨s2, e2, _⟩ := DataW.trod_string Try.underlying9 g2
      simp at e0 e1 e2
      subst e0 e1 e2
      have c0 := hcell 0 (by omega); have c1 := hcell 1 (by omega); have c2 := hcell 2 (by omega)
      rw [Deep.add_add] at c0 c1 c2
      exact ⟨(s0, s1, s2), by simpa using c0, by simpa using c1, by simpa using c2⟩
    obtain ⟨q, hq⟩ := Deep.choose_lt each
    refine ⟨fun i => (q i).1, fun i => (q i).2.1, fun i => (q i).2.2, fun hp => ?_⟩
    obtain ⟨b, off, spot⟩ := y
    have hspot : spot = none := by simpa [Addr.add] using World.cell?_spot (hq 0 hp).1
    subst hspot
    have hlt : b < W.heap.size := by
      have := cell_lt (hq 0 hp).1
      simpa [Addr.add] using this
    refine ⟨b, off, rfl, hlt, fun i hi => ?_⟩
    obtain ⟨c0, c1, c2⟩ := hq i hi
    rw [Addr.add_lit] at c0 c1 c2
    rw [← Nat.add_assoc] at c1 c2
    exact ⟨c0, c1, c2⟩

/-! ### THE ROW's STEP: WRITTEN OUT: LEAVE IT -/
set_option maxRecDepth 100000 in
theorem lifted (os : Os) (started : os.Started) (H : Type) (enc : TypeId × Value → H) :
    ReturnsInHanded {} Try.checked os 7 .any (Rows.fnJoinRulesSplitsAtAnyCutSpec.pre6 enc Try.prog Try.f7 Rows.fnJoinRulesSplitsAtAnyCutRow.domain false) (Rows.fnJoinRulesSplitsAtAnyCutSpec.post enc Try.prog Try.f7 false true false false) := by
  refine returnsInHanded_of_change (C := Try.checked) own started (by kernel_rfl) Try.func7
    (ChangeSpec.witness6 (enc := enc) (C := Try.checked) false ⟨#[], #[.slice none 0 0, .slice none 0 0], []⟩ 8 (by kernel_rfl) (by kernel_rfl) (by kernel_rfl) (by kernel_rfl)) ?_
  intro W base args ds gs before hval0 hW hcnd _
  have hval : ∀ (j : Nat) t v, Try.f7.params[j]? = some t → args[j]? = some v → Value.okWide Try.prog W .any base t v := hval0
  have hW' := hW
  obtain ⟨p, q, hA0, hV, rfl, hfz, hnd⟩ := hW
  have hA : DataW.TrodAll enc Try.prog W 0 (fun _ => true) true Try.f7.params.toList args.toList ds p := hA0
  rw [Try.params7] at hA hval
  obtain ⟨v0, vs0, d0, ds0, p0, q0, hargs, rfl, rfl, h0, r0⟩ := trodAll_cons hA
  obtain ⟨v1, vs1, d1, ds1, p1, q1, rfl, rfl, rfl, h1, r1⟩ := trodAll_cons r0
  obtain ⟨rfl, rfl, rfl⟩ := trodAll_nil r1
  obtain rfl : args = #[v0, v1] := by cases args; simp_all
  obtain ⟨rfl, rfl⟩ := trodVars_none hV
  obtain ⟨a0, len0, cap0, rfl⟩ := okWide_slice Try.underlying31 (hval 0 31 v0 rfl rfl)
  have k0 := h0
  have lt0 : ∀ x ∈ p0, x.block < W.heap.size := by obtain ⟨m, hm⟩ := k0; exact DataW.trod_lt m _ _ _ hm
  obtain ⟨n0, N, R, F, w0⟩ : (a0 = none → len0 = 0 ∧ cap0 = 0) ∧ ∃ N R F, JoinLaw.RulesAt W a0 len0 N R F := by
    obtain ⟨fuel, hf⟩ := h0
    exact open_rules hf
  obtain ⟨a1, len1, cap1, rfl⟩ := okWide_slice Try.underlying31 (hval 1 31 v1 rfl rfl)
  have k1 := h1
  have lt1 : ∀ x ∈ p1, x.block < W.heap.size := by obtain ⟨m, hm⟩ := k1; exact DataW.trod_lt m _ _ _ hm
  obtain ⟨n1, N', R', F', w1⟩ : (a1 = none → len1 = 0 ∧ cap1 = 0) ∧ ∃ N R F, JoinLaw.RulesAt W a1 len1 N R F := by
    obtain ⟨fuel, hf⟩ := h1
    exact open_rules hf
  clear hA0 hval0
  refine (JoinLaw.law_any a0 a1 len0 cap0 len1 cap1 N R F N' R' F' W n0 n1 w0 w1).mono fun e W' ⟨he, bel⟩ => ?_
  subst he
  exact ⟨_, rfl, _, _, _, [], _, [], hW', trodAll_mk1 (shut_bool Try.underlying4 _), (trodAll_cons_mk (Below.trod laidOut (by kernel_rfl) (of_decide_eq_true (by kernel_rfl)) k0 bel lt0) (trodAll_cons_mk (Below.trod laidOut (by kernel_rfl) (of_decide_eq_true (by kernel_rfl)) k1 bel lt1) trodAll_mk0)), rfl, bel.frame _, fun h => by cases h⟩

theorem over : Rows.fnJoinRulesSplitsAtAnyCutRow.holds Try.pinned (OpenSpec.ofChange Rows.fnJoinRulesSplitsAtAnyCutSpec) :=
  OpenClaim.holds_of_wide 7 Try.f7 rfl rfl rfl rfl rfl rfl rfl ⟨rfl, rfl, rfl, rfl, rfl⟩ rfl rfl rfl rfl rfl (by kernel_rfl) Try.func7 (by kernel_rfl)
    (of_decide_eq_true (by kernel_rfl)) (by unfold Func.isWrapper; first | (rw [if_pos (by decide +kernel)]; kernel_rfl) | (rw [if_neg (by decide +kernel)]; exact ⟨rfl, rfl⟩))
    (fun os started H enc _ => lifted os started H enc)

/-- ████ THE STATEMENT ████ -/
theorem proved : Rows.FnJoinRulesSplitsAtAnyCutSaid := over
end Go.Proofs.Qxb6601275a.fnJoinRulesSplitsAtAnyCut
