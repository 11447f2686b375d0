/-
  'zzc := make([]T, len(q)); copy(zzc, q)': the new row holds what q held. A law for the walk. No Go text in sight.
-/
import Derived.Deep.OwnRows
import Derived.Laws.CopyOwn
import Derived.WalkKit
namespace Go.Proofs.Qxb6601204a
open Go.RowKit

theorem wpList_copy_full {P : Program} {w : World} {ops : Array Oper} {rest : List Oper} {o : Oper} {a : Act} {Q : Exit → Act → World → Prop} (hgd : o.guard = none) (d s : Operand) (dT sT : TypeId)
    (ho : o.op = .call { callee := .builtin .copy, args := #[d, s], argTypes := #[dT, sT] }) (elem : TypeId) (hu : P.underlying dT = some (.slice elem)) (hsz : (P.info? elem).map (·.size) = some 1)
    (g n cap : Nat) (x : Addr) (hd : a.eval d = .slice (some ⟨g, 0, none⟩) n n) (hs : a.eval s = .slice (some x) n cap)
    (z : Value) (t : TypeId) (hg : w.heap[g]? = some (.cells (madeCells #[z] n) t (0, 0))) (f : Nat → Value)
    (hsrc : ∀ j, j < n → w.cell? (x.add j) = some (f j)) (h1 : ∀ j, (f j).oneCell' = true) (B : Nat) (w0 : World) (hb : Below B w0 w) (hBg : B ≤ g)
    (h : ∀ w', w'.rowIs g t n f → Below B w0 w' → wpList P ops Q rest (a.put o.dst (goInt n)) w') :
    wpList P ops Q (o :: rest) a w := by
  have hsize : (madeCells #[z] n).size = n := size_madeCells _ _
  have hcl : ((List.range n).map f).length = n := by simp
  refine wpList_copy_splice hgd d s dT sT ho elem hu hsz _ _ n n n cap hd hs g 0 (madeCells #[z] n).toList t (by simpa using hg) ((List.range n).map f) (by rw [hcl]; exact (Nat.min_self n).symm) ?_ ?_ ?_ B w0 hb hBg ?_
  · intro _
    refine ⟨rfl, x, rfl, fun j v hv => ?_⟩
    simp only [List.getElem?_map, Option.map_eq_some_iff] at hv
    obtain ⟨i, hi, rfl⟩ := hv
    obtain ⟨hlt, e⟩ := List.getElem?_eq_some_iff.1 hi
    simp at e hlt
    subst e
    exact hsrc _ hlt
  · rw [hcl, Array.length_toList, hsize]; omega
  · intro v hv
    simp only [List.mem_map] at hv
    obtain ⟨i, _, rfl⟩ := hv
    exact h1 i
  · intro w' hw' hb'
    rw [hcl]
    refine h w' ⟨_, hw'.out, ?_, ?_⟩ hb'
    · simp [splice, hsize]
    · intro i hi
      simp [splice, List.getElem?_append, hi]
end Go.Proofs.Qxb6601204a
