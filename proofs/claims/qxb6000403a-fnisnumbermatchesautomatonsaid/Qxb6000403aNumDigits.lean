/-
  THE WALK OF THE CLOSURE IN 'isNumber': it eats digits.
-/
import Derived.Test.Qxb6000403aNumLaw
import Derived.Deep.OwnRows
import Derived.Deep.DeepCutAuto
import Derived.OpenShut
namespace Go.Proofs.Qxb6000403a.NumLaw
open Go.RowKit
open Num

/-- Where 'isNumber' stands: the box of its slice, and its index. -/
structure NumAt (a : Option Addr) (n cap i : Nat) (w wr : World) : Prop where
  below : Below w.heap.size w wr
  box : wr.rowIs w.heap.size 22 1 (fun _ => .slice a n cap)
  idx : wr.rowIs (w.heap.size + 1) 3 1 (fun _ => .int .i64 (i : Int))

theorem NumAt.set {a : Option Addr} {n cap i : Nat} {w wr : World} (h : NumAt a n cap i w wr) (j : Nat) :
    NumAt a n cap j w (wr.setCell ⟨w.heap.size + 1, 0, none⟩ (.int .i64 (j : Int))) :=
  ⟨h.below.setCell (by show _ ≤ _ + 1; omega) _, h.box.setOther (by show _ ≠ _ + 1; omega) _, (h.idx.set 0 _).congr (fun k hk => by rw [if_pos (by omega)])⟩

set_option maxRecDepth 100000 in
theorem digits_any (a : Option Addr) (n cap i : Nat) (f : Nat → Int) (w w0 : World) (hn : n ≤ 1048576) (hi : i ≤ n) (hC : Cells w a n f) (hA : NumAt a n cap i w w0) :
    Calls Try.prog 24 #[.pointer (some ⟨w.heap.size + 1, 0, none⟩), .pointer (some ⟨w.heap.size, 0, none⟩)] w0 fun e w' => e = .returned (.bool (decide (i < D f n i))) ∧ NumAt a n cap (D f n i) w w' := by
  have HC : Hid _ := hC
  have HA : Hid _ := hA
  have hx := hA.idx.cell (i := 0) (by omega)
  clear hC hA
  go_enter Try.func24, Try.ntmps24
  go_wp2
  clear hx
  go_loopw [] (fun wr => ∃ k : Nat, k ≤ n ∧ Hid (D f n k = D f n i) ∧ NumAt a n cap k w wr) (fun wr => n - (intOf ((wr.cell? ⟨w.heap.size + 1, 0, none⟩).getD undef)).toNat)
  case atStart => exact ⟨i, hi, rfl, HA.out⟩
  case round =>
    obtain ⟨k, hk, hD, hN⟩ := hrel
    have hx := hN.idx.cell (i := 0) (by omega)
    have hy := hN.box.cell (i := 0) (by omega)
    have hfz := hN.idx.frozen 0
    have HN : Hid _ := hN
    clear hN
    by_cases hlt : k < n
    · obtain ⟨b, off, rfl, hb, hc⟩ := HC.out (by omega)
      have hck := (HN.out.below.cell (p := ⟨b, off + k, none⟩) hb).trans (hc k hlt)
      clear hc
      by_cases h1 : 48 ≤ f k
      · by_cases h2 : f k ≤ 57
        · have hd := dig_mk ⟨h1, h2⟩
          have HD : Hid _ := hd
          clear hd
          go_wp2
          go_roundw
          case rel => exact ⟨k + 1, by omega, by rw [← D_dig hlt HD.out]; exact hD, by have := HN.out.set (k + 1); simpa using this⟩
          case measure => rw [World.cell?_setCell_same' _ _ _ (by rw [hx]; rfl), hx]; simp [intOf]; omega
        · have hd := dig_no (c := f k) (by omega)
          have E : Hid (D f n i = k) := hD.out.symm.trans (D_not (n := n) hd)
          clear hd
          go_wp2
          go_ret
          exact ⟨by rw [E.out]; simp, by rw [E.out]; exact HN.out⟩
      · have hd := dig_no (c := f k) (by omega)
        have E : Hid (D f n i = k) := hD.out.symm.trans (D_not (n := n) hd)
        clear hd
        go_wp2
        go_ret
        exact ⟨by rw [E.out]; simp, by rw [E.out]; exact HN.out⟩
    · have E : Hid (D f n i = k) := hD.out.symm.trans (D_end (n := n) hlt)
      go_wp2
      go_ret
      exact ⟨by rw [E.out]; simp, by rw [E.out]; exact HN.out⟩
end Go.Proofs.Qxb6000403a.NumLaw
