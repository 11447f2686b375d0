/-
  THE WALK OF 'isNumber'.
-/
import Derived.Test.Qxb6000403aNumDigits
import Derived.Deep.CutBlock
namespace Go.Proofs.Qxb6000403a.NumLaw
open Go.RowKit
open Num

theorem NumAt.start (a : Option Addr) (n cap : Nat) (w : World) : NumAt a n cap 0 w ((w.alloc (Obj.cells #[.slice a n cap] 22)).alloc (Obj.cells #[.int .i64 0] 3)) :=
  ⟨((Below.refl _ _).alloc (Nat.le_refl _) _).alloc (by simp) _, (World.rowIs_alloc w #[.slice a n cap] 22 (fun _ => .slice a n cap) (fun i hi => by cases i with | zero => rfl | succ m => exact absurd hi (by simp))).alloc _,
    by
      have := World.rowIs_alloc (w.alloc (Obj.cells #[.slice a n cap] 22)) #[.int .i64 0] 3 (fun _ => .int .i64 0) (fun i hi => by cases i with | zero => rfl | succ m => exact absurd hi (by simp))
      simpa using this⟩

/-- A test's answer. -/
def Tst (v : Value) (p : Prop) : Prop := ∃ t : Bool, v = .bool t ∧ (t = true ↔ p)
theorem Tst.yes {p : Prop} (h : p) : Tst (.bool true) p := ⟨true, rfl, fun _ => h, fun _ => rfl⟩
theorem Tst.no {p : Prop} (h : ¬ p) : Tst (.bool false) p := ⟨false, rfl, fun e => (by cases e), fun x => absurd x h⟩

set_option maxRecDepth 100000 in
set_option maxHeartbeats 1000000 in
theorem isnum (a : Option Addr) (n cap : Nat) (f : Nat → Int) (w : World) (hn : n ≤ 1048576) (hC : Cells w a n f) :
    Calls Try.prog 21 #[.slice a n cap] w fun e w' => e = .returned (.bool (num f n)) ∧ Below w.heap.size w w' := by
  have HC : Hid _ := hC
  clear hC
  go_enter Try.func21, Try.ntmps21
  go_upto_region 3 with fail
  have HN : Hid _ := NumAt.start a n cap w
  generalize ((w.alloc (Obj.cells #[Value.slice a n cap] 22)).alloc (Obj.cells #[Value.int IntKind.i64 0] 3)) = w0 at HN ⊢
  obtain ⟨k, hk0⟩ : ∃ k : Nat, 0 = k := ⟨0, rfl⟩
  rw [hk0] at HN
  have hk : k ≤ n := by omega
  have HK : Hid (num f n = if k < n ∧ f k = 45 then int1 f n (k + 1) else int1 f n k) := by subst hk0; unfold num; rfl
  clear hk0
  go_cut [16] (fun c wx => Tst c (k < n ∧ f k = 45) ∧ NumAt a n cap k w wx)
  case first =>
    have hx := HN.out.idx.cell (i := 0) (by omega)
    have hy := HN.out.box.cell (i := 0) (by omega)
    by_cases hlt : k < n
    · obtain ⟨b, off, rfl, hb, hc⟩ := HC.out (by omega)
      have hck := (HN.out.below.cell (p := ⟨b, off + k, none⟩) hb).trans (hc k hlt)
      clear hc
      by_cases h1 : f k = 45
      · have h1' : (f k == 45) = true := by simp [h1]
        have HE : Hid (k < n ∧ f k = 45) := ⟨hlt, h1⟩
        clear h1
        go_wp2
        go_meet
        case rel => exact ⟨by first | exact Tst.yes HE.out | exact Tst.no HE.out, HN.out⟩
      · have h1' : (f k == 45) = false := by simp [h1]
        have HE : Hid (¬ (k < n ∧ f k = 45)) := (fun x => h1 x.2)
        clear h1
        go_wp2
        go_meet
        case rel => exact ⟨by first | exact Tst.yes HE.out | exact Tst.no HE.out, HN.out⟩
    · have HE : Hid (¬ (k < n ∧ f k = 45)) := (fun x => hlt x.1)
      go_wp2
      go_meet
      case rel => exact ⟨by first | exact Tst.yes HE.out | exact Tst.no HE.out, HN.out⟩
  case rest =>
    obtain ⟨⟨t, rfl, ht⟩, hN⟩ := hcut
    have HT : Hid _ := ht
    clear ht
    have HM : Hid _ := hN
    clear hN HN
    go_upto_if 16 with fail
    go_cut [] (fun wx => ∃ i : Nat, i ≤ n ∧ Hid (num f n = int1 f n i) ∧ NumAt a n cap i w wx)
    case first =>
      have hx := HM.out.idx.cell (i := 0) (by omega)
      have hy := HM.out.box.cell (i := 0) (by omega)
      have hfz := HM.out.idx.frozen 0
      by_cases hc : k < n ∧ f k = 45
      · obtain rfl : t = true := HT.out.2 hc
        have hlt := hc.1
        have HR : Hid (num f n = int1 f n (k + 1)) := HK.out.trans (if_pos hc)
        clear hc
        go_wp2
        go_meet
        case rel => exact ⟨k + 1, by omega, HR, (by have := HM.out.set (k + 1); simpa using this)⟩
      · obtain rfl : t = false := by cases t with | false => rfl | true => exact absurd (HT.out.1 rfl) hc
        have HR : Hid (num f n = int1 f n k) := HK.out.trans (if_neg hc)
        clear hc
        go_wp2
        go_meet
        case rel => exact ⟨k, by omega, HR, HM.out⟩
    case rest =>
      clear HM HK hk HT
      obtain ⟨k, hk, HK, hN⟩ := hcut
      have HN : Hid _ := hN
      clear hN
      go_upto_block 0 with fail
      go_cut [] (fun wx => ∃ i : Nat, i ≤ n ∧ Hid (num f n = frac f n i) ∧ NumAt a n cap i w wx)
      case first =>
        go_upto_region 5 with fail
        go_cut [19] (fun c wx => Tst c (k < n ∧ f k = 48) ∧ NumAt a n cap k w wx)
        case first =>
          have hx := HN.out.idx.cell (i := 0) (by omega)
          have hy := HN.out.box.cell (i := 0) (by omega)
          by_cases hlt : k < n
          · obtain ⟨b, off, rfl, hb, hc⟩ := HC.out (by omega)
            have hck := (HN.out.below.cell (p := ⟨b, off + k, none⟩) hb).trans (hc k hlt)
            clear hc
            by_cases h1 : f k = 48
            · have h1' : (f k == 48) = true := by simp [h1]
              have HE : Hid (k < n ∧ f k = 48) := ⟨hlt, h1⟩
              clear h1
              go_wp2
              go_meet
              case rel => exact ⟨by first | exact Tst.yes HE.out | exact Tst.no HE.out, HN.out⟩
            · have h1' : (f k == 48) = false := by simp [h1]
              have HE : Hid (¬ (k < n ∧ f k = 48)) := (fun x => h1 x.2)
              clear h1
              go_wp2
              go_meet
              case rel => exact ⟨by first | exact Tst.yes HE.out | exact Tst.no HE.out, HN.out⟩
          · have HE : Hid (¬ (k < n ∧ f k = 48)) := (fun x => hlt x.1)
            go_wp2
            go_meet
            case rel => exact ⟨by first | exact Tst.yes HE.out | exact Tst.no HE.out, HN.out⟩
        case rest =>
          obtain ⟨⟨t, rfl, ht⟩, hN⟩ := hcut
          have HT : Hid _ := ht
          clear ht
          have HM : Hid _ := hN
          clear hN HN
          go_upto_if 19 with fail
          have hx := HM.out.idx.cell (i := 0) (by omega)
          have hy := HM.out.box.cell (i := 0) (by omega)
          have hfz := HM.out.idx.frozen 0
          by_cases hc : k < n ∧ f k = 48
          · obtain rfl : t = true := HT.out.2 hc
            have hlt := hc.1
            have HR : Hid (num f n = frac f n (k + 1)) := HK.out.trans (by unfold int1; exact if_pos hc)
            clear hc
            go_wp2
            go_meet
            case rel => exact ⟨k + 1, by omega, HR, (by have := HM.out.set (k + 1); simpa using this)⟩
          · obtain rfl : t = false := by cases t with | false => rfl | true => exact absurd (HT.out.1 rfl) hc
            have HR : Hid (num f n = (decide (k < D f n k) && frac f n (D f n k))) := HK.out.trans (by unfold int1; exact if_neg hc)
            have hle := D_le (f := f) hk
            clear hc
            by_cases hD : k < D f n k
            · have hd2 : decide (k < D f n k) = true := decide_eq_true hD
              go_wp2_with (go_at_call 24; refine (digits_any a n cap (k) f w _ hn (by omega) HC.out HM.out).mono ?_; rintro e w2 ⟨rfl, h2⟩; rw [hd2])
              go_meet
              case rel => exact ⟨D f n k, hle, HR.out.trans (by rw [decide_eq_true hD]; rfl), h2⟩
            · have hd2 : decide (k < D f n k) = false := decide_eq_false hD
              go_wp2_with (go_at_call 24; refine (digits_any a n cap (k) f w _ hn (by omega) HC.out HM.out).mono ?_; rintro e w2 ⟨rfl, h2⟩; rw [hd2])
              go_ret
              exact ⟨by rw [HR.out, decide_eq_false hD]; rfl, h2.below⟩
      case rest =>
        clear HN HK hk
        obtain ⟨k, hk, HK, hN⟩ := hcut
        have HN : Hid _ := hN
        clear hN
        go_upto_region 9 with fail
        go_cut [47] (fun c wx => Tst c (k < n ∧ f k = 46) ∧ NumAt a n cap k w wx)
        case first =>
          have hx := HN.out.idx.cell (i := 0) (by omega)
          have hy := HN.out.box.cell (i := 0) (by omega)
          by_cases hlt : k < n
          · obtain ⟨b, off, rfl, hb, hc⟩ := HC.out (by omega)
            have hck := (HN.out.below.cell (p := ⟨b, off + k, none⟩) hb).trans (hc k hlt)
            clear hc
            by_cases h1 : f k = 46
            · have h1' : (f k == 46) = true := by simp [h1]
              have HE : Hid (k < n ∧ f k = 46) := ⟨hlt, h1⟩
              clear h1
              go_wp2
              go_meet
              case rel => exact ⟨by first | exact Tst.yes HE.out | exact Tst.no HE.out, HN.out⟩
            · have h1' : (f k == 46) = false := by simp [h1]
              have HE : Hid (¬ (k < n ∧ f k = 46)) := (fun x => h1 x.2)
              clear h1
              go_wp2
              go_meet
              case rel => exact ⟨by first | exact Tst.yes HE.out | exact Tst.no HE.out, HN.out⟩
          · have HE : Hid (¬ (k < n ∧ f k = 46)) := (fun x => hlt x.1)
            go_wp2
            go_meet
            case rel => exact ⟨by first | exact Tst.yes HE.out | exact Tst.no HE.out, HN.out⟩
        case rest =>
          obtain ⟨⟨t, rfl, ht⟩, hN⟩ := hcut
          have HT : Hid _ := ht
          clear ht
          have HM : Hid _ := hN
          clear hN HN
          go_upto_if 47 with fail
          go_cut [] (fun wx => ∃ i : Nat, i ≤ n ∧ Hid (num f n = tailE f n i) ∧ NumAt a n cap i w wx)
          case first =>
            have hx := HM.out.idx.cell (i := 0) (by omega)
            have hy := HM.out.box.cell (i := 0) (by omega)
            have hfz := HM.out.idx.frozen 0
            by_cases hc : k < n ∧ f k = 46
            · obtain rfl : t = true := HT.out.2 hc
              have hlt := hc.1
              have HR : Hid (num f n = (decide (k + 1 < D f n (k + 1)) && tailE f n (D f n (k + 1)))) := HK.out.trans (by unfold frac; exact if_pos hc)
              have hle := D_le (f := f) (show k + 1 ≤ n by omega)
              clear hc
              by_cases hD : k + 1 < D f n (k + 1)
              · have hd2 : decide (k + 1 < D f n (k + 1)) = true := decide_eq_true hD
                go_wp2_with (go_at_call 24; refine (digits_any a n cap (k + 1) f w _ hn (by omega) HC.out (by have := HM.out.set (k + 1); simpa using this)).mono ?_; rintro e w2 ⟨rfl, h2⟩; rw [hd2])
                go_meet
                case rel => exact ⟨D f n (k + 1), hle, HR.out.trans (by rw [decide_eq_true hD]; rfl), h2⟩
              · have hd2 : decide (k + 1 < D f n (k + 1)) = false := decide_eq_false hD
                go_wp2_with (go_at_call 24; refine (digits_any a n cap (k + 1) f w _ hn (by omega) HC.out (by have := HM.out.set (k + 1); simpa using this)).mono ?_; rintro e w2 ⟨rfl, h2⟩; rw [hd2])
                go_ret
                exact ⟨by rw [HR.out, decide_eq_false hD]; rfl, h2.below⟩
            · obtain rfl : t = false := by cases t with | false => rfl | true => exact absurd (HT.out.1 rfl) hc
              have HR : Hid (num f n = tailE f n k) := HK.out.trans (by unfold frac; exact if_neg hc)
              clear hc
              go_wp2
              go_meet
              case rel => exact ⟨k, by omega, HR, HM.out⟩
          case rest =>
            clear HM HK hk HT
            obtain ⟨k, hk, HK, hN⟩ := hcut
            have HN : Hid _ := hN
            clear hN
            go_upto_region 13 with fail
            go_cut [70] (fun c wx => Tst c (k < n ∧ (f k = 101 ∨ f k = 69)) ∧ NumAt a n cap k w wx)
            case first =>
              have hx := HN.out.idx.cell (i := 0) (by omega)
              have hy := HN.out.box.cell (i := 0) (by omega)
              by_cases hlt : k < n
              · obtain ⟨b, off, rfl, hb, hc⟩ := HC.out (by omega)
                have hck := (HN.out.below.cell (p := ⟨b, off + k, none⟩) hb).trans (hc k hlt)
                clear hc
                by_cases h1 : f k = 101
                · have h1' : (f k == 101) = true := by simp [h1]
                  have HE : Hid (k < n ∧ (f k = 101 ∨ f k = 69)) := ⟨hlt, .inl h1⟩
                  clear h1
                  go_wp2
                  go_meet
                  case rel => exact ⟨by first | exact Tst.yes HE.out | exact Tst.no HE.out, HN.out⟩
                · have h1' : (f k == 101) = false := by simp [h1]
                  by_cases h2 : f k = 69
                  · have h2' : (f k == 69) = true := by simp [h2]
                    have HE : Hid (k < n ∧ (f k = 101 ∨ f k = 69)) := ⟨hlt, .inr h2⟩
                    clear h1 h2
                    go_wp2
                    go_meet
                    case rel => exact ⟨by first | exact Tst.yes HE.out | exact Tst.no HE.out, HN.out⟩
                  · have h2' : (f k == 69) = false := by simp [h2]
                    have HE : Hid (¬ (k < n ∧ (f k = 101 ∨ f k = 69))) := (fun x => x.2.elim h1 h2)
                    clear h1 h2
                    go_wp2
                    go_meet
                    case rel => exact ⟨by first | exact Tst.yes HE.out | exact Tst.no HE.out, HN.out⟩
              · have HE : Hid (¬ (k < n ∧ (f k = 101 ∨ f k = 69))) := (fun x => hlt x.1)
                go_wp2
                go_meet
                case rel => exact ⟨by first | exact Tst.yes HE.out | exact Tst.no HE.out, HN.out⟩
            case rest =>
              obtain ⟨⟨t, rfl, ht⟩, hN⟩ := hcut
              have HT : Hid _ := ht
              clear ht
              have HM : Hid _ := hN
              clear hN HN
              go_upto_if 70 with fail
              go_cut [] (fun wx => ∃ i : Nat, i ≤ n ∧ Hid (num f n = decide (¬ i < n)) ∧ NumAt a n cap i w wx)
              case first =>
                have hx := HM.out.idx.cell (i := 0) (by omega)
                have hy := HM.out.box.cell (i := 0) (by omega)
                have hfz := HM.out.idx.frozen 0
                by_cases hc : k < n ∧ (f k = 101 ∨ f k = 69)
                · obtain rfl : t = true := HT.out.2 hc
                  have hlt := hc.1
                  have HR : Hid (num f n = expo f n (k + 1)) := HK.out.trans (by unfold tailE; exact if_pos hc)
                  clear hc
                  go_upto_region 15 with fail
                  have hS : NumAt a n cap (k + 1) w (wc.setCell ⟨w.heap.size + 1, 0, none⟩ (.int .i64 ((k : Int) + 1))) := (by have := HM.out.set (k + 1); simpa using this)
                  have HN : Hid _ := hS
                  generalize wc.setCell ⟨w.heap.size + 1, 0, none⟩ (.int .i64 ((k : Int) + 1)) = w3 at HN ⊢
                  clear hS hx hy hfz HM HK HT
                  have hk1 : k + 1 ≤ n := by omega
                  obtain ⟨m, hm⟩ : ∃ m, k + 1 = m := ⟨_, rfl⟩
                  rw [hm] at HN HR hk1
                  go_cut [90] (fun c wx => Tst c (m < n ∧ (f m = 43 ∨ f m = 45)) ∧ NumAt a n cap m w wx)
                  case first =>
                    have hx := HN.out.idx.cell (i := 0) (by omega)
                    have hy := HN.out.box.cell (i := 0) (by omega)
                    by_cases hlt : m < n
                    · obtain ⟨b, off, rfl, hb, hc⟩ := HC.out (by omega)
                      have hck := (HN.out.below.cell (p := ⟨b, off + m, none⟩) hb).trans (hc m hlt)
                      clear hc
                      by_cases h1 : f m = 43
                      · have h1' : (f m == 43) = true := by simp [h1]
                        have HE : Hid (m < n ∧ (f m = 43 ∨ f m = 45)) := ⟨hlt, .inl h1⟩
                        clear h1
                        go_wp2
                        go_meet
                        case rel => exact ⟨by first | exact Tst.yes HE.out | exact Tst.no HE.out, HN.out⟩
                      · have h1' : (f m == 43) = false := by simp [h1]
                        by_cases h2 : f m = 45
                        · have h2' : (f m == 45) = true := by simp [h2]
                          have HE : Hid (m < n ∧ (f m = 43 ∨ f m = 45)) := ⟨hlt, .inr h2⟩
                          clear h1 h2
                          go_wp2
                          go_meet
                          case rel => exact ⟨by first | exact Tst.yes HE.out | exact Tst.no HE.out, HN.out⟩
                        · have h2' : (f m == 45) = false := by simp [h2]
                          have HE : Hid (¬ (m < n ∧ (f m = 43 ∨ f m = 45))) := (fun x => x.2.elim h1 h2)
                          clear h1 h2
                          go_wp2
                          go_meet
                          case rel => exact ⟨by first | exact Tst.yes HE.out | exact Tst.no HE.out, HN.out⟩
                    · have HE : Hid (¬ (m < n ∧ (f m = 43 ∨ f m = 45))) := (fun x => hlt x.1)
                      go_wp2
                      go_meet
                      case rel => exact ⟨by first | exact Tst.yes HE.out | exact Tst.no HE.out, HN.out⟩
                  case rest =>
                    obtain ⟨⟨t, rfl, ht⟩, hN⟩ := hcut
                    have HT : Hid _ := ht
                    clear ht
                    have HM : Hid _ := hN
                    clear hN HN
                    go_upto_if 90 with fail
                    go_cut [] (fun wx => ∃ i : Nat, i ≤ n ∧ Hid (num f n = must f n i) ∧ NumAt a n cap i w wx)
                    case first =>
                      have hx := HM.out.idx.cell (i := 0) (by omega)
                      have hy := HM.out.box.cell (i := 0) (by omega)
                      have hfz := HM.out.idx.frozen 0
                      by_cases hc : m < n ∧ (f m = 43 ∨ f m = 45)
                      · obtain rfl : t = true := HT.out.2 hc
                        have hlt := hc.1
                        have HQ : Hid (num f n = must f n (m + 1)) := HR.out.trans (by unfold expo; exact if_pos hc)
                        clear hc
                        go_wp2
                        go_meet
                        case rel => exact ⟨m + 1, by omega, HQ, (by have := HM.out.set (m + 1); simpa using this)⟩
                      · obtain rfl : t = false := by cases t with | false => rfl | true => exact absurd (HT.out.1 rfl) hc
                        have HQ : Hid (num f n = must f n m) := HR.out.trans (by unfold expo; exact if_neg hc)
                        clear hc
                        go_wp2
                        go_meet
                        case rel => exact ⟨m, by omega, HQ, HM.out⟩
                    case rest =>
                      clear HM HR HT
                      obtain ⟨j, hj, HQ, hN⟩ := hcut
                      have HN : Hid _ := hN
                      clear hN
                      have hle := D_le (f := f) hj
                      by_cases hD : j < D f n j
                      · have hd2 : decide (j < D f n j) = true := decide_eq_true hD
                        go_wp2_with (go_at_call 24; refine (digits_any a n cap (j) f w _ hn (by omega) HC.out HN.out).mono ?_; rintro e w2 ⟨rfl, h2⟩; rw [hd2])
                        go_meet
                        case rel => exact ⟨D f n j, hle, HQ.out.trans (by unfold must; simp [hD]), h2⟩
                      · have hd2 : decide (j < D f n j) = false := decide_eq_false hD
                        go_wp2_with (go_at_call 24; refine (digits_any a n cap (j) f w _ hn (by omega) HC.out HN.out).mono ?_; rintro e w2 ⟨rfl, h2⟩; rw [hd2])
                        go_ret
                        exact ⟨by rw [HQ.out]; unfold must; simp [hD], h2.below⟩
                · obtain rfl : t = false := by cases t with | false => rfl | true => exact absurd (HT.out.1 rfl) hc
                  have HR : Hid (num f n = decide (¬ k < n)) := HK.out.trans (by unfold tailE; exact if_neg hc)
                  clear hc
                  go_wp2
                  go_meet
                  case rel => exact ⟨k, by omega, HR, HM.out⟩
              case rest =>
                clear HM HK hk HT
                obtain ⟨k, hk, HK, hN⟩ := hcut
                have HN : Hid _ := hN
                clear hN
                have hx := HN.out.idx.cell (i := 0) (by omega)
                have hy := HN.out.box.cell (i := 0) (by omega)
                by_cases hlt : k < n
                · go_wp2
                  go_ret
                  exact ⟨by rw [HK.out]; simp [hlt]; omega, HN.out.below⟩
                · obtain rfl : k = n := by omega
                  go_wp2
                  go_ret
                  exact ⟨by rw [HK.out]; simp, HN.out.below⟩
end Go.Proofs.Qxb6000403a.NumLaw
