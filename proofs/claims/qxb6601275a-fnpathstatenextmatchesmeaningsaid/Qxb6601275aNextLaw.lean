/-
  THE WALKS OF 'zzRepresentative' AND OF 'FnPathStateNextMatchesMeaning'.
-/
import Derived.Test.Qxb6601275aMeaning
import Derived.Deep.OwnRows
import Derived.OpenShut
namespace Go.Proofs.Qxb6601275a.NextLaw
open Go.RowKit
open Path

theorem nx_far (s c : Int) (h : 6 < s) : nextP s c = if c = 47 ∨ c = 92 then 6 else 2 := by
  unfold nextP
  by_cases h1 : c = 92
  · rw [if_pos (.inr h1), if_pos (.inr h1)]
  · by_cases h2 : c = 47
    · rw [if_neg (by omega), if_pos h2, if_neg (by omega), if_pos (.inl h2)]
    · rw [if_neg (by omega), if_neg h2, if_neg (by omega : ¬ (c = 47 ∨ c = 92))]
      by_cases h3 : c = 46
      · rw [if_pos h3, if_neg (by omega), if_neg (by omega)]
      · rw [if_neg h3, if_neg (by omega), if_neg (by omega), if_neg (by omega)]

theorem walk_far (s c : Int) (w : World) (h : 6 < s) : Calls Try.prog 5 #[.int .u8 s, .int .i32 c] w fun e w' => e = .returned (.bool true) ∧ Below w.heap.size w w' := by
  have hn := nx_far s c h
  by_cases h1 : c = 47
  · subst h1
    rw [if_pos (.inl rfl)] at hn
    go_enter Try.func5, Try.ntmps5
    go_wp2_with (go_at_call 12; refine (zznext_any _ _ _).mono ?_; rintro e w' ⟨rfl, rfl⟩)
    go_ret
    exact ⟨rfl, Below.refl _ _⟩
  have h1' : (c == 47) = false := by simp [h1]
  by_cases h2 : c = 92
  · subst h2
    rw [if_pos (.inr rfl)] at hn
    go_enter Try.func5, Try.ntmps5
    go_wp2_with (go_at_call 12; refine (zznext_any _ _ _).mono ?_; rintro e w' ⟨rfl, rfl⟩)
    go_ret
    exact ⟨rfl, Below.refl _ _⟩
  have h2' : (c == 92) = false := by simp [h2]
  rw [if_neg (by omega)] at hn
  clear h1 h2
  go_enter Try.func5, Try.ntmps5
  go_wp2_with (go_at_call 12; refine (zznext_any _ _ _).mono ?_; rintro e w' ⟨rfl, rfl⟩)
  go_ret
  exact ⟨rfl, Below.refl _ _⟩

/-- The representative strings. -/
def rep (s : Int) : List Int := if s = 0 then [] else if s = 1 then [97] else if s = 2 then [97, 98] else if s = 3 then [46] else if s = 4 then [46, 46] else if s = 5 then [97, 47] else [47]
def at0 (L : List Int) : Nat → Int := fun i => L.getD i 0

theorem rep_any (s : Int) (w : World) (h0 : 0 ≤ s) (h6 : s ≤ 6) :
    Calls Try.prog 13 #[.int .u8 s] w fun e w' => e = .returned (.slice (some ⟨w.heap.size, 0, none⟩) (rep s).length (rep s).length) ∧ w' = w.alloc (.cells ((rep s).map (Value.int .i32)).toArray 21) := by
  rcases (by omega : s = 0 ∨ s = 1 ∨ s = 2 ∨ s = 3 ∨ s = 4 ∨ s = 5 ∨ s = 6) with rfl | rfl | rfl | rfl | rfl | rfl | rfl
  all_goals
    go_enter Try.func13, Try.ntmps13
    go_wp2
    go_ret
    exact ⟨rfl, rfl⟩

theorem run_rep (s : Int) (h0 : 0 ≤ s) (h6 : s ≤ 6) : run (at0 (rep s)) (rep s).length = s := by
  rcases (by omega : s = 0 ∨ s = 1 ∨ s = 2 ∨ s = 3 ∨ s = 4 ∨ s = 5 ∨ s = 6) with rfl | rfl | rfl | rfl | rfl | rfl | rfl
  all_goals decide

theorem run_congr {f g : Nat → Int} : ∀ n, (∀ i, i < n → f i = g i) → run f n = run g n
  | 0, _ => rfl
  | n + 1, h => by show nextP (run f n) (f n) = nextP (run g n) (g n); rw [run_congr n (fun i hi => h i (by omega)), h n (by omega)]

theorem run_snoc (L : List Int) (c : Int) : run (at0 (L ++ [c])) (L.length + 1) = nextP (run (at0 L) L.length) c := by
  show nextP (run (at0 (L ++ [c])) L.length) (at0 (L ++ [c]) L.length) = _
  rw [run_congr (f := at0 (L ++ [c])) (g := at0 L) L.length (fun i hi => by simp [at0, List.getElem?_append, hi])]
  congr 1
  simp [at0]

theorem info21 : (Try.prog.info? 21).map (fun i => (i.zero, i.size, i.bytes)) = some (some (.int .i32 0), 1, 4) := by kernel_rfl

/-- What is owned, where there is an element. -/
theorem owned_form {w : World} {base : Nat} {e : TypeId} {v : Value} {n : Nat} {xs : List Value} (h : w.ownsRow base e 1 v n xs) (hn : 0 < n) :
    ∃ g cap, v = .slice (some ⟨g, 0, none⟩) n cap ∧ n ≤ cap ∧ ∀ j, j < n → w.cell? ⟨g, j, none⟩ = xs[j]? := by
  have h' := h
  obtain ⟨_, ⟨_, h0⟩ | ⟨g, cap, cur, rfl, _, _, hc, _⟩⟩ := h
  · omega
  · exact ⟨g, cap, rfl, hc, fun j hj => h'.cellAt j (by omega)⟩

theorem own_rep (w : World) (L : List Int) (hl : L.length ≤ 2) : (w.alloc (.cells (L.map (Value.int .i32)).toArray 21)).ownsRow w.heap.size 21 1 (.slice (some ⟨w.heap.size, 0, none⟩) L.length L.length) L.length (L.map (Value.int .i32)) := by
  have := World.ownsRow_lit (base := w.heap.size) (e := 21) (size := 1) w (L.map (Value.int .i32)).toArray L.length (Nat.le_refl _) (by unfold maxLen; omega) (by simp)
  simpa using this

theorem cells_rep (w : World) (L : List Int) (hl : L.length ≤ 2) : Cells (w.alloc (.cells (L.map (Value.int .i32)).toArray 21)) (some ⟨w.heap.size, 0, none⟩) L.length (at0 L) := by
  intro hp
  refine ⟨w.heap.size, 0, rfl, fun j hj => ?_⟩
  rw [Nat.zero_add, (own_rep w L hl).cellAt j (by omega)]
  simp [at0, hj]

set_option maxRecDepth 100000 in
theorem walk_near (s c : Int) (w : World) (h0 : 0 ≤ s) (h6 : s ≤ 6) : Calls Try.prog 5 #[.int .u8 s, .int .i32 c] w fun e w' => e = .returned (.bool true) ∧ Below w.heap.size w w' := by
  have HR := run_rep s h0 h6
  have HS := run_snoc (rep s) c
  rw [HR] at HS
  have hrep := rep_any s
  obtain ⟨L, hL⟩ : ∃ L, L = rep s := ⟨_, rfl⟩
  rw [← hL] at HR HS hrep
  have hlen : L.length ≤ 2 := by
    rw [hL]; rcases (by omega : s = 0 ∨ s = 1 ∨ s = 2 ∨ s = 3 ∨ s = 4 ∨ s = 5 ∨ s = 6) with rfl | rfl | rfl | rfl | rfl | rfl | rfl <;> decide
  have H1 : Hid _ := HR
  have H2 : Hid _ := HS
  have H3 : Hid _ := hrep
  clear HR HS hrep hL
  obtain ⟨i0, hi, hz0, hz1, hz2⟩ := info_parts info21
  go_enter Try.func5, Try.ntmps5
  go_wp2_with (first | (go_at_call 12; refine (zznext_any _ _ _).mono ?_; rintro e w' ⟨rfl, rfl⟩) | (go_at_call 13; refine (H3.out _ h0 h6).mono ?_; rintro e w2 ⟨rfl, rfl⟩))
  have hown := own_rep w L hlen
  refine (meaning_any _ _ _ (at0 L) _ (by omega) (Nat.le_refl _) (cells_rep w L hlen)).mono ?_
  rintro e w' ⟨rfl, rfl⟩
  rw [H1.out]
  go_wp2_with (at_builtin; refine wpList_append_own _ rfl _ _ 25 rfl w.heap.size 21 i0 (.int .i32 0) 1 4 Try.underlying25 hi hz0 hz1 hz2 rfl (by decide) _ _ _ rfl (hown.alloc _) ⟨w.heap.size + 1, 0, none⟩ 1 1 [.int .i32 c] rfl rfl ?c1 ?c2 ?c3 ?c4 ?c5 ?_)
  case c1 =>
    intro j u hj
    match j, hj with
    | 0, hj => simp at hj; subst hj; simp [Addr.add, go_sem]
  case c2 => intro u hu; simp at hu; subst hu; rfl
  case c3 => unfold maxLen; omega
  case c4 => omega
  case c5 => simp; omega
  intro v' w3 hown' hgrow _
  obtain ⟨g, cap, hv, hcap, hcell⟩ := owned_form hown' (by omega)
  rw [hv]
  have hC2 : Cells w3 (some ⟨g, 0, none⟩) (L.length + 1) (at0 (L ++ [c])) := by
    intro _
    refine ⟨g, 0, rfl, fun j hj => ?_⟩
    rw [Nat.zero_add, hcell j hj]
    by_cases e : j < L.length
    · simp [at0, List.getElem?_append, e]
    · obtain rfl : j = L.length := by omega
      simp [at0]
  have hB : Below w.heap.size w w3 := (((Below.refl _ _).alloc (Nat.le_refl _) _).alloc (by simp) _).grown hgrow (by simp; omega) (fun k hk => by simp [Value.ownBlock] at hk; omega)
  clear hown' hgrow hown hcell hv
  go_wp2_with fail
  refine (meaning_any _ _ _ (at0 (L ++ [c])) _ (by omega) hcap hC2).mono ?_
  rintro e w' ⟨rfl, rfl⟩
  rw [H2.out]
  go_wp2
  go_ret
  exact ⟨by simp, hB⟩
end Go.Proofs.Qxb6601275a.NextLaw
