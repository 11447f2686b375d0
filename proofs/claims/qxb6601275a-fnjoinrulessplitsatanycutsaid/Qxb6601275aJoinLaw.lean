/-
  THE WALK OF 'FnJoinRulesSplitsAtAnyCut'.
-/
import Derived.Test.Qxb6601275aJoinCat
namespace Go.Proofs.Qxb6601275a.JoinLaw
open Go.RowKit
open Join

theorem bts_append (a b : ByteArray) : bts (a ++ b) = bts a ++ bts b := by
  unfold bts; simp

theorem names_of {s1 sA sB : ByteArray} {la lb : Nat} (h : bts s1 = if la = 0 then bts sB else if lb = 0 then bts sA else bts sA ++ (44 :: bts sB)) :
    (la = 0 ∧ s1 = sB) ∨ (¬ la = 0 ∧ lb = 0 ∧ s1 = sA) ∨ (¬ la = 0 ∧ ¬ lb = 0 ∧ s1 = sA ++ ⟨#[44]⟩ ++ sB) := by
  by_cases h1 : la = 0
  · rw [if_pos h1] at h; exact .inl ⟨h1, bts_inj h⟩
  · rw [if_neg h1] at h
    by_cases h2 : lb = 0
    · rw [if_pos h2] at h; exact .inr (.inl ⟨h1, h2, bts_inj h⟩)
    · rw [if_neg h2] at h
      refine .inr (.inr ⟨h1, h2, bts_inj ?_⟩)
      rw [h, bts_append, bts_append, List.append_assoc]; rfl

theorem reasons_of {s2 tA tB : ByteArray} (h : bts s2 = glue (bts tA) (bts tB)) :
    (tA.toList.isEmpty = true ∧ s2 = tB) ∨ (tA.toList.isEmpty = false ∧ tB.toList.isEmpty = true ∧ s2 = tA) ∨ (tA.toList.isEmpty = false ∧ tB.toList.isEmpty = false ∧ s2 = tA ++ ⟨#[255]⟩ ++ tB) := by
  unfold glue at h
  by_cases h1 : bts tA = []
  · rw [if_pos h1] at h; exact .inl ⟨nil_true _ h1, bts_inj h⟩
  · rw [if_neg h1] at h
    by_cases h2 : bts tB = []
    · rw [if_pos h2] at h; exact .inr (.inl ⟨nil_false _ h1, nil_true _ h2, bts_inj h⟩)
    · rw [if_neg h2] at h
      refine .inr (.inr ⟨nil_false _ h1, nil_false _ h2, bts_inj ?_⟩)
      rw [h, bts_append, bts_append, List.append_assoc]; rfl

theorem grown_own {w4 w5 w6 : World} (h : Below w4.heap.size w4 w5) (hg : w5.grownBy w6 (some w4.heap.size)) : Below w4.heap.size w4 w6 :=
  h.grown hg h.size (fun k e => by injection e with e; omega)

set_option maxRecDepth 100000 in
set_option maxHeartbeats 1600000 in
theorem law_any (a0 a1 : Option Addr) (la ca lb cb : Nat) (N R F N' R' F' : Nat → ByteArray) (w : World) (hn0 : a0 = none → la = 0 ∧ ca = 0) (hn1 : a1 = none → lb = 0 ∧ cb = 0) (h0 : RulesAt w a0 la N R F) (h1 : RulesAt w a1 lb N' R' F') :
    Calls Try.prog 7 #[.slice a0 la ca, .slice a1 lb cb] w fun e w' => e = .returned (.bool true) ∧ Below w.heap.size w w' := by
  have H0 : Hid _ := h0
  have H1 : Hid _ := h1
  have HN0 : Hid _ := hn0
  have HN1 : Hid _ := hn1
  clear h0 h1 hn0 hn1
  go_enter Try.func7, Try.ntmps7
  go_wp2_with fail
  refine (bytes_any a0 a1 la ca lb cb N R F N' R' F' _ H0.out H1.out).mono ?_
  rintro e w' ⟨⟨v, rfl⟩, rfl⟩
  cases v
  · go_wp2
    go_ret
    exact ⟨rfl, Below.refl _ _⟩
  go_wp2_with fail
  refine (size_any a0 la ca N R F _ H0.out).mono ?_
  rintro e w1 ⟨va, rfl, hva, hb1⟩
  have H1' : Hid _ := RulesAt.keep H1.out hb1
  have H0' : Hid _ := RulesAt.keep H0.out hb1
  clear H0 H1
  go_wp2_with fail
  refine (size_any a1 lb cb N' R' F' _ H1'.out).mono ?_
  rintro e w2 ⟨vb, rfl, hvb, hb2⟩
  have H1 : Hid _ := RulesAt.keep H1'.out hb2
  have H0 : Hid _ := RulesAt.keep H0'.out hb2
  have hB2 : Below w.heap.size w w2 := hb1.trans (hb2.mono hb1.size)
  clear H0' H1' hb1 hb2
  by_cases ga : va < 0
  · go_wp2
    go_ret
    exact ⟨rfl, hB2⟩
  by_cases gb : vb < 0
  · clear hva
    go_wp2
    go_ret
    exact ⟨rfl, hB2⟩
  have hva' : va ≤ 1048576 ∧ va = wt N R F la := by omega
  have hvb' : vb ≤ 1048576 ∧ vb = wt N' R' F' lb := by omega
  obtain ⟨ha1, ha2⟩ := hva'
  obtain ⟨hc1, hc2⟩ := hvb'
  have HA2 : Hid _ := ha2
  have HC2 : Hid _ := hc2
  clear hva hvb ha2 hc2
  by_cases gs : 1048576 < va + vb
  · go_wp2
    go_ret
    exact ⟨rfl, hB2⟩
  have hw : Hid (wt N R F la + wt N' R' F' lb ≤ 1048576) := (show _ ≤ _ by have := HA2.out; have := HC2.out; omega)
  have hla : la ≤ 65536 := by have := hw.out; unfold wt at this; omega
  have hlb : lb ≤ 65536 := by have := hw.out; unfold wt at this; omega
  clear HA2 HC2
  go_wp2_with fail
  refine (copy_any a0 la ca N R F _ hla HN0.out H0.out).mono ?_
  rintro e w3 ⟨a0', rfl, hr3, hb3⟩
  have H1' : Hid _ := RulesAt.keep H1.out hb3
  clear H0 H1
  have HR3 : Hid _ := hr3
  clear hr3
  go_wp2_with fail
  refine (copy_any a1 lb cb N' R' F' _ hlb HN1.out H1'.out).mono ?_
  rintro e w4 ⟨a1', rfl, hr4, hb4⟩
  have HA : Hid _ := RulesAt.keep HR3.out hb4
  have HB : Hid _ := hr4
  have hB4 : Below w.heap.size w w4 := hB2.trans ((hb3.mono hB2.size).trans (hb4.mono (Nat.le_trans hB2.size hb3.size)))
  clear hr4 hb3 hb4 hB2 HR3 H1' HN0 HN1
  obtain ⟨i0, hi, hz0, hz1, hz2⟩ := info_parts info44
  go_wp2_with (first
    | (at_make; refine wpList_make_own _ rfl _ (.tmp 47) 31 rfl w4.heap.size 44 i0 _ 3 Try.underlying31 hi hz0 hz1 .i64 .i64 ((la : Int) + (lb : Int)) (la + lb) rfl rfl (by omega) (by rw [hz2]; omega) (by unfold maxLen; omega) (Nat.le_refl _) ?_; intro w5 hown5 hg5; have HB5 : Hid _ := ((Below.refl w4.heap.size _).grown hg5 (Nat.le_refl _) (fun k h => by cases h)); have HA5 : Hid _ := (RulesAt.keep HA.out HB5.out))
    | (at_builtin; refine wpList_append_fits_any _ rfl (.tmp 49) (.tmp 50) 31 rfl w4.heap.size 44 i0 3 Try.underlying31 hi hz1 w4.heap.size 0 (la + lb) [] rfl hown5 a0' la la (news N R F la) rfl (news_len _ _ _ _) (fun e => ⟨RulesAt.none HA.out e, RulesAt.none HA.out e⟩) (RulesAt.src HA5.out) (news_one _ _ _ _) (by omega) ?_; intro w6 hown6 hg6; simp only [Nat.zero_add, List.nil_append] at hown6; have HB6 : Hid _ := grown_own HB5.out hg6; have HS6 : Hid _ := RulesAt.src (RulesAt.keep HB.out HB6.out))
    | (at_builtin; refine wpList_append_fits_any _ rfl (.tmp 52) (.tmp 53) 31 rfl w4.heap.size 44 i0 3 Try.underlying31 hi hz1 w4.heap.size la (la + lb) (news N R F la) rfl hown6 a1' lb lb (news N' R' F' lb) rfl (news_len _ _ _ _) (fun e => ⟨RulesAt.none HB.out e, RulesAt.none HB.out e⟩) HS6.out (news_one _ _ _ _) (Nat.le_refl _) ?_; intro w7 hown7 hg7))
  have hB47 : Below w4.heap.size w4 w7 := grown_own HB6.out hg7
  have HA7 : Hid _ := RulesAt.keep HA.out hB47
  have HB7 : Hid _ := RulesAt.keep HB.out hB47
  have HC7 : Hid _ := rows_cat hown7
  have hB7 : Below w.heap.size w w7 := hB4.trans (hB47.mono hB4.size)
  clear hown5 hg5 HB5 HA5 hown6 hg6 HB6 HS6 hown7 hg7 hB47 HA HB hB4 hi hz0 hz1 hz2
  refine (makes_any _ _ _ _ _ _ w7 (by omega) HC7.out).mono ?_
  rintro e w8 ⟨g8, P8, rfl, hM8⟩
  have HP8 : Hid _ := MkAt.ptrs hM8
  have HA8 : Hid _ := RulesAt.keep HA7.out hM8.below
  have HB8 : Hid _ := RulesAt.keep HB7.out hM8.below
  have hB8 : Below w.heap.size w w8 := hB7.trans (hM8.below.mono hB7.size)
  clear hM8 HA7 HB7 HC7 hB7
  go_wp2_with fail
  refine (zzjoin_any g8 _ P8 _ _ _ w8 (by rw [wt_cat]; exact hw.out) HP8.out).mono ?_
  rintro e w9 ⟨s1, s2, s3, rfl, hs1, hs2, hb9⟩
  have HS1 : Hid _ := hs1
  have HS2 : Hid _ := hs2
  have HA9 : Hid _ := RulesAt.keep HA8.out hb9
  have HB9 : Hid _ := RulesAt.keep HB8.out hb9
  have hB9 : Below w.heap.size w w9 := hB8.trans (hb9.mono hB8.size)
  clear hs1 hs2 hb9 HA8 HB8 hB8 HP8
  go_wp2_with fail
  refine (makes_any a0' la la N R F w9 (by omega) HA9.out).mono ?_
  rintro e w10 ⟨g10, P10, rfl, hM10⟩
  have HP10 : Hid _ := MkAt.ptrs hM10
  have HB10 : Hid _ := RulesAt.keep HB9.out hM10.below
  have hB10 : Below w.heap.size w w10 := hB9.trans (hM10.below.mono hB9.size)
  clear hM10 HA9 HB9 hB9
  go_wp2_with fail
  refine (zzjoin_any g10 _ P10 _ _ _ w10 (by have := hw.out; omega) HP10.out).mono ?_
  rintro e w11 ⟨sA, tA, uA, rfl, hsA, htA, hb11⟩
  have HSA : Hid _ := hsA
  have HTA : Hid _ := htA
  have HB11 : Hid _ := RulesAt.keep HB10.out hb11
  have hB11 : Below w.heap.size w w11 := hB10.trans (hb11.mono hB10.size)
  clear hsA htA hb11 HB10 hB10 HP10
  go_wp2_with fail
  refine (makes_any a1' lb lb N' R' F' w11 (by omega) HB11.out).mono ?_
  rintro e w12 ⟨g12, P12, rfl, hM12⟩
  have HP12 : Hid _ := MkAt.ptrs hM12
  have hB12 : Below w.heap.size w w12 := hB11.trans (hM12.below.mono hB11.size)
  clear hM12 HB11 hB11
  go_wp2_with fail
  refine (zzjoin_any g12 _ P12 _ _ _ w12 (by have := hw.out; omega) HP12.out).mono ?_
  rintro e w13 ⟨sB, tB, uB, rfl, hsB, htB, hb13⟩
  have hB13 : Below w.heap.size w w13 := hB12.trans (hb13.mono hB12.size)
  have zA : sA.size ≤ 1048576 := by rw [← bts_len, HSA.out]; exact nb_bd N R F (Nat.le_refl la) (by have := hw.out; omega)
  have zB : sB.size ≤ 1048576 := by rw [← bts_len, hsB]; exact nb_bd N' R' F' (Nat.le_refl lb) (by have := hw.out; omega)
  have yA : tA.size ≤ 1048576 := by rw [← bts_len, HTA.out]; exact rb_bd N R F (Nat.le_refl la) (by have := hw.out; omega)
  have yB : tB.size ≤ 1048576 := by rw [← bts_len, htB]; exact rb_bd N' R' F' (Nat.le_refl lb) (by have := hw.out; omega)
  have e1 : bts s1 = if la = 0 then bts sB else if lb = 0 then bts sA else bts sA ++ (44 :: bts sB) := by
    rw [HS1.out, strs_cat, nb_cat, HSA.out, hsB]
  have e2 : bts s2 = glue (bts tA) (bts tB) := by
    rw [HS2.out, strs_cat, rb_cat, HTA.out, htB]
  have E1 : Hid _ := e1
  have E2 : Hid _ := e2
  clear e1 e2 HS1 HS2 HSA HTA hsB htB hb13 hB12 HP12 hw
  rcases names_of E1.out with ⟨p1, rfl⟩ | ⟨p1, p2, rfl⟩ | ⟨p1, p2, rfl⟩
  · have q1 : ((la : Int) == 0) = true := by simp [p1]
    clear p1 E1
    rcases reasons_of E2.out with ⟨r1, rfl⟩ | ⟨r1, r2, rfl⟩ | ⟨r1, r2, rfl⟩
    all_goals
      clear E2
      go_wp2
      go_ret
      exact ⟨by simp, hB13⟩
  · have q1 : ((la : Int) == 0) = false := by simp [p1]
    have q2 : ((lb : Int) == 0) = true := by simp [p2]
    clear p1 p2 E1
    rcases reasons_of E2.out with ⟨r1, rfl⟩ | ⟨r1, r2, rfl⟩ | ⟨r1, r2, rfl⟩
    all_goals
      clear E2
      go_wp2
      go_ret
      exact ⟨by simp, hB13⟩
  · have q1 : ((la : Int) == 0) = false := by simp [p1]
    have q2 : ((lb : Int) == 0) = false := by simp [p2]
    clear p1 p2 E1
    rcases reasons_of E2.out with ⟨r1, rfl⟩ | ⟨r1, r2, rfl⟩ | ⟨r1, r2, rfl⟩
    all_goals
      clear E2
      go_wp2
      go_ret
      exact ⟨by simp, hB13⟩
end Go.Proofs.Qxb6601275a.JoinLaw
