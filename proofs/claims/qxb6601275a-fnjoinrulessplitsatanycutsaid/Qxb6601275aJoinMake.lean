/-
  'FnJoinRulesSplitsAtAnyCut': the walks of 'ZZMakeRule' and 'zzMakeRules'.
-/
import Derived.Test.Qxb6601275aJoinCopy
import Derived.Deep.RegionHeld3
import Derived.Deep.RegionLaw
import Derived.Deep.DeepCutAuto
namespace Go.Proofs.Qxb6601275a.JoinLaw
open Go.RowKit
open Join

/-- A rule in memory. -/
def ruleObj (n r f : ByteArray) : Obj := .cells #[.string n, .string ⟨#[]⟩, .string r, .string f, .int .i64 0, .bool false, .bool false, .slice none 0 0, .bool false, .slice none 0 0, .slice none 0 0, .bool false, .slice none 0 0, .slice none 0 0] 71

theorem make_any (n r f : ByteArray) (w : World) :
    Calls Try.prog 27 #[.string n, .string r, .string f] w fun e w' => e = .returned (.pointer (some ⟨w.heap.size, 0, none⟩)) ∧ w' = w.alloc (ruleObj n r f) := by
  go_enter Try.func27, Try.ntmps27
  go_wp2
  go_ret
  exact ⟨rfl, rfl⟩

/-- The rule behind a pointer. -/
def RuleAt (w : World) (p : Nat) (n r f : ByteArray) : Prop := w.cell? ⟨p, 0, none⟩ = some (.string n) ∧ w.cell? ⟨p, 2, none⟩ = some (.string r) ∧ w.cell? ⟨p, 3, none⟩ = some (.string f)

theorem RuleAt.of_block {w w' : World} {p : Nat} {n r f : ByteArray} (h : RuleAt w p n r f) (e : w'.heap[p]? = w.heap[p]?) : RuleAt w' p n r f :=
  ⟨(World.cell?_of_block (w := w) e).trans h.1, (World.cell?_of_block (w := w) e).trans h.2.1, (World.cell?_of_block (w := w) e).trans h.2.2⟩

theorem info45 : (Try.prog.info? 45).map (fun i => (i.zero, i.size, i.bytes)) = some (some (.pointer none), 1, 8) := by kernel_rfl

/-- What the rounds of 'zzMakeRules' know. -/
structure MkAt (w : World) (g n k : Nat) (P : Nat → Nat) (N R F : Nat → ByteArray) (wr : World) : Prop where
  below : Below w.heap.size w wr
  hg : w.heap.size ≤ g
  row : ∃ c, wr.rowIs g 45 n c ∧ ∀ j, j < k → c j = .pointer (some ⟨P j, 0, none⟩)
  rules : ∀ j, j < k → RuleAt wr (P j) (N j) (R j) (F j) ∧ P j < wr.heap.size ∧ P j ≠ g

/-- The world at the append: the new rule, the one element. -/
def mkW (wr : World) (n r f : ByteArray) : World := ((wr.alloc (ruleObj n r f)).alloc (.cells #[.pointer (some ⟨wr.heap.size, 0, none⟩)] 45)).drew
def updP (P : Nat → Nat) (k p : Nat) : Nat → Nat := fun j => if j = k then p else P j

theorem mkW_old (wr : World) (n r f : ByteArray) (b : Nat) (h : b < wr.heap.size) : (mkW wr n r f).heap[b]? = wr.heap[b]? := by
  show ((wr.alloc (ruleObj n r f)).alloc _).heap[b]? = _
  rw [Deep.blk_alloc_lt _ _ _ (by simp; omega), Deep.blk_alloc_lt _ _ _ h]

theorem mkW_rule (wr : World) (n r f : ByteArray) : RuleAt (mkW wr n r f) wr.heap.size n r f := by
  have e : (mkW wr n r f).heap[wr.heap.size]? = some (ruleObj n r f) := by
    show ((wr.alloc (ruleObj n r f)).alloc _).heap[wr.heap.size]? = _
    rw [Deep.blk_alloc_lt _ _ _ (by simp)]; exact Deep.blk_alloc_new _ _
  refine ⟨?_, ?_, ?_⟩ <;> (unfold ruleObj at e; simp [World.cell?, e])

theorem mkW_new (wr : World) (n r f : ByteArray) : ∀ j u, [Value.pointer (some ⟨wr.heap.size, 0, none⟩)][j]? = some u → (mkW wr n r f).cell? ((⟨wr.heap.size + 1, 0, none⟩ : Addr).add j) = some u := by
  intro j u hj
  have e : (mkW wr n r f).heap[wr.heap.size + 1]? = some (.cells #[.pointer (some ⟨wr.heap.size, 0, none⟩)] 45 (0, 0)) := by
    have e := Deep.blk_alloc_new (wr.alloc (ruleObj n r f)) (.cells #[.pointer (some ⟨wr.heap.size, 0, none⟩)] 45)
    rw [World.size_alloc] at e
    exact e
  match j, hj with
  | 0, hj => simp at hj; subst hj; simp [Addr.add, World.cell?, e]

theorem mk_setCells (W : World) (g k : Nat) (v : Value) : W.setCells g (0 + k * 1) [v] = W.setCell ⟨g, k, none⟩ v := by
  simp [World.setCells]

theorem MkAt.step {w wr : World} {g n k : Nat} {P : Nat → Nat} {N R F : Nat → ByteArray} (h : MkAt w g n k P N R F wr) (hk : k < n) :
    MkAt w g n (k + 1) (updP P k wr.heap.size) N R F ((mkW wr (N k) (R k) (F k)).setCell ⟨g, k, none⟩ (.pointer (some ⟨wr.heap.size, 0, none⟩))) := by
  obtain ⟨c, hrow, hc⟩ := h.row
  have hgl := hrow.lt
  have hB : Below w.heap.size w (mkW wr (N k) (R k) (F k)) := ((h.below.alloc h.below.size _).alloc (by have := h.below.size; simp; omega) _).drew
  have hrow2 : (mkW wr (N k) (R k) (F k)).rowIs g 45 n c := hrow.of_block (mkW_old _ _ _ _ _ hgl)
  have hsz : (mkW wr (N k) (R k) (F k)).heap.size = wr.heap.size + 1 + 1 := by show ((wr.alloc _).alloc _).heap.size = _; simp
  refine ⟨hB.setCell h.hg _, h.hg, ⟨_, hrow2.set k _, fun j hj => ?_⟩, fun j hj => ?_⟩
  · unfold updP
    by_cases e : j = k
    · subst e; rw [if_pos rfl, if_pos rfl]
    · rw [if_neg e, if_neg e]; exact hc j (by omega)
  · have hs2 : ((mkW wr (N k) (R k) (F k)).setCell ⟨g, k, none⟩ (.pointer (some ⟨wr.heap.size, 0, none⟩))).heap.size = wr.heap.size + 1 + 1 := by rw [← hsz]; simp [World.setCell]
    rw [hs2]
    unfold updP
    by_cases e : j = k
    · subst e
      rw [if_pos rfl]
      exact ⟨(mkW_rule _ _ _ _).of_block (Below.heap_setCell _ _ _ _ (by simp only; omega)), by omega, by omega⟩
    · rw [if_neg e]
      obtain ⟨h1, h2, h3⟩ := h.rules j (by omega)
      exact ⟨(h1.of_block (mkW_old _ _ _ _ _ h2)).of_block (Below.heap_setCell _ _ _ _ (by simp only; omega)), by omega, h3⟩

/-- 'out = append(out, ZZMakeRule(..))' as one step of a region that draws its order. -/
theorem step_mk {ops : Array Oper} {o : Oper} {a : Act} {K : Act → World → Prop} {Q : Exit → Act → World → Prop} {E : Prop} {w wr : World} {n k : Nat} {P : Nat → Nat} {N R F : Nat → ByteArray} {b off : Nat} {i0 : TypeInfo}
    (hgd : o.guard = none) (hop : o.op = Op.call { callee := Callee.builtin Builtin.append, args := #[.tmp 14, .tmp 31], argTypes := #[37, 37] }) (hi : Try.prog.info? 45 = some i0) (hz : i0.size = 1)
    (hs : a.eval (.tmp 14) = .slice (some ⟨w.heap.size, 0, none⟩) k n) (hx : a.eval (.tmp 31) = .slice (some ⟨wr.heap.size + 1, 0, none⟩) 1 1)
    (hM : MkAt w w.heap.size n k P N R F wr) (hk : k < n) (hbl : b < w.heap.size)
    (hc : wr.cell? ⟨b, off + k * 3, none⟩ = some (.string (N k)) ∧ wr.cell? ⟨b, off + k * 3 + 1, none⟩ = some (.string (R k)) ∧ wr.cell? ⟨b, off + k * 3 + 2, none⟩ = some (.string (F k)))
    (hK : ∀ w', MkAt w w.heap.size n (k + 1) (updP P k wr.heap.size) N R F w' → (w'.cell? ⟨b, off + k * 3, none⟩ = some (.string (N k)) ∧ w'.cell? ⟨b, off + k * 3 + 1, none⟩ = some (.string (R k)) ∧ w'.cell? ⟨b, off + k * 3 + 2, none⟩ = some (.string (F k))) →
      K (a.put o.dst (.slice (some ⟨w.heap.size, 0, none⟩) (k + 1) n)) w') :
    if Region.wanted o (yielded ops a.tmps) = true then Oper.wp Try.prog o a (mkW wr (N k) (R k) (F k)) K Q else E := by
  obtain ⟨c, hrow, _⟩ := hM.row
  have hrow2 : (mkW wr (N k) (R k) (F k)).rowIs w.heap.size 45 n c := hrow.of_block (mkW_old _ _ _ _ _ hrow.lt)
  refine step_append_room hgd (.tmp 14) (.tmp 31) 37 hop 45 i0 1 Try.underlying37 hi hz w.heap.size 0 k n hs ⟨wr.heap.size + 1, 0, none⟩ 1 1 [.pointer (some ⟨wr.heap.size, 0, none⟩)] hx rfl (mkW_new _ _ _ _) (fun u hu => by simp at hu; subst hu; rfl) (by omega) (fun j hj => ?_) ?_
  · obtain rfl : j = 0 := by simpa using hj
    simp only [Nat.zero_add, Nat.mul_one, Nat.add_zero]
    exact ⟨by rw [hrow2.cell hk]; rfl, hrow2.frozen k⟩
  · rw [mk_setCells]
    have hlt := hM.below.size
    refine hK _ (hM.step hk) ⟨?_, ?_, ?_⟩
    · rw [World.cell?_setCell_other _ _ _ _ (by intro e; injection e with e1; omega)]; exact (World.cell?_of_block (w := wr) (mkW_old _ _ _ _ _ (by simp only; omega))).trans hc.1
    · rw [World.cell?_setCell_other _ _ _ _ (by intro e; injection e with e1; omega)]; exact (World.cell?_of_block (w := wr) (mkW_old _ _ _ _ _ (by simp only; omega))).trans hc.2.1
    · rw [World.cell?_setCell_other _ _ _ _ (by intro e; injection e with e1; omega)]; exact (World.cell?_of_block (w := wr) (mkW_old _ _ _ _ _ (by simp only; omega))).trans hc.2.2

theorem mk_start {w w1 : World} {n : Nat} {N R F : Nat → ByteArray} (hown : w1.ownsRow w.heap.size 45 1 (.slice (some ⟨w.heap.size, 0, none⟩) 0 n) 0 []) (hgrow : w.grownBy w1 none) : MkAt w w.heap.size n 0 (fun _ => 0) N R F w1 := by
  refine ⟨(Below.refl _ _).grown hgrow (Nat.le_refl _) (fun k h => by cases h), Nat.le_refl _, ?_, fun j hj => absurd hj (by omega)⟩
  obtain ⟨_, ⟨h, _⟩ | ⟨g', cap, cur, hv, _, hg, _, _, hs, _⟩⟩ := hown
  · cases h
  · injection hv with e1 e2 e3
    injection e1 with e1
    injection e1 with e1
    subst e1 e3
    exact ⟨fun i => cur.getD i default, ⟨cur, hg, by omega, fun i hi => by rw [Array.getElem?_eq_getElem (by omega)]; simp [Array.getD, show i < cur.size by omega]⟩, fun j hj => absurd hj (by omega)⟩

set_option maxRecDepth 100000 in
theorem makes_any (a : Option Addr) (len cap : Nat) (N R F : Nat → ByteArray) (w : World) (hlen : len ≤ 1048576) (hC : RulesAt w a len N R F) :
    Calls Try.prog 21 #[.slice a len cap] w fun e w' => ∃ g P, e = .returned (.slice (some ⟨g, 0, none⟩) len len) ∧ MkAt w g len len P N R F w' := by
  have HC : Hid _ := hC
  clear hC
  obtain ⟨i0, hi, hz0, hz1, hz2⟩ := info_parts info45
  go_enter Try.func21, Try.ntmps21
  go_wp2_with (at_make; refine wpList_make_own _ rfl _ (.tmp 6) 37 rfl w.heap.size 45 i0 _ 1 Try.underlying37 hi hz0 hz1 .i64 .i64 (len : Int) len rfl rfl rfl (by rw [hz2]; omega) (by unfold maxLen; omega) (Nat.le_refl _) ?_; intro w1 hown hgrow)
  have hst : MkAt w w.heap.size len 0 (fun _ => 0) N R F w1 := mk_start hown hgrow
  clear hown hgrow
  go_loopw [3, 4] (fun v i wr => ∃ (k : Nat) (P : Nat → Nat), k ≤ len ∧ i = .int .i64 k ∧ v = .slice (some ⟨w.heap.size, 0, none⟩) k len ∧ MkAt w w.heap.size len k P N R F wr) (fun _ i _ => len - (intOf i).toNat)
  case atStart => exact ⟨0, _, by omega, rfl, rfl, hst⟩
  case round =>
    clear hst
    obtain ⟨k, P, hk, rfl, rfl, hM⟩ := hrel
    by_cases hlt : k < len
    · obtain ⟨b, off, rfl, hbl, hr⟩ := HC.out (by omega)
      obtain ⟨c0, c1, c2⟩ := hr.keep hM.below hbl k hlt
      have hi1 : (k : Int) < (len : Int) := by omega
      clear hr
      have HM : Hid _ := And.intro hM (And.intro c0 (And.intro c1 c2))
      clear hM
      go_upto_region 5 with fail
      go_region_held3 (fun w' => w'.cell? ⟨b, off + k * 3, none⟩ = some (.string (N k)) ∧ w'.cell? ⟨b, off + k * 3 + 1, none⟩ = some (.string (R k)) ∧ w'.cell? ⟨b, off + k * 3 + 2, none⟩ = some (.string (F k))) (go_keep)
        (first
          | (go_at_call 27; refine (make_any _ _ _ _).mono ?_; rintro e w2 ⟨rfl, rfl⟩)
          | (refine step_mk rfl rfl hi hz1 rfl rfl HM.out.1 hlt hbl HM.out.2 ?_; intro w4 hM4 hS4))
      go_wp2
      go_roundw
      case rel => exact ⟨k + 1, _, by omega, by go_num, rfl, hM4⟩
      case measure => simp [intOf]; omega
    · obtain rfl : k = len := by omega
      go_wp2
      go_ret
      exact ⟨_, P, rfl, hM⟩
end Go.Proofs.Qxb6601275a.JoinLaw
