/-
  What the rounds of 'FnBandRunsEqualClampedEditDistance' know of their world.
-/
import Derived.Test.Qxb6601204aNext13
import Derived.Test.Qxb6601204aCopy
import Derived.Deep.DeepCutAuto
import Derived.OpenShut
namespace Go.Proofs.Qxb6601204a
open Go.RowKit
open Band

/-- WHAT THE WALK IS TOLD OF A SLICE OF INTEGERS THAT CAME IN (the shell's own words). -/
def IsRow (k : IntKind) (w : World) (a : Option Addr) (len cap : Nat) (zs : List Int) : Prop :=
  (a = none ∧ len = 0 ∧ cap = 0 ∧ zs = []) ∨
  ∃ x, a = some x ∧ len ≤ cap ∧ cap ≤ maxLen ∧ zs.length = cap ∧ (∀ i, i < zs.length → w.cell? (x.add i) = some (.int k (zs.getD i 0))) ∧ ∀ n ∈ zs, (Lit.int k n).wf = true

/-- The copied 'q'. -/
def IsQ (w : World) (B M : Nat) (a : Option Addr) (len cap : Nat) (q : Nat → Int) : Prop :=
  (a = none ∧ len = 0 ∧ cap = 0) ∨ ∃ qb, a = some ⟨qb, 0, none⟩ ∧ B ≤ qb ∧ qb < M ∧ w.rowIs qb 21 len (fun i => .int .i32 (q i))

theorem IsQ.keep {w w' : World} {B M len cap : Nat} {a : Option Addr} {q : Nat → Int} (h : IsQ w B M a len cap q) (hk : ∀ b, b < M → w'.heap[b]? = w.heap[b]?) : IsQ w' B M a len cap q := by
  rcases h with h | ⟨qb, h1, h2, h3, h4⟩
  · exact .inl h
  · exact .inr ⟨qb, h1, h2, h3, h4.of_block (hk _ h3)⟩

/-- What the rounds know of the world: q's copy, the band's five cells, the two rows. -/
structure RunAt (w : World) (aq : Option Addr) (len1 cq : Nat) (q : Nat → Int) (M pb cb : Nat) (B P C : Nat → Int) (wr : World) : Prop where
  below : Below w.heap.size w wr
  isq : IsQ wr w.heap.size M aq len1 cq q
  hM : w.heap.size ≤ M
  hpb : M < pb
  hcb : M < cb
  hne : pb ≠ cb
  bb : wr.rowIs M 27 5 (fun t => .int .i8 (B t))
  pr : wr.rowIs pb 3 (len1 + 1) (fun j => .int .i64 (P j))
  cu : wr.rowIs cb 3 (len1 + 1) (fun j => .int .i64 (C j))

section
variable {w wr : World} {aq : Option Addr} {len1 cq : Nat} {q : Nat → Int} {M pb cb : Nat} {B P C : Nat → Int}

theorem RunAt.drew (h : RunAt w aq len1 cq q M pb cb B P C wr) : RunAt w aq len1 cq q M pb cb B P C wr.drew :=
  ⟨h.below.drew, h.isq.keep (fun _ _ => rfl), h.hM, h.hpb, h.hcb, h.hne, h.bb.drew, h.pr.drew, h.cu.drew⟩

theorem RunAt.next {w2 : World} (h : RunAt w aq len1 cq q M pb cb B P C wr) (hb : Below wr.heap.size wr w2) : RunAt w aq len1 cq q M pb cb B P C w2 :=
  ⟨h.below.trans (hb.mono h.below.size), h.isq.keep (fun b hb' => hb.block b (by have := h.bb.lt; omega)), h.hM, h.hpb, h.hcb, h.hne, h.bb.of_block (hb.block _ h.bb.lt), h.pr.of_block (hb.block _ h.pr.lt), h.cu.of_block (hb.block _ h.cu.lt)⟩

theorem RunAt.swap (h : RunAt w aq len1 cq q M pb cb B P C wr) : RunAt w aq len1 cq q M cb pb B C P wr :=
  ⟨h.below, h.isq, h.hM, h.hcb, h.hpb, h.hne.symm, h.bb, h.cu, h.pr⟩

theorem RunAt.setC (h : RunAt w aq len1 cq q M pb cb B P C wr) (i : Nat) (v : Int) : RunAt w aq len1 cq q M pb cb B P (fun j => if j = i then v else C j) (wr.setCell ⟨cb, i, none⟩ (.int .i64 v)) :=
  ⟨h.below.setCell (by have := h.hM; have := h.hcb; simp only; omega) _, h.isq.keep (fun b hb => Below.heap_setCell _ _ _ _ (by have := h.hcb; simp only; omega)), h.hM, h.hpb, h.hcb, h.hne,
    h.bb.setOther (by have := h.hcb; simp only; omega) _, h.pr.setOther h.hne _, (h.cu.set i _).congr (fun j _ => by split <;> rfl)⟩

theorem RunAt.setP (h : RunAt w aq len1 cq q M pb cb B P C wr) (i : Nat) (v : Int) : RunAt w aq len1 cq q M pb cb B (fun j => if j = i then v else P j) C (wr.setCell ⟨pb, i, none⟩ (.int .i64 v)) :=
  (h.swap.setC i v).swap

theorem RunAt.setB (h : RunAt w aq len1 cq q M pb cb B P C wr) (i : Nat) (v : Int) : RunAt w aq len1 cq q M pb cb (fun j => if j = i then v else B j) P C (wr.setCell ⟨M, i, none⟩ (.int .i8 v)) :=
  ⟨h.below.setCell (by have := h.hM; simp only; omega) _, h.isq.keep (fun b hb => Below.heap_setCell _ _ _ _ (by simp only; omega)), h.hM, h.hpb, h.hcb, h.hne,
    (h.bb.set i _).congr (fun j _ => by split <;> rfl), h.pr.setOther (by have := h.hpb; simp only; omega) _, h.cu.setOther (by have := h.hcb; simp only; omega) _⟩

theorem RunAt.congr {B' P' C' : Nat → Int} (h : RunAt w aq len1 cq q M pb cb B P C wr) (hB : ∀ t, t < 5 → B t = B' t) (hP : ∀ j, j < len1 + 1 → P j = P' j) (hC : ∀ j, j < len1 + 1 → C j = C' j) :
    RunAt w aq len1 cq q M pb cb B' P' C' wr :=
  ⟨h.below, h.isq, h.hM, h.hpb, h.hcb, h.hne, h.bb.congr (fun t ht => by rw [hB t ht]), h.pr.congr (fun t ht => by rw [hP t ht]), h.cu.congr (fun t ht => by rw [hC t ht])⟩
end

/-- The band's first row. -/
def b0 (t : Nat) : Int := if t < 2 then 3 else (t : Int) - 2

theorem b0_bc (p q : Nat → Int) (len : Nat) (t : Nat) (h : t < 5) : b0 t = bc p q len 0 t := by
  unfold b0 bc
  rcases (by omega : t = 0 ∨ t = 1 ∨ t = 2 ∨ t = 3 ∨ t = 4) with rfl | rfl | rfl | rfl | rfl <;> simp [ed] <;> omega

theorem RunAt.start {w wc : World} {aq : Option Addr} {len1 cq : Nat} {q : Nat → Int} (hb : Below w.heap.size w wc) (hq : IsQ wc w.heap.size wc.heap.size aq len1 cq q) :
    RunAt w aq len1 cq q wc.heap.size (wc.heap.size + 1) (wc.heap.size + 1 + 1) b0 (fun _ => 0) (fun _ => 0)
      (((wc.alloc (.cells #[.int .i8 3, .int .i8 3, .int .i8 0, .int .i8 1, .int .i8 2] 27)).alloc (.cells (madeCells #[.int .i64 0] (len1 + 1)) 3)).alloc (.cells (madeCells #[.int .i64 0] (len1 + 1)) 3)) := by
  have hs := hb.size
  refine ⟨((hb.alloc hs _).alloc (by simp; omega) _).alloc (by simp; omega) _, hq.keep (fun b h => ?_), hs, by omega, by omega, by omega, ?_, ?_, ?_⟩
  · rw [Deep.blk_alloc_lt _ _ _ (by simp; omega), Deep.blk_alloc_lt _ _ _ (by simp; omega), Deep.blk_alloc_lt _ _ _ h]
  · refine ((World.rowIs_alloc wc #[.int .i8 3, .int .i8 3, .int .i8 0, .int .i8 1, .int .i8 2] 27 (fun t => .int .i8 (b0 t)) ?_).alloc _).alloc _
    intro i hi
    simp at hi
    rcases (by omega : i = 0 ∨ i = 1 ∨ i = 2 ∨ i = 3 ∨ i = 4) with rfl | rfl | rfl | rfl | rfl <;> simp [b0]
  · have := (World.rowIs_made (wc.alloc (.cells #[.int .i8 3, .int .i8 3, .int .i8 0, .int .i8 1, .int .i8 2] 27)) (.int .i64 0) (len1 + 1) 3).alloc (.cells (madeCells #[.int .i64 0] (len1 + 1)) 3)
    simpa using this
  · have := World.rowIs_made ((wc.alloc (.cells #[.int .i8 3, .int .i8 3, .int .i8 0, .int .i8 1, .int .i8 2] 27)).alloc (.cells (madeCells #[.int .i64 0] (len1 + 1)) 3)) (.int .i64 0) (len1 + 1) 3
    simpa using this

theorem info21 : (Try.prog.info? 21).map (fun i => (i.zero, i.size, i.bytes)) = some (some (.int .i32 0), 1, 4) := by kernel_rfl
theorem info3 : (Try.prog.info? 3).map (fun i => (i.zero, i.size, i.bytes)) = some (some (.int .i64 0), 1, 8) := by kernel_rfl
theorem size21 : (Try.prog.info? 21).map (·.size) = some 1 := by kernel_rfl

theorem bytes_ok (a0 : Option Addr) (len0 cap0 : Nat) (a1 : Option Addr) (len1 cap1 : Nat) (w : World)  (hl0 : len0 ≤ 1024) (hl1 : len1 ≤ 1024) :
    Calls Try.prog 16 #[.slice a0 len0 cap0, .slice a1 len1 cap1] w fun e w' => e = .returned (.bool true) ∧ w = w' := by
  go_enter Try.func16, Try.ntmps16
  go_wp2
  go_ret
  exact ⟨rfl, rfl⟩


theorem cell_lt {w : World} {a : Addr} {v : Value} (h : w.cell? a = some v) : a.block < w.heap.size := by
  rcases Nat.lt_or_ge a.block w.heap.size with h' | h'
  · exact h'
  · simp [World.cell?, Array.getElem?_eq_none h'] at h

/-- What came in, where it has an element. -/
theorem IsRow.at {k : IntKind} {w : World} {a : Option Addr} {len cap : Nat} {zs : List Int} (h : IsRow k w a len cap zs) (hp : 0 < len) :
    ∃ b off, a = some ⟨b, off, none⟩ ∧ b < w.heap.size ∧ ∀ j, j < len → w.cell? ⟨b, off + j, none⟩ = some (.int k (zs.getD j 0)) := by
  rcases h with ⟨_, h, _⟩ | ⟨x, rfl, hlc, _, hzl, hcell, _⟩
  · omega
  · obtain ⟨b, off, rfl, hc⟩ := ints_at hcell (by omega)
    exact ⟨b, off, rfl, cell_lt (hc 0 (by omega)), fun j hj => hc j (by omega)⟩

theorem zznext_any {w : World} {B M len cq : Nat} {aq : Option Addr} {q : Nat → Int} (hQ : IsQ w B M aq len cq q) (hM : M ≤ w.heap.size) (hlen : len ≤ 1048576) (b : Nat → Int) (r k : Int) (hb : ∀ s, s < 5 → -128 ≤ b s ∧ b s ≤ 3) (hk : -2 ≤ k) (hk2 : k ≤ 2097152) :
    Calls Try.prog 13 #[.agg #[.int .i8 (b 0), .int .i8 (b 1), .int .i8 (b 2), .int .i8 (b 3), .int .i8 (b 4)], .int .i32 r, .int .i64 k, .slice aq len cq] w fun e w' =>
      e = .returned (.agg #[.int .i8 (nx b r k q len 0), .int .i8 (nx b r k q len 1), .int .i8 (nx b r k q len 2), .int .i8 (nx b r k q len 3), .int .i8 (nx b r k q len 4)]) ∧ Below w.heap.size w w' := by
  rcases hQ with ⟨rfl, rfl, rfl⟩ | ⟨qb, rfl, h2, h3, h4⟩
  · exact zznext_nil b r k q w hb hk hk2
  · exact zznext_some b r k q qb 0 len cq w hb hk hk2 hlen (fun i hi => by rw [Nat.zero_add]; exact h4.cell hi) (by omega)

theorem zznext_bc {w : World} {B M len cq : Nat} {aq : Option Addr} {q : Nat → Int} (hQ : IsQ w B M aq len cq q) (hM : M ≤ w.heap.size) (hlen : len ≤ 1048576) (p : Nat → Int) (K : Nat) (hK : K ≤ 1048576) :
    Calls Try.prog 13 #[.agg #[.int .i8 (bc p q len K 0), .int .i8 (bc p q len K 1), .int .i8 (bc p q len K 2), .int .i8 (bc p q len K 3), .int .i8 (bc p q len K 4)], .int .i32 (p K), .int .i64 ((K : Int) + 1), .slice aq len cq] w fun e w' =>
      e = .returned (.agg #[.int .i8 (bc p q len (K + 1) 0), .int .i8 (bc p q len (K + 1) 1), .int .i8 (bc p q len (K + 1) 2), .int .i8 (bc p q len (K + 1) 3), .int .i8 (bc p q len (K + 1) 4)]) ∧ Below w.heap.size w w' := by
  have h := zznext_any hQ hM hlen (bc p q len K) (p K) ((K + 1 : Nat) : Int) (fun s _ => by have := bc_lo p q len K s; have := bc_hi p q len K s; omega) (by omega) (by omega)
  rw [nx_bc _ _ _ _ 0 (by omega), nx_bc _ _ _ _ 1 (by omega), nx_bc _ _ _ _ 2 (by omega), nx_bc _ _ _ _ 3 (by omega), nx_bc _ _ _ _ 4 (by omega)] at h
  exact h

/-- The band's block, all of it written anew. -/
theorem RunAt.setAll {w wr : World} {aq : Option Addr} {len1 cq : Nat} {q : Nat → Int} {M pb cb : Nat} {B P C : Nat → Int} (h : RunAt w aq len1 cq q M pb cb B P C wr) (F : Nat → Int) :
    RunAt w aq len1 cq q M pb cb F P C (((((wr.setCell ⟨M, 0, none⟩ (.int .i8 (F 0))).setCell ⟨M, 1, none⟩ (.int .i8 (F 1))).setCell ⟨M, 2, none⟩ (.int .i8 (F 2))).setCell ⟨M, 3, none⟩ (.int .i8 (F 3))).setCell ⟨M, 4, none⟩ (.int .i8 (F 4))) :=
  (((((h.setB 0 (F 0)).setB 1 (F 1)).setB 2 (F 2)).setB 3 (F 3)).setB 4 (F 4)).congr
    (fun t ht => by rcases (by omega : t = 0 ∨ t = 1 ∨ t = 2 ∨ t = 3 ∨ t = 4) with rfl | rfl | rfl | rfl | rfl <;> simp) (fun _ _ => rfl) (fun _ _ => rfl)

theorem RunAt.stepC {w wr : World} {aq : Option Addr} {len1 cq : Nat} {q : Nat → Int} {M pb cb : Nat} {B P C E : Nat → Int} {j : Nat} (h : RunAt w aq len1 cq q M pb cb B P (fun s => if s < j + 1 then E s else C s) wr) {v : Int} (hv : v = E (j + 1)) :
    RunAt w aq len1 cq q M pb cb B P (fun s => if s < j + 1 + 1 then E s else C s) (wr.setCell ⟨cb, j + 1, none⟩ (.int .i64 v)) :=
  (h.setC (j + 1) v).congr (fun _ _ => rfl) (fun _ _ => rfl) (fun s _ => by
    by_cases e : s = j + 1
    · subst e; rw [if_pos rfl, if_pos (by omega), hv]
    · rw [if_neg e]
      by_cases e2 : s < j + 1
      · rw [if_pos e2, if_pos (by omega)]
      · rw [if_neg e2, if_neg (by omega)])

/-- What the law wants of cell t. -/
theorem want_of {p q : Nat → Int} {len K t : Nat} :
    bc p q len (K + 1) t = if 0 ≤ (K : Int) + 1 - 2 + t ∧ (K : Int) + 1 - 2 + t ≤ len ∧ ed p q (K + 1) ((K : Int) + 1 - 2 + t).toNat < 3 then ed p q (K + 1) ((K : Int) + 1 - 2 + t).toNat else 3 := by
  have e : ((K : Int) + 1 - 2 + t).toNat = K + 1 + t - 2 := by omega
  rw [e]
  unfold bc
  by_cases h1 : ((K + 1 : Nat) : Int) - 2 + t < 0
  · rw [if_pos h1, if_neg (by omega)]
  · rw [if_neg h1]
    by_cases h2 : 0 < K + 1 ∧ (len : Int) < ((K + 1 : Nat) : Int) - 2 + t
    · rw [if_pos h2, if_neg (by omega)]
    · rw [if_neg h2]
      by_cases h3 : ed p q (K + 1) (K + 1 + t - 2) < 3
      · rw [if_pos ⟨by omega, by omega, h3⟩]; omega
      · rw [if_neg (by omega)]; omega

end Go.Proofs.Qxb6601204a
