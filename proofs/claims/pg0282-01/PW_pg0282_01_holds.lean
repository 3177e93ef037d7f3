import PyProof.Rows.All
import Wide.All
import OpenK.AllK
import Wide.FinOn
import PySem.Challenge.RW_pg0282_01
open PySem PySem.W PySem.Calls PySem.Spec PyProof.Rows
set_option Elab.async false
set_option maxRecDepth 100000
set_option maxHeartbeats 8000000
namespace Mine
/-- the statements of the text that the head pins -/
abbrev VW : Program := view PySem.Challenge.pw_pg0282_01 [0, 7, 8, 11, 12, 13, 14, 15, 16, 17, 18, 19, 20, 21, 22, 23, 24]
abbrev PL : List Str := [Str.ofString "insort_right", Str.ofString "bisect_right", Str.ofString "insort_left", Str.ofString "bisect_left", Str.ofString "Whitespace"]
/-- so that the text's twin stands -/
theorem primed : (PySem.Challenge.pw_pg0282_01.main.body.length == 25) = true := by k_qdec
local macro_rules | `(tactic| o_head $H) => `(tactic| (
  refine holds_open (q := VW) (loose := PL) (Xt := fun s => xlAt VW [] s && recOk (RowW.records PySem.Challenge.rw_pg0282_01.row.toRowW) s) (XP := XL VW []) (Yf := Hook.obs $H) (Ya := Hook.val $H) (YP := Hook.says $H) (N := 2494) ?hl (Hook.of $H) (Hook.keeps $H)
    (fun s e => xl_of s (Bool.and_eq_true_iff.mp e).1) XL.keeps (by rfl) (by rfl) (by rfl) (fun s e => recFacts_of (Bool.and_eq_true_iff.mp e).2) (by rfl) (by first | assumption | decide +kernel) (by decide +kernel) ⟨rfl, rfl, rfl, rfl, rfl, by decide +kernel⟩ ?hw ?hc
  case hl =>
    refine LeftO.of_split "special-get-raises" ?_
    unfold fencedOpening topFrom opening VW PL
    rw [show OpenRow.toRowW PySem.Challenge.rw_pg0282_01.row = OpenRow.toRowW PySem.Challenge.rw_pg0282_01.row from rfl, show RowW.prog (OpenRow.toRowW PySem.Challenge.rw_pg0282_01.row) = PySem.Challenge.pw_pg0282_01 from rfl]
    rw [PySem.W.Fast.te11851671744789706998, PySem.W.Fast.te10274390034422433532, PySem.W.Fast.te1435165496053646825, PySem.W.Fast.te14289696077712309145, PySem.W.Fast.te14082659384304107361, PySem.W.Fast.te4187177175401517315, PySem.W.Fast.te14364793385576792824, PySem.W.Fast.te5923862056798008813, PySem.W.Fast.te8920871248978507458]
    intro w
    kernel_rfl))
open_top hd for PySem.Challenge.rw_pg0282_01
end Mine

namespace Mine
def fl8 (n : Nat) : UInt64 := Float64.ofFrac false n 8
def fl16 (n : Nat) : UInt64 := Float64.ofFrac false n 16
theorem fl8_gt : ∀ i, i ≤ 8 → ∀ j, j ≤ 8 → (Float64.cmp (fl8 i) (fl8 j) == some Ordering.gt) = decide (i > j) := by
  have : ∀ i : Fin 9, ∀ j : Fin 9, (Float64.cmp (fl8 i) (fl8 j) == some Ordering.gt) = decide (i.1 > j.1) := by decide +kernel
  intro i hi j hj
  exact this ⟨i, by omega⟩ ⟨j, by omega⟩
theorem fl8_lt : ∀ i, i ≤ 8 → ∀ j, j ≤ 8 → (Float64.cmp (fl8 i) (fl8 j) == some Ordering.lt) = decide (i < j) := by
  have : ∀ i : Fin 9, ∀ j : Fin 9, (Float64.cmp (fl8 i) (fl8 j) == some Ordering.lt) = decide (i.1 < j.1) := by decide +kernel
  intro i hi j hj
  exact this ⟨i, by omega⟩ ⟨j, by omega⟩
theorem fl8_eq : ∀ i, i ≤ 8 → ∀ j, j ≤ 8 → (Float64.cmp (fl8 i) (fl8 j) == some Ordering.eq) = decide (i = j) := by
  have : ∀ i : Fin 9, ∀ j : Fin 9, (Float64.cmp (fl8 i) (fl8 j) == some Ordering.eq) = decide (i.1 = j.1) := by decide +kernel
  intro i hi j hj
  exact this ⟨i, by omega⟩ ⟨j, by omega⟩
theorem fl16_lt : ∀ i, i ≤ 12 → ∀ j, j ≤ 12 → (Float64.cmp (fl16 i) (fl16 j) == some Ordering.lt) = decide (i < j) := by
  have : ∀ i : Fin 13, ∀ j : Fin 13, (Float64.cmp (fl16 i) (fl16 j) == some Ordering.lt) = decide (i.1 < j.1) := by decide +kernel
  intro i hi j hj
  exact this ⟨i, by omega⟩ ⟨j, by omega⟩

section
variable {prog : Program} {w : World} {A : Around} {E : Value → Shared → Prop} {s : Shared}
theorem cmpF_gt {P : Nat → Value → Prop} (val : Nat → UInt64) (hval : ∀ i v, P i v → ∃ t, v = .float (val i) t) :
    CmpOf prog w A .Gt P (fun i j => Float64.cmp (val i) (val j) == some Ordering.gt) := fun i j vi vj s Q E hi hj h => by
  obtain ⟨t, rfl⟩ := hval i vi hi
  obtain ⟨u, rfl⟩ := hval j vj hj
  exact AutoFloatOps.gt_0 h
theorem cmpF_lt {P : Nat → Value → Prop} (val : Nat → UInt64) (hval : ∀ i v, P i v → ∃ t, v = .float (val i) t) :
    CmpOf prog w A .Lt P (fun i j => Float64.cmp (val i) (val j) == some Ordering.lt) := fun i j vi vj s Q E hi hj h => by
  obtain ⟨t, rfl⟩ := hval i vi hi
  obtain ⟨u, rfl⟩ := hval j vj hj
  exact AutoFloatOps.lt_0 h

def pick3 (a b c : Nat) : Nat → Nat
  | 0 => a | 1 => b | _ => c

theorem max3F {a b c : Nat} {t u x : Tok} {Q : Value → Shared → Prop} (hh : A.handled = none) (ha : a ≤ 8) (hb : b ≤ 8) (hc : c ≤ 8)
    (h : ∀ h' tk y, (∀ d o, s.heap.get? d = some o → h'.get? d = some o) → Q (.float (fl8 (max (max a b) c)) y) { s with heap := h', toks := tk }) :
    wpAny (model prog w) A (call (.builtin "max") [.float (fl8 a) t, .float (fl8 b) u, .float (fl8 c) x]) Q E s := by
  have hT : (s.heap.push { cls := .type "tuple", data := .seq #[.float (fl8 a) t, .float (fl8 b) u, .float (fl8 c) x] }).IsTuple s.heap.objs.size (#[.float (fl8 a) t, .float (fl8 b) u, .float (fl8 c) x]) := ⟨_, Heap.get?_push_size _ rfl, rfl, 0, by simp⟩
  refine call_max_three (wpAny_pyIter_tuple hT ?_)
  have hsz : (s.heap.push { cls := .type "tuple", data := .seq #[.float (fl8 a) t, .float (fl8 b) u, .float (fl8 c) x] }).objs.size = s.heap.objs.size + 1 := Heap.size_push ..
  refine ⟨_, [_, s.heap.objs.size], [_], _, _, _, _, rfl, Walks.tuple (A := A.in1) hh _ s.heap.objs.size (by rw [hsz]; exact Nat.ne_of_lt (Nat.lt_succ_self _)) (#[.float (fl8 a) t, .float (fl8 b) u, .float (fl8 c) x]),
    ⟨⟨_, Heap.get?_push_size _ rfl, rfl, rfl⟩, hT.push _⟩, fun d hd => ?_, by simp, cmpF_gt (fun i => fl8 (pick3 a b c i)) (fun i v hv => ?_), fun v h' tk hP hk => ?_⟩
  · show d < ((s.heap.push _).push _).objs.size
    rw [Heap.size_push, hsz]
    rcases List.mem_cons.mp hd with rfl | hd
    · rw [hsz]; exact Nat.lt_succ_self _
    · rcases List.mem_cons.mp hd with rfl | hd
      · exact Nat.lt_succ_of_lt (Nat.lt_succ_self _)
      · cases hd
  · match i, hv with
    | 0, hv => exact ⟨t, by simpa [pick3] using hv.symm⟩
    | 1, hv => exact ⟨u, by simpa [pick3] using hv.symm⟩
    | 2, hv => exact ⟨x, by simpa [pick3] using hv.symm⟩
    | n + 3, hv => simp at hv
  · have hold : ∀ d o, s.heap.get? d = some o → h'.get? d = some o := fun d o e => by
      refine hk d o (fun hm => ?_) (Heap.get?_push_of_some _ (Heap.get?_push_of_some _ e))
      rcases List.mem_cons.mp hm with e1 | hm
      · have := Heap.lt_size e; rw [e1, hsz] at this; exact Nat.lt_irrefl _ (Nat.lt_of_succ_lt this)
      · cases hm
    have hv : ∃ y, v = .float (fl8 (max (max a b) c)) y := by
      have hP' : (#[Value.float (fl8 a) t, Value.float (fl8 b) u, Value.float (fl8 c) x])[argBest (fun i j => Float64.cmp (fl8 (pick3 a b c i)) (fl8 (pick3 a b c j)) == some Ordering.gt) 2]? = some v := hP
      have e1 := fl8_gt b hb a ha
      have e2 := fl8_gt c hc b hb
      have e3 := fl8_gt c hc a ha
      simp only [argBest, pick3] at hP'
      rw [e1] at hP'
      by_cases hba : b > a
      · simp only [hba, decide_true, if_true, pick3] at hP'
        rw [e2] at hP'
        by_cases hcb : c > b
        · simp only [hcb, decide_true, if_true] at hP'
          refine ⟨x, ?_⟩
          rw [show max (max a b) c = c by omega]
          simpa using hP'.symm
        · simp only [hcb, decide_false, Bool.false_eq_true, if_false] at hP'
          refine ⟨u, ?_⟩
          rw [show max (max a b) c = b by omega]
          simpa using hP'.symm
      · simp only [hba, decide_false, Bool.false_eq_true, if_false, pick3] at hP'
        rw [e3] at hP'
        by_cases hca : c > a
        · simp only [hca, decide_true, if_true] at hP'
          refine ⟨x, ?_⟩
          rw [show max (max a b) c = c by omega]
          simpa using hP'.symm
        · simp only [hca, decide_false, Bool.false_eq_true, if_false] at hP'
          refine ⟨t, ?_⟩
          rw [show max (max a b) c = a by omega]
          simpa using hP'.symm
    obtain ⟨y, rfl⟩ := hv
    exact h h' tk y hold

theorem min3F {a b c : Nat} {t u x : Tok} {Q : Value → Shared → Prop} (hh : A.handled = none) (ha : a ≤ 8) (hb : b ≤ 8) (hc : c ≤ 8)
    (h : ∀ h' tk y, (∀ d o, s.heap.get? d = some o → h'.get? d = some o) → Q (.float (fl8 (min (min a b) c)) y) { s with heap := h', toks := tk }) :
    wpAny (model prog w) A (call (.builtin "min") [.float (fl8 a) t, .float (fl8 b) u, .float (fl8 c) x]) Q E s := by
  have hT : (s.heap.push { cls := .type "tuple", data := .seq #[.float (fl8 a) t, .float (fl8 b) u, .float (fl8 c) x] }).IsTuple s.heap.objs.size (#[.float (fl8 a) t, .float (fl8 b) u, .float (fl8 c) x]) := ⟨_, Heap.get?_push_size _ rfl, rfl, 0, by simp⟩
  refine call_min_three (wpAny_pyIter_tuple hT ?_)
  have hsz : (s.heap.push { cls := .type "tuple", data := .seq #[.float (fl8 a) t, .float (fl8 b) u, .float (fl8 c) x] }).objs.size = s.heap.objs.size + 1 := Heap.size_push ..
  refine ⟨_, [_, s.heap.objs.size], [_], _, _, _, _, rfl, Walks.tuple (A := A.in1) hh _ s.heap.objs.size (by rw [hsz]; exact Nat.ne_of_lt (Nat.lt_succ_self _)) (#[.float (fl8 a) t, .float (fl8 b) u, .float (fl8 c) x]),
    ⟨⟨_, Heap.get?_push_size _ rfl, rfl, rfl⟩, hT.push _⟩, fun d hd => ?_, by simp, cmpF_lt (fun i => fl8 (pick3 a b c i)) (fun i v hv => ?_), fun v h' tk hP hk => ?_⟩
  · show d < ((s.heap.push _).push _).objs.size
    rw [Heap.size_push, hsz]
    rcases List.mem_cons.mp hd with rfl | hd
    · rw [hsz]; exact Nat.lt_succ_self _
    · rcases List.mem_cons.mp hd with rfl | hd
      · exact Nat.lt_succ_of_lt (Nat.lt_succ_self _)
      · cases hd
  · match i, hv with
    | 0, hv => exact ⟨t, by simpa [pick3] using hv.symm⟩
    | 1, hv => exact ⟨u, by simpa [pick3] using hv.symm⟩
    | 2, hv => exact ⟨x, by simpa [pick3] using hv.symm⟩
    | n + 3, hv => simp at hv
  · have hold : ∀ d o, s.heap.get? d = some o → h'.get? d = some o := fun d o e => by
      refine hk d o (fun hm => ?_) (Heap.get?_push_of_some _ (Heap.get?_push_of_some _ e))
      rcases List.mem_cons.mp hm with e1 | hm
      · have := Heap.lt_size e; rw [e1, hsz] at this; exact Nat.lt_irrefl _ (Nat.lt_of_succ_lt this)
      · cases hm
    have hv : ∃ y, v = .float (fl8 (min (min a b) c)) y := by
      have hP' : (#[Value.float (fl8 a) t, Value.float (fl8 b) u, Value.float (fl8 c) x])[argBest (fun i j => Float64.cmp (fl8 (pick3 a b c i)) (fl8 (pick3 a b c j)) == some Ordering.lt) 2]? = some v := hP
      have e1 := fl8_lt b hb a ha
      have e2 := fl8_lt c hc b hb
      have e3 := fl8_lt c hc a ha
      simp only [argBest, pick3] at hP'
      rw [e1] at hP'
      by_cases hba : b < a
      · simp only [hba, decide_true, if_true, pick3] at hP'
        rw [e2] at hP'
        by_cases hcb : c < b
        · simp only [hcb, decide_true, if_true] at hP'
          refine ⟨x, ?_⟩
          rw [show min (min a b) c = c by omega]
          simpa using hP'.symm
        · simp only [hcb, decide_false, Bool.false_eq_true, if_false] at hP'
          refine ⟨u, ?_⟩
          rw [show min (min a b) c = b by omega]
          simpa using hP'.symm
      · simp only [hba, decide_false, Bool.false_eq_true, if_false, pick3] at hP'
        rw [e3] at hP'
        by_cases hca : c < a
        · simp only [hca, decide_true, if_true] at hP'
          refine ⟨x, ?_⟩
          rw [show min (min a b) c = c by omega]
          simpa using hP'.symm
        · simp only [hca, decide_false, Bool.false_eq_true, if_false] at hP'
          refine ⟨t, ?_⟩
          rw [show min (min a b) c = a by omega]
          simpa using hP'.symm
    obtain ⟨y, rfl⟩ := hv
    exact h h' tk y hold
end
end Mine
namespace Mine
section
variable {prog : Program} {w : World} {A : Around} {E : Value → Shared → Prop} {s : Shared} {a b : UInt64} {t u : Tok} {Q : Value → Shared → Prop}
theorem divF (hz : Float64.isZero b = false) (h : Q (.float (Float64.div a b) s.toks) { s with toks := s.toks + 1 }) : wpAny (model prog w) A (binaryOp .Div (.float a t) (.float b u)) Q E s :=
  AutoFloatOps.truediv_1 (by rw [hz]; exact Bool.false_ne_true) h
theorem modF (hz : Float64.isZero b = false) (h : Q (.float (Float64.divmod a b).snd s.toks) { s with toks := s.toks + 1 }) : wpAny (model prog w) A (binaryOp .Mod (.float a t) (.float b u)) Q E s :=
  AutoFloatOps.mod_1 (by rw [hz]; exact Bool.false_ne_true) h
theorem sumNZ : ∀ i, i ≤ 8 → ∀ j, j < i → Float64.isZero (Float64.add (fl8 i) (fl8 j)) = false := by
  have : ∀ i : Fin 9, ∀ j : Fin 9, j.1 < i.1 → Float64.isZero (Float64.add (fl8 i) (fl8 j)) = false := by decide +kernel
  intro i hi j hj
  exact this ⟨i, by omega⟩ ⟨j, by omega⟩ hj
theorem subNZ : ∀ i, i ≤ 8 → ∀ j, j < i → Float64.isZero (Float64.sub (fl8 i) (fl8 j)) = false := by
  have : ∀ i : Fin 9, ∀ j : Fin 9, j.1 < i.1 → Float64.isZero (Float64.sub (fl8 i) (fl8 j)) = false := by decide +kernel
  intro i hi j hj
  exact this ⟨i, by omega⟩ ⟨j, by omega⟩ hj
theorem twoNZ : ∀ i, i ≤ 8 → ∀ j, j < i → Float64.isZero (Float64.sub (Float64.sub 4611686018427387904 (fl8 i)) (fl8 j)) = false := by
  have : ∀ i : Fin 9, ∀ j : Fin 9, j.1 < i.1 → Float64.isZero (Float64.sub (Float64.sub 4611686018427387904 (fl8 i)) (fl8 j)) = false := by decide +kernel
  intro i hi j hj
  exact this ⟨i, by omega⟩ ⟨j, by omega⟩ hj
theorem lightIs : ∀ i, i ≤ 8 → ∀ j, j ≤ 8 → Float64.div (Float64.add (fl8 i) (fl8 j)) 4611686018427387904 = fl16 (i + j) := by
  have : ∀ i : Fin 9, ∀ j : Fin 9, Float64.div (Float64.add (fl8 i) (fl8 j)) 4611686018427387904 = fl16 (i + j) := by decide +kernel
  intro i hi j hj
  exact this ⟨i, by omega⟩ ⟨j, by omega⟩
end
end Mine
namespace Mine
theorem nzs {M N : Nat} (hM : M ≤ 8) (hN : N ≤ M) (h : (Float64.cmp (fl8 N) (fl8 M) == some Ordering.eq) = false) :
    Float64.isZero (Float64.add (fl8 M) (fl8 N)) = false ∧ Float64.isZero (Float64.sub (fl8 M) (fl8 N)) = false ∧ Float64.isZero (Float64.sub (Float64.sub 4611686018427387904 (fl8 M)) (fl8 N)) = false ∧ Float64.isZero (fl8 M) = false := by
  rw [fl8_eq N (by omega) M hM, decide_eq_false_iff_not] at h
  have : ∀ i : Fin 9, 0 < i.1 → Float64.isZero (fl8 i) = false := by decide +kernel
  exact ⟨sumNZ M hM N (by omega), subNZ M hM N (by omega), twoNZ M hM N (by omega), this ⟨M, by omega⟩ (by show 0 < M; omega)⟩
end Mine
namespace Mine
theorem nzM {M N : Nat} (h : (Float64.cmp (fl8 N) (fl8 M) == some Ordering.eq) = false) (hM : M ≤ 8) (hN : N ≤ M) : Float64.isZero (fl8 M) = false := (nzs hM hN h).2.2.2
end Mine

namespace Mine
def partF (a sp h c : Int) : Int :=
  if sp = 0 then a else
    let aw := (h - 2 * sp * c).fmod (6 * sp)
    let y := 2 * sp - (if 6 * sp - aw < aw then 6 * sp - aw else aw)
    let z := if y > 0 then y else 0
    a + (if z < sp then z else sp)
theorem clampB (y sp : Int) (hs : 0 ≤ sp) : 0 ≤ (if (if y > 0 then y else 0) < sp then (if y > 0 then y else 0) else sp) ∧ (if (if y > 0 then y else 0) < sp then (if y > 0 then y else 0) else sp) ≤ sp := by
  by_cases h : y > 0
  · simp only [h, if_true]
    by_cases h2 : y < sp
    · simp only [h2, if_true]; omega
    · simp only [h2, if_false]; omega
  · simp only [h, if_false]
    by_cases h2 : 0 < sp
    · simp only [h2, if_true]; omega
    · simp only [h2, if_false]; omega
theorem partB {a sp h c : Int} (ha : 0 ≤ a ∧ a ≤ 4) (hs : 0 ≤ sp ∧ sp ≤ 4) : 0 ≤ partF a sp h c ∧ partF a sp h c ≤ 8 := by
  unfold partF
  by_cases h0 : sp = 0
  · rw [if_pos h0]; omega
  · rw [if_neg h0]
    have := clampB (2 * sp - (if 6 * sp - (h - 2 * sp * c).fmod (6 * sp) < (h - 2 * sp * c).fmod (6 * sp) then 6 * sp - (h - 2 * sp * c).fmod (6 * sp) else (h - 2 * sp * c).fmod (6 * sp))) sp hs.1
    exact ⟨Int.add_nonneg ha.1 this.1, Int.le_trans (Int.add_le_add ha.2 (Int.le_trans this.2 hs.2)) (by decide)⟩
theorem partB8 {a sp h c : Int} (ha : 0 ≤ a ∧ a ≤ 4) (hs : 0 ≤ sp ∧ sp ≤ 4) : (partF a sp h c).toNat ≤ 8 := by
  have := partB (h := h) (c := c) ha hs
  omega
def partsOk (a sp h : Int) : Bool :=
  let i := partF a sp h 0
  let j := partF a sp h 1
  let k := partF a sp h 2
  decide (max (max i j) k = a + sp) && decide (min (min i j) k = a)
theorem partF_add (a sp h c : Int) : partF a sp h c = a + partF 0 sp h c := by
  unfold partF
  split
  · omega
  · simp only []; omega
theorem parts0 : ∀ sp : Fin 5, ∀ h : Fin 24, h.1 < max 1 (6 * sp.1) → partsOk 0 sp.1 h.1 = true := by decide +kernel
theorem max1 (a x y : Int) : max (a + x) (a + y) = a + max x y := by omega
theorem min1 (a x y : Int) : min (a + x) (a + y) = a + min x y := by omega
theorem maxA (a x y z : Int) : max (max (a + x) (a + y)) (a + z) = a + max (max x y) z := by
  rw [max1, max1]
theorem minA (a x y z : Int) : min (min (a + x) (a + y)) (a + z) = a + min (min x y) z := by
  rw [min1, min1]
theorem parts (a sp h : Int) (hs : 0 ≤ sp ∧ sp ≤ 4) (hh : 0 ≤ h ∧ h < max 1 (6 * sp)) :
    max (max (partF a sp h 0) (partF a sp h 1)) (partF a sp h 2) = a + sp ∧ min (min (partF a sp h 0) (partF a sp h 1)) (partF a sp h 2) = a := by
  have q := parts0 ⟨sp.toNat, by omega⟩ ⟨h.toNat, by omega⟩ (by show h.toNat < max 1 (6 * sp.toNat); omega)
  rw [show ((⟨sp.toNat, by omega⟩ : Fin 5).1 : Int) = sp from by show (sp.toNat : Int) = sp; omega, show ((⟨h.toNat, by omega⟩ : Fin 24).1 : Int) = h from by show (h.toNat : Int) = h; omega] at q
  simp only [partsOk, Bool.and_eq_true, decide_eq_true_eq] at q
  rw [partF_add a sp h 0, partF_add a sp h 1, partF_add a sp h 2, maxA, minA, q.1, q.2]
  exact ⟨by omega, by omega⟩
theorem tmax (x y : Int) : max x.toNat y.toNat = (max x y).toNat := by omega
theorem tmin (x y : Int) : min x.toNat y.toNat = (min x y).toNat := by omega
theorem toldV {a sp h : Int} (hs : 0 ≤ sp ∧ sp ≤ 4) (hh : 0 ≤ h ∧ h < max 1 (6 * sp)) :
    max (max (partF a sp h 0).toNat (partF a sp h 1).toNat) (partF a sp h 2).toNat = (a + sp).toNat := by
  rw [tmax, tmax, (parts a sp h hs hh).1]
theorem toldM {a sp h : Int} (hs : 0 ≤ sp ∧ sp ≤ 4) (hh : 0 ≤ h ∧ h < max 1 (6 * sp)) :
    min (min (partF a sp h 0).toNat (partF a sp h 1).toNat) (partF a sp h 2).toNat = a.toNat := by
  rw [tmin, tmin, (parts a sp h hs hh).2]
theorem toldL {a sp h c0 c1 c2 : Int} (ha : 0 ≤ a) (hs : 0 ≤ sp ∧ sp ≤ 4) (hh : 0 ≤ h ∧ h < max 1 (6 * sp)) (h0 : c0 = 0) (h1 : c1 = 1) (h2 : c2 = 2) :
    max (max (partF a sp h c0).toNat (partF a sp h c1).toNat) (partF a sp h c2).toNat + min (min (partF a sp h c0).toNat (partF a sp h c1).toNat) (partF a sp h c2).toNat = (2 * a + sp).toNat := by
  subst h0 h1 h2
  rw [toldV hs hh, toldM hs hh]; omega
theorem toldV' {a sp h c0 c1 c2 : Int} (hs : 0 ≤ sp ∧ sp ≤ 4) (hh : 0 ≤ h ∧ h < max 1 (6 * sp)) (h0 : c0 = 0) (h1 : c1 = 1) (h2 : c2 = 2) :
    max (max (partF a sp h c0).toNat (partF a sp h c1).toNat) (partF a sp h c2).toNat = (a + sp).toNat := by
  subst h0 h1 h2
  exact toldV hs hh
section
variable {prog : Program} {w : World} {A : Around} {E : Value → Shared → Prop} {s : Shared} {t u : Tok} {Q : Value → Shared → Prop}
theorem divI8 {x : Int} (hx : 0 ≤ x ∧ x ≤ 8) (h : Q (.float (fl8 x.toNat) s.toks) { s with toks := s.toks + 1 }) : wpAny (model prog w) A (binaryOp .Div (.int x t) (.int 8 u)) Q E s := by
  have e : Float64.ofFrac (decide (x < 0) != decide ((8 : Int) < 0)) x.natAbs (8 : Int).natAbs = fl8 x.toNat := by
    unfold fl8
    rw [show decide (x < 0) = false from decide_eq_false (by omega), show x.natAbs = x.toNat by omega]
    rfl
  have hi : ∀ i : Fin 9, ¬ Float64.isInf (fl8 i.1) = true := by decide +kernel
  refine AutoIntOps.truediv_2 (by decide) ?_ ?_
  · rw [e]; exact hi ⟨x.toNat, by omega⟩
  · rw [e]; exact h
end
end Mine

namespace Mine
theorem rngSize (a b : Int) : Builtin.Range.rangeSize a b 1 = ((b - a).toNat : Int) := by
  unfold Builtin.Range.rangeSize
  (repeat' split) <;> simp_all <;> omega
theorem rngSmall {a b : Int} (ha : -1000 ≤ a ∧ a ≤ 1000) (hb : -1000 ≤ b ∧ b ≤ 1000) : Builtin.Range.small a b 1 = true := by
  unfold Builtin.Range.small
  simp only [rngSize]
  simp only [Builtin.Range.rangeFitsLong, Bool.and_eq_true, decide_eq_true_eq, Bool.or_eq_true]
  have : ((b - a).toNat : Int) ≤ 3000 := by omega
  have : (0 : Int) ≤ ((b - a).toNat : Int) := by omega
  generalize ((b - a).toNat : Int) = k at *
  refine ⟨⟨⟨⟨⟨?_, ?_⟩, ?_, ?_⟩, ?_, ?_⟩, ?_, ?_⟩, ?_⟩ <;> first | omega | (simp only [gt_iff_lt, Int.zero_lt_one, if_true]; right; simp; omega) | skip
theorem kiSet : ∀ {l : List Value} {k : Nat} {v : Value}, k < l.length → ki_setL l k v = some (l.set k v)
  | _ :: _, 0, _, _ => rfl
  | _ :: r, k + 1, v, h => by
    unfold ki_setL
    rw [kiSet (Nat.lt_of_succ_lt_succ h)]
    rfl
section
variable {prog : Program} {w : World} {A : Around} {E : Value → Shared → Prop} {s : Shared} {h₀ : Heap} {L D : Addr} {m : Str → Option Value} {news news' : List (Addr × Obj)} {vs : List Value} {n : Nat} {k : Int} {t : Tok} {v : Value}
theorem setK {Q : Unit → Shared → Prop} (F : Fr h₀ L s.heap m) (N : News h₀ L s.heap news) (h0 : 0 ≤ k) (hk : k < vs.length) (hz : vs.length ≤ 1000) (U : Upd D (listOf vs.toArray n) (listOf (vs.set k.toNat v).toArray n) news news')
    (h : ∀ h', Fr h₀ L h' m → News h₀ L h' news' → Q () { s with heap := h' }) : wpAny (model prog w) A (setItem (.ref D) (.int k t) v) Q E s :=
  ki_set F N h0 (by omega) (kiSet (l := vs) (by omega)) U h
theorem getK {Q : Value → Shared → Prop} {l : Addr} {x : Value} (hl : s.heap.IsList l vs.toArray) (h0 : 0 ≤ k) (hz : k < 2 ^ 63) (hx : vs[k.toNat]? = some x) (h : Q x s) : wpAny (model prog w) A (getItem (.ref l) (.int k t)) Q E s :=
  wpAny_getItem_list hl h0 hz (by simpa using hx) h
theorem subK {Q : Value → Shared → Prop} {value slice : PySem.Expr} {l : Addr} {x : Value} (hl : s.heap.IsList l vs.toArray) (h0 : 0 ≤ k) (hz : k < 2 ^ 63) (hx : vs[k.toNat]? = some x) (h : Q x s)
    (hs : subscripted slice false (.ref l) (.int k t) = operate [.ref l, .int k t] (getItem (.ref l) (.int k t)) := by with_unfolding_all rfl) : wpAny (model prog w) A (subscriptTail value slice (.ref l) (.int k t)) Q E s :=
  tail_any hl.typeIs slot_list_getitem.lookup (getK hl h0 hz hx h) hs
end
theorem newsL {h₀ h : Heap} {L D : Addr} {news : List (Addr × Obj)} {vs : Array Value} {n : Nat} (N : News h₀ L h news) (hm : (D, listOf vs n) ∈ news) : h.IsList D vs := ⟨_, (N _ hm).1, rfl, n, rfl⟩
theorem intsAt {vs : List Value} {ns : List Int} (h : IntsAre vs ns) {k : Int} (h0 : 0 ≤ k) (hk : k < ns.length) : ∃ x t, ns[k.toNat]? = some x ∧ vs[k.toNat]? = some (.int x t) := by
  have hlt : k.toNat < ns.length := by omega
  obtain ⟨t, ht⟩ := h.get k.toNat ns[k.toNat] (by simp [hlt])
  exact ⟨_, t, by simp [hlt], ht⟩
theorem intsSet : ∀ {vs : List Value} {ns : List Int} (k : Nat) (x : Int) (t : Tok), IntsAre vs ns → IntsAre (vs.set k (.int x t)) (ns.set k x)
  | _, _, _, _, _, .nil => .nil
  | _, _, 0, x, t, .cons _ _ r => .cons x t r
  | _, _, k + 1, x, t, .cons n u r => .cons n u (intsSet k x t r)
end Mine
namespace Mine
theorem fm7 (x : Int) : 0 ≤ x.fmod 7 ∧ x.fmod 7 < 7 := ⟨Int.fmod_nonneg_of_pos x (by decide), Int.fmod_lt_of_pos x (by decide)⟩
theorem kOff {x : Str} {v : Option Value} {ps : List (Str × Value)} {stored : List Str} {u m₀ : Str → Option Value} {z : Str} (hx : z ≠ x) (hp : ∀ p ∈ ps, z ≠ p.1) (hc : stored.contains z = false) :
    (if z = x then v else kstB (fun z => if stored.contains z then u z else m₀ z) ps z) = m₀ z := by
  rw [if_neg hx]
  induction ps with
  | nil => show (if stored.contains z = true then u z else m₀ z) = m₀ z; rw [hc]; rfl
  | cons p r ih =>
    show (if z = p.1 then some p.2 else kstB _ r z) = _
    rw [if_neg (hp p (.head _))]
    exact ih fun q hq => hp q (.tail _ hq)
end Mine

namespace Mine
def bl (p : Int) : Str := Txt.mul (Str.ofString " ") p ++ Str.ofString "\t"
theorem bl_ok {p q : Int} (hp : 0 ≤ p ∧ p ≤ 2) (hq : 0 ≤ q ∧ q ≤ 2) : JoinOk (Str.ofString "") [bl p, bl q] = true := by
  have : ∀ p : Fin 3, ∀ q : Fin 3, JoinOk (Str.ofString "") [bl p.1, bl q.1] = true := by decide +kernel
  have q1 := this ⟨p.toNat, by omega⟩ ⟨q.toNat, by omega⟩
  rwa [show ((⟨p.toNat, by omega⟩ : Fin 3).1 : Int) = p from by show (p.toNat : Int) = p; omega, show ((⟨q.toNat, by omega⟩ : Fin 3).1 : Int) = q from by show (q.toNat : Int) = q; omega] at q1
end Mine
namespace Mine
theorem colourB1 (d : Int) : 0 ≤ d.fmod 5 ∧ d.fmod 5 ≤ 4 := ⟨Int.fmod_nonneg_of_pos d (by decide), Int.le_of_lt_add_one (Int.fmod_lt_of_pos d (by decide))⟩
theorem colourB2 (d x : Int) : 0 ≤ d.fmod (if x > 1 then x else 1) ∧ d.fmod (if x > 1 then x else 1) < max 1 x := by
  have h : (if x > 1 then x else 1) = max 1 x := by split <;> omega
  rw [h]
  exact ⟨Int.fmod_nonneg_of_pos d (by omega), Int.fmod_lt_of_pos d (by omega)⟩
/-- a table of bools -/
def boolRow (B : Nat → Nat → Bool) (i n : Nat) : List Value := (List.range n).map fun j => .bool (B i j)
theorem boolRow_at {B : Nat → Nat → Bool} {i j n : Nat} (h : j < n) : (boolRow B i n)[j]? = some (.bool (B i j)) := by
  unfold boolRow
  rw [List.getElem?_map, List.getElem?_range h]; rfl
def Mat (h : Heap) (l : Addr) (B : Nat → Nat → Bool) : Prop :=
  ∃ rs : List Value, h.IsList l rs.toArray ∧ rs.length = 6 ∧ ∀ i, i < 6 → ∃ a, rs[i]? = some (.ref a) ∧ h.IsList a (boolRow B i 6).toArray
end Mine
namespace Mine
theorem fin5 (P : Int → Int → Prop) (h : ∀ a : Fin 5, ∀ b : Fin 5, P (a.1 : Int) (b.1 : Int)) {a b : Int} (ha : 0 ≤ a ∧ a ≤ 4) (hb : 0 ≤ b ∧ b ≤ 4) : P a b := by
  have q := h ⟨a.toNat, by omega⟩ ⟨b.toNat, by omega⟩
  rwa [show ((⟨a.toNat, by omega⟩ : Fin 5).1 : Int) = a from by show (a.toNat : Int) = a; omega, show ((⟨b.toNat, by omega⟩ : Fin 5).1 : Int) = b from by show (b.toNat : Int) = b; omega] at q
def tx1 (a sp : Int) : UInt64 := Float64.sub (Float64.mul (Float64.ofInt 16) (fl16 (2 * a + sp).toNat)) (Float64.mul (Float64.ofInt 8) (fl8 (a + sp).toNat))
def tx2 (a sp : Int) : UInt64 := Float64.sub (Float64.mul (Float64.ofInt 16) (fl8 (a + sp).toNat)) (Float64.mul (Float64.ofInt 16) (fl16 (2 * a + sp).toNat))
def txOk (x : UInt64) (k : Int) : Bool := !Float64.isNaN x && !Float64.isInf x && decide (Flt.toInt Float64.truncOf x = k)
theorem tx1_ok {a sp : Int} (ha : 0 ≤ a ∧ a ≤ 4) (hs : 0 ≤ sp ∧ sp ≤ 4) : txOk (tx1 a sp) a = true :=
  fin5 (fun a sp => txOk (tx1 a sp) a = true) (by decide +kernel) ha hs
theorem tx2_ok {a sp : Int} (ha : 0 ≤ a ∧ a ≤ 4) (hs : 0 ≤ sp ∧ sp ≤ 4) : txOk (tx2 a sp) sp = true :=
  fin5 (fun a sp => txOk (tx2 a sp) sp = true) (by decide +kernel) ha hs
section
variable {prog : Program} {w : World} {A : Around} {E : Value → Shared → Prop} {s : Shared} {t : Tok} {Q : Value → Shared → Prop}
theorem intF {x : UInt64} {k : Int} (hA : A.handled = none) (ok : txOk x k = true) (h : Q (.int k s.toks) { s with toks := s.toks + 1 }) : wpAny (model prog w) A (call (.type "int") [.float x t]) Q E s := by
  simp only [txOk, Bool.and_eq_true, Bool.not_eq_true', decide_eq_true_eq] at ok
  refine Flt.call_int_float3 hA (fun q => ?_) (fun q => ?_) fun _ => ?_
  · rw [ok.1.1] at q; cases q
  · rw [ok.1.2] at q; cases q
  · rw [ok.2]; exact h
end
/-- the lead's signs -/
def leadStr (p q a sp : Int) : Str := Txt.join (Str.ofString "") [bl p, bl q] ++ Txt.mul (Str.ofString "\t") a ++ Txt.mul (Str.ofString " ") sp ++ Str.ofString "x\t"
end Mine

namespace Mine
def st1 (p q a : Int) : Str := Txt.join (Str.ofString "") [bl p, bl q] ++ Txt.mul (Str.ofString "\t") a
def st2 (p q a sp : Int) : Str := st1 p q a ++ Txt.mul (Str.ofString " ") sp
/-- what the lead's signs are, as numbers -/
def leadCps (p q a sp : Nat) : List Nat := List.replicate p 32 ++ [9] ++ List.replicate q 32 ++ [9] ++ List.replicate a 9 ++ List.replicate sp 32 ++ [120, 9]
def stOk (p q a sp : Nat) : Bool := decide ((st1 p q a).length ≤ 100) && decide ((st2 p q a sp).length ≤ 100) && decide ((leadStr p q a sp).length ≤ 100) && decide ((leadStr p q a sp).cps.toList = leadCps p q a sp)
theorem st_all : ∀ p : Fin 3, ∀ q : Fin 3, ∀ a : Fin 5, ∀ sp : Fin 5, stOk p.1 q.1 a.1 sp.1 = true := by decide +kernel
theorem st_ok {p q a sp : Int} (hp : 0 ≤ p ∧ p ≤ 2) (hq : 0 ≤ q ∧ q ≤ 2) (ha : 0 ≤ a ∧ a ≤ 4) (hs : 0 ≤ sp ∧ sp ≤ 4) :
    (st1 p q a).length ≤ 100 ∧ (st2 p q a sp).length ≤ 100 ∧ (leadStr p q a sp).length ≤ 100 ∧ (leadStr p q a sp).cps.toList = leadCps p.toNat q.toNat a.toNat sp.toNat := by
  have h := st_all ⟨p.toNat, by omega⟩ ⟨q.toNat, by omega⟩ ⟨a.toNat, by omega⟩ ⟨sp.toNat, by omega⟩
  simp only [stOk, Bool.and_eq_true, decide_eq_true_eq] at h
  rw [show (p.toNat : Int) = p by omega, show (q.toNat : Int) = q by omega, show (a.toNat : Int) = a by omega, show (sp.toNat : Int) = sp by omega] at h
  exact ⟨h.1.1.1, h.1.1.2, h.1.2, h.2⟩
end Mine
namespace Mine
theorem catFit {x y z : Str} (h : z.length ≤ 100) (e : x ++ y = z) : x.length + y.length ≤ sizeLine := by
  rw [← Str.length_append, e]
  exact Nat.le_trans h (by rw [sizeLine_eq]; decide)
end Mine
namespace Mine
theorem getDs {ns : List Int} {j : Nat} (h : j < ns.length) : ns[j]? = some (ns.getD j 0) := by
  rw [List.getD_eq_getElem?_getD, List.getElem?_eq_getElem h]; rfl
theorem getDm {ns : List Int} {j : Nat} (h : j < ns.length) : ns.getD j 0 ∈ ns := List.mem_of_getElem? (getDs h)
section
variable {prog : Program} {w : World} {A : Around} {E : Value → Shared → Prop} {s : Shared} {k : Int} {t : Tok} {Q : Value → Shared → Prop} {value slice : PySem.Expr} {l : Addr} {B : Nat → Nat → Bool} {i : Nat}
theorem cellK (hl : s.heap.IsList l (boolRow B i 6).toArray) (hk : 0 ≤ k ∧ k < 6) (h : Q (.bool (B i k.toNat)) s)
    (hs : subscripted slice false (.ref l) (.int k t) = operate [.ref l, .int k t] (getItem (.ref l) (.int k t)) := by with_unfolding_all rfl) : wpAny (model prog w) A (subscriptTail value slice (.ref l) (.int k t)) Q E s :=
  subK hl hk.1 (by omega) (boolRow_at (by omega)) h hs
theorem rowK {rs : List Value} (hl : s.heap.IsList l rs.toArray) (hrow : ∀ i, i < 6 → ∃ a, rs[i]? = some (.ref a) ∧ s.heap.IsList a (boolRow B i 6).toArray) (hk : 0 ≤ k ∧ k < 6) (h : ∀ a, s.heap.IsList a (boolRow B k.toNat 6).toArray → Q (.ref a) s)
    (hs : subscripted slice false (.ref l) (.int k t) = operate [.ref l, .int k t] (getItem (.ref l) (.int k t)) := by with_unfolding_all rfl) : wpAny (model prog w) A (subscriptTail value slice (.ref l) (.int k t)) Q E s := by
  obtain ⟨a, h1, h2⟩ := hrow k.toNat (by omega)
  exact subK hl hk.1 (by omega) h1 (h a h2) hs
end
theorem matKeep {h h' : Heap} {rs : List Value} {B : Nat → Nat → Bool} (k : ∀ b o, h.get? b = some o → h'.get? b = some o) (hrow : ∀ i, i < 6 → ∃ a, rs[i]? = some (.ref a) ∧ h.IsList a (boolRow B i 6).toArray) :
    ∀ i, i < 6 → ∃ a, rs[i]? = some (.ref a) ∧ h'.IsList a (boolRow B i 6).toArray := fun i hi => let ⟨a, h1, h2⟩ := hrow i hi; ⟨a, h1, (let ⟨o, ho, r⟩ := h2; ⟨o, k a o ho, r⟩)⟩
end Mine

namespace Mine
/-- where a bisection stands: left of lo q holds, from hi on it does not -/
structure BInv (q : Nat → Bool) (n : Nat) (lo hi : Int) : Prop where
  a : 0 ≤ lo
  b : lo ≤ hi
  c : hi ≤ n
  l : ∀ i : Nat, (i : Int) < lo → q i = true
  r : ∀ i : Nat, hi ≤ (i : Int) → i < n → q i = false
theorem BInv.start (q : Nat → Bool) (n : Nat) : BInv q n 0 n := ⟨Int.le_refl 0, Int.natCast_nonneg _, Int.le_refl _, fun i h => by omega, fun i h h2 => by omega⟩
theorem mid2 {lo hi : Int} (ha : 0 ≤ lo) (h : lo < hi) : lo ≤ (lo + hi).fdiv 2 ∧ (lo + hi).fdiv 2 < hi := by
  rw [Int.fdiv_eq_ediv_of_nonneg _ (by decide)]
  omega
def QMono (q : Nat → Bool) (n : Nat) : Prop := ∀ i j : Nat, i ≤ j → j < n → q j = true → q i = true
theorem BInv.goL {q : Nat → Bool} {n : Nat} {lo hi : Int} (I : BInv q n lo hi) (mono : QMono q n) (h : lo < hi) (hq : q ((lo + hi).fdiv 2).toNat = true) :
    BInv q n ((lo + hi).fdiv 2 + 1) hi ∧ (hi - ((lo + hi).fdiv 2 + 1)).toNat < (hi - lo).toNat := by
  have hm := mid2 I.a h
  have hc := I.c
  have ha := I.a
  generalize (lo + hi).fdiv 2 = m at *
  refine ⟨⟨by omega, by omega, hc, fun i hi' => ?_, I.r⟩, by omega⟩
  exact mono i m.toNat (by omega) (by omega) hq
theorem BInv.goR {q : Nat → Bool} {n : Nat} {lo hi : Int} (I : BInv q n lo hi) (mono : QMono q n) (h : lo < hi) (hq : q ((lo + hi).fdiv 2).toNat = false) :
    BInv q n lo ((lo + hi).fdiv 2) ∧ ((lo + hi).fdiv 2 - lo).toNat < (hi - lo).toNat := by
  have hm := mid2 I.a h
  have hc := I.c
  have ha := I.a
  generalize (lo + hi).fdiv 2 = m at *
  refine ⟨⟨ha, by omega, by omega, I.l, fun i hi' hn => ?_⟩, by omega⟩
  cases hqi : q i with
  | false => rfl
  | true =>
    have := mono m.toNat i (by omega) hn hqi
    rw [hq] at this; cases this
/-- what a bisection gives -/
def BOut (q : Nat → Bool) (n : Nat) (r : Value) : Prop := ∃ k u, r = .int k u ∧ BInv q n k k
theorem BInv.out {q : Nat → Bool} {n : Nat} {lo hi : Int} {t : Tok} (I : BInv q n lo hi) (h : ¬ lo < hi) : BOut q n (.int lo t) := by
  have : hi = lo := by have := I.b; omega
  subst this
  exact ⟨_, t, rfl, I⟩
end Mine
namespace Mine
theorem kOffB {ps : List (Str × Value)} {stored : List Str} {u m₀ : Str → Option Value} {z : Str} (hp : ∀ p ∈ ps, z ≠ p.1) (hc : stored.contains z = false) :
    kstB (fun z => if stored.contains z then u z else m₀ z) ps z = m₀ z := by
  induction ps with
  | nil => show (if stored.contains z = true then u z else m₀ z) = m₀ z; rw [hc]; rfl
  | cons p r ih =>
    show (if z = p.1 then some p.2 else kstB _ r z) = _
    rw [if_neg (hp p (.head _))]
    exact ih fun q hq => hp q (.tail _ hq)
theorem nIn {stored : List Str} {z y : Str} (hc : stored.contains z = false) (hy : y ∈ stored) : z ≠ y := by
  rintro rfl
  rw [List.contains_iff_mem.mpr hy] at hc
  cases hc
theorem ifN {z y : Str} {v w r : Option Value} (h : z ≠ y) (e : w = r) : (if z = y then v else w) = r := by rw [if_neg h, e]
end Mine

namespace Mine
theorem getD_get {ns : List Int} {j : Nat} (h : j < ns.length) : ns.getD j 0 = ns[j] := by
  rw [List.getD_eq_getElem?_getD, List.getElem?_eq_getElem h]; rfl
/-- put in at p -/
def insF (ns : List Int) (p : Nat) (x : Int) : List Int := ns.take p ++ x :: ns.drop p
theorem insF_perm (ns : List Int) (p : Nat) (x : Int) : (insF ns p x).Perm (x :: ns) := by
  unfold insF
  refine List.perm_middle.trans ?_
  rw [List.take_append_drop]
theorem insF_pair {R : Int → Int → Prop} {ns : List Int} {p : Nat} {x : Int} (h : ns.Pairwise R) (h1 : ∀ j, j < p → j < ns.length → R (ns.getD j 0) x) (h2 : ∀ j, p ≤ j → j < ns.length → R x (ns.getD j 0)) : (insF ns p x).Pairwise R := by
  unfold insF
  rw [List.pairwise_append]
  have hd : ∀ y ∈ ns.drop p, R x y := fun y hy => by
    obtain ⟨j, hj, rfl⟩ := List.mem_iff_getElem.mp hy
    rw [List.getElem_drop]
    have hl : p + j < ns.length := by rw [List.length_drop] at hj; omega
    have := h2 (p + j) (Nat.le_add_right _ _) hl
    rwa [getD_get hl] at this
  have ht : ∀ y ∈ ns.take p, R y x := fun y hy => by
    obtain ⟨j, hj, rfl⟩ := List.mem_iff_getElem.mp hy
    rw [List.getElem_take]
    have hl : j < ns.length := by rw [List.length_take] at hj; omega
    have hp : j < p := by rw [List.length_take] at hj; omega
    have := h1 j hp hl
    rwa [getD_get hl] at this
  refine ⟨h.sublist (List.take_sublist _ _), List.pairwise_cons.mpr ⟨hd, h.sublist (List.drop_sublist _ _)⟩, fun a ha b hb => ?_⟩
  rcases List.mem_cons.mp hb with rfl | hb
  · exact ht a ha
  · have : (ns.take p ++ ns.drop p).Pairwise R := by rw [List.take_append_drop]; exact h
    exact (List.pairwise_append.mp this).2.2 a ha b hb
abbrev RisR (l : Nat → Nat) (x y : Int) : Prop := l x.toNat < l y.toNat ∨ (l x.toNat = l y.toNat ∧ y < x)
structure Ris (l : Nat → Nat) (i : Nat) (ns : List Int) : Prop where
  len : ns.length = i
  mem : ∀ y ∈ ns, 0 ≤ y ∧ y < (i : Int)
  ord : ns.Pairwise (RisR l)
  perm : ns.Perm ((List.range i).map fun (j : Nat) => (j : Int))
theorem Ris.nil (l : Nat → Nat) : Ris l 0 [] := ⟨rfl, fun _ h => (List.not_mem_nil h).elim, .nil, .nil⟩
theorem pairAt {R : Int → Int → Prop} {ns : List Int} (h : ns.Pairwise R) {i j : Nat} (hij : i < j) (hj : j < ns.length) : R (ns.getD i 0) (ns.getD j 0) := by
  rw [getD_get hj, getD_get (Nat.lt_trans hij hj)]
  exact (List.pairwise_iff_getElem.mp h) i j _ _ hij
theorem Ris.mono {l : Nat → Nat} {i x : Nat} {ns : List Int} (h : Ris l i ns) : QMono (fun j => decide (l (ns.getD j 0).toNat < x)) ns.length := by
  intro a b hab hb hq
  have hq := of_decide_eq_true hq
  refine decide_eq_true ?_
  rcases Nat.lt_or_eq_of_le hab with hlt | rfl
  · rcases pairAt h.ord hlt hb with h1 | h1 <;> omega
  · exact hq
theorem Ris.ins {l : Nat → Nat} {i : Nat} {ns : List Int} {p : Int} (h : Ris l i ns) (I : BInv (fun j => decide (l (ns.getD j 0).toNat < l i)) ns.length p p) : Ris l (i + 1) (insF ns p.toNat (i : Int)) := by
  have hp := I.a
  have P := insF_perm ns p.toNat (i : Int)
  refine ⟨?_, fun y hy => ?_, insF_pair h.ord (fun j hj hl => ?_) fun j hj hl => ?_, ?_⟩
  rotate_left 4
  · rw [List.range_succ, List.map_append]
    exact (P.trans (h.perm.cons _)).trans (List.perm_append_singleton _ _).symm
  · rw [P.length_eq, List.length_cons, h.len]
  · rcases List.mem_cons.mp (P.mem_iff.mp hy) with rfl | hy
    · omega
    · have := h.mem y hy; omega
  · have := of_decide_eq_true (I.l j (by omega))
    exact .inl (by show _ < l ((i : Int)).toNat; rw [Int.toNat_natCast]; exact this)
  · have := of_decide_eq_false (I.r j (by omega) hl)
    have hm := h.mem (ns.getD j 0) (by rw [getD_get hl]; exact List.getElem_mem _)
    show l ((i : Int)).toNat < _ ∨ (l ((i : Int)).toNat = _ ∧ _ < _)
    rw [Int.toNat_natCast]
    omega
abbrev RevR (l : Nat → Nat) (x y : Int) : Prop := l y.toNat < l x.toNat ∨ (l y.toNat = l x.toNat ∧ x < y)
theorem Ris.rev {l : Nat → Nat} {i : Nat} {ns : List Int} (h : Ris l i ns) : ns.reverse.Pairwise (RevR l) := List.pairwise_reverse.mpr (h.ord.imp fun q => q)
abbrev RowR (l v : Nat → Nat) (x y : Int) : Prop := v x.toNat < v y.toNat ∨ (v x.toNat = v y.toNat ∧ RevR l x y)
structure Rw (l v : Nat → Nat) (pre ns : List Int) : Prop where
  perm : ns.Perm pre
  ord : ns.Pairwise (RowR l v)
theorem Rw.nil (l v : Nat → Nat) : Rw l v [] [] := ⟨.refl _, .nil⟩
theorem Rw.mono {l v : Nat → Nat} {x : Nat} {pre ns : List Int} (h : Rw l v pre ns) : QMono (fun j => !decide (x < v (ns.getD j 0).toNat)) ns.length := by
  intro a b hab hb hq
  simp only [Bool.not_eq_true', decide_eq_false_iff_not] at hq ⊢
  rcases Nat.lt_or_eq_of_le hab with hlt | rfl
  · rcases pairAt h.ord hlt hb with h1 | h1 <;> omega
  · exact hq
theorem Rw.ins {l v : Nat → Nat} {pre ns : List Int} {x p : Int} (h : Rw l v pre ns) (hx : ∀ y ∈ pre, RevR l y x) (I : BInv (fun j => !decide (v x.toNat < v (ns.getD j 0).toNat)) ns.length p p) : Rw l v (pre ++ [x]) (insF ns p.toNat x) := by
  have hp := I.a
  refine ⟨((insF_perm ns p.toNat x).trans (h.perm.cons x)).trans (List.perm_append_singleton x pre).symm, insF_pair h.ord (fun j hj hl => ?_) fun j hj hl => ?_⟩
  · have := I.l j (by omega)
    simp only [Bool.not_eq_true', decide_eq_false_iff_not] at this
    have hr := hx (ns.getD j 0) (h.perm.mem_iff.mp (by rw [getD_get hl]; exact List.getElem_mem _))
    rcases Nat.lt_or_eq_of_le (Nat.le_of_not_lt this) with q | q
    · exact .inl q
    · exact .inr ⟨q, hr⟩
  · have := I.r j (by omega) hl
    simp only [Bool.not_eq_false', decide_eq_true_eq] at this
    exact .inl this
theorem pairTake {R : Int → Int → Prop} {full : List Int} {i : Nat} {x : Int} (h : full.Pairwise R) (hx : full[i]? = some x) : ∀ y ∈ full.take i, R y x := fun y hy => by
  obtain ⟨hi, rfl⟩ := List.getElem?_eq_some_iff.mp hx
  obtain ⟨j, hj, rfl⟩ := List.mem_iff_getElem.mp hy
  rw [List.length_take] at hj
  rw [List.getElem_take]
  exact (List.pairwise_iff_getElem.mp h) j i _ _ (by omega)
theorem takeOne {full : List Int} {i : Nat} {x : Int} (hx : full[i]? = some x) : full.take (i + 1) = full.take i ++ [x] := by
  rw [List.take_add_one, hx]; rfl
end Mine

namespace Mine
/-! piles: what patience sorting keeps true -/
/-- what may lie behind what: < (strict) or ≤ -/
def relB (b : Bool) (x y : Int) : Bool := if b then decide (x < y) else decide (x ≤ y)
abbrev rel (b : Bool) (x y : Int) : Prop := relB b x y = true
theorem rel_trans {b : Bool} {x y z : Int} (h : rel b x y) (k : rel b y z) : rel b x z := by
  unfold rel relB at *; cases b <;> simp only [if_true, Bool.false_eq_true, if_false, decide_eq_true_eq] at * <;> omega
theorem rel_up {b : Bool} {a x c : Int} (h : ¬ rel b a x) (k : rel b a c) : rel b x c := by
  unfold rel relB at *; cases b <;> simp only [if_true, Bool.false_eq_true, if_false, decide_eq_true_eq] at * <;> omega
theorem rel_dn {b : Bool} {x a z : Int} (h : ¬ rel b x a) (k : ¬ rel b a z) : ¬ rel b x z := by
  unfold rel relB at *; cases b <;> simp only [if_true, Bool.false_eq_true, if_false, decide_eq_true_eq] at * <;> omega
def topF (mk : Int → Int) (P : Nat → List Int) (i : Nat) : Int := mk ((P i).getLastD 0)
structure PInv (R : Int → Int → Prop) (b : Bool) (mk : Int → Int) (pre : List Int) (n : Nat) (P : Nat → List Int) (ah : Int → Int) : Prop where
  a1 : ∀ i, i < n → P i ≠ []
  a2 : ∀ i, n ≤ i → P i = []
  s : ∀ i j, i < j → j < n → rel b (topF mk P i) (topF mk P j)
  c : ∀ i, (P i).Pairwise fun x y => R x y ∧ ¬ rel b (mk x) (mk y)
  d1 : ∀ i x, x ∈ P i → x ∈ pre
  d2 : ∀ x ∈ pre, ∃ i, x ∈ P i
  e : ∀ i x, x ∈ P (i + 1) → ah x ∈ P i ∧ R (ah x) x ∧ rel b (mk (ah x)) (mk x)
  f : ∀ i i' x y, x ∈ P i → y ∈ P i' → R x y → rel b (mk x) (mk y) → i < i'
theorem PInv.nil (R : Int → Int → Prop) (b : Bool) (mk ah : Int → Int) : PInv R b mk [] 0 (fun _ => []) ah :=
  ⟨fun _ h => absurd h (Nat.not_lt_zero _), fun _ _ => rfl, fun _ _ _ h => absurd h (Nat.not_lt_zero _), fun _ => .nil, fun _ _ h => h, fun _ h => (List.not_mem_nil h).elim, fun _ _ h => (List.not_mem_nil h).elim, fun _ _ _ _ h => (List.not_mem_nil h).elim⟩
theorem lastD_mem {l : List Int} (h : l ≠ []) : l.getLastD 0 ∈ l := by
  rw [List.getLastD_eq_getLast?, List.getLast?_eq_some_getLast h]
  exact List.getLast_mem h
theorem lastD_snoc (l : List Int) (k : Int) : (l ++ [k]).getLastD 0 = k := by
  rw [List.getLastD_eq_getLast?, List.getLast?_concat]; rfl
def putP (P : Nat → List Int) (p : Nat) (k : Int) (i : Nat) : List Int := if i = p then P p ++ [k] else P i
def putA (P : Nat → List Int) (ah : Int → Int) (p : Nat) (k : Int) (x : Int) : Int := if 0 < p ∧ x = k then (P (p - 1)).getLastD 0 else ah x
def qF (b : Bool) (mk : Int → Int) (P : Nat → List Int) (z : Int) (i : Nat) : Bool := relB b (topF mk P i) z
section
variable {R : Int → Int → Prop} {b : Bool} {mk ah : Int → Int} {pre : List Int} {n : Nat} {P : Nat → List Int}
theorem PInv.mono (h : PInv R b mk pre n P ah) (z : Int) : QMono (qF b mk P z) n := by
  intro i j hij hj hq
  rcases Nat.lt_or_eq_of_le hij with hlt | rfl
  · exact rel_trans (h.s i j hlt hj) hq
  · exact hq
theorem PInv.top (h : PInv R b mk pre n P ah) {i : Nat} {x z : Int} (hx : x ∈ P i) (hz : ¬ rel b (topF mk P i) z) : ¬ rel b (mk x) z := by
  have hne : P i ≠ [] := fun e => by rw [e] at hx; exact List.not_mem_nil hx
  obtain ⟨l, t, hlt⟩ : ∃ l t, P i = l ++ [t] := ⟨(P i).dropLast, (P i).getLast hne, (List.dropLast_concat_getLast hne).symm⟩
  have ht : topF mk P i = mk t := by unfold topF; rw [hlt, lastD_snoc]
  rw [ht] at hz
  have hp := h.c i
  rw [hlt] at hx hp
  rcases List.mem_append.mp hx with q | q
  · have := (List.pairwise_append.mp hp).2.2 x q t (.head _)
    exact rel_dn this.2 hz
  · rw [List.mem_singleton.mp q]; exact hz
theorem PInv.step (h : PInv R b mk pre n P ah) {k : Int} {p : Nat} (asym : ∀ x y, R x y → ¬ R y x) (hk : ∀ x ∈ pre, R x k) (I : BInv (qF b mk P (mk k)) n p p) :
    PInv R b mk (pre ++ [k]) (if p = n then n + 1 else n) (putP P p k) (putA P ah p k) := by
  have hpn : p ≤ n := by have := I.c; omega
  have lo : ∀ i, i < p → rel b (topF mk P i) (mk k) := fun i hi => I.l i (by omega)
  have hi' : ∀ i, p ≤ i → i < n → ¬ rel b (topF mk P i) (mk k) := fun i h1 h2 q => Bool.false_ne_true ((I.r i (by omega) h2).symm.trans q)
  have kp : k ∉ pre := fun hm => asym _ _ (hk k hm) (hk k hm)
  have nk : ∀ i x, x ∈ P i → x ≠ k := fun i x hx e => kp (e ▸ h.d1 i x hx)
  have topN : ∀ i, i ≠ p → topF mk (putP P p k) i = topF mk P i := fun i hne => by unfold topF putP; rw [if_neg hne]
  have topP : topF mk (putP P p k) p = mk k := by unfold topF putP; rw [if_pos rfl, lastD_snoc]
  have mem : ∀ i x, x ∈ putP P p k i ↔ x ∈ P i ∨ (i = p ∧ x = k) := fun i x => by
    unfold putP
    by_cases hip : i = p
    · subst hip
      rw [if_pos rfl, List.mem_append, List.mem_singleton]
      exact ⟨fun q => q.imp id fun q => ⟨rfl, q⟩, fun q => q.imp id fun q => q.2⟩
    · rw [if_neg hip]
      exact ⟨.inl, fun q => q.elim id fun q => absurd q.1 hip⟩
  refine ⟨fun i hi => ?_, fun i hi => ?_, fun i j hij hj => ?_, fun i => ?_, fun i x hx => ?_, fun x hx => ?_, fun i x hx => ?_, fun i i' x y hx hy hR hr => ?_⟩
  · by_cases hip : i = p
    · subst hip; unfold putP; rw [if_pos rfl]; exact List.append_ne_nil_of_right_ne_nil _ (List.cons_ne_nil _ _)
    · unfold putP; rw [if_neg hip]; exact h.a1 i (by split at hi <;> omega)
  · have hip : i ≠ p := by split at hi <;> omega
    unfold putP; rw [if_neg hip]; exact h.a2 i (by split at hi <;> omega)
  · by_cases hip : i = p
    · subst hip
      rw [topP, topN j (by omega)]
      have hjn : j < n := by split at hj <;> omega
      exact rel_up (hi' i (Nat.le_refl _) (by omega)) (h.s i j hij hjn)
    · rw [topN i hip]
      by_cases hjp : j = p
      · subst hjp; rw [topP]; exact lo i hij
      · rw [topN j hjp]; exact h.s i j hij (by split at hj <;> omega)
  · unfold putP
    by_cases hip : i = p
    · subst hip
      rw [if_pos rfl, List.pairwise_append]
      refine ⟨h.c i, List.pairwise_singleton _ _, fun x hx y hy => ?_⟩
      rw [List.mem_singleton.mp hy]
      have hin : i < n := by
        rcases Nat.lt_or_ge i n with q | q
        · exact q
        · rw [h.a2 i q] at hx; exact (List.not_mem_nil hx).elim
      exact ⟨hk x (h.d1 i x hx), h.top hx (hi' i (Nat.le_refl _) hin)⟩
    · rw [if_neg hip]; exact h.c i
  · rcases (mem i x).mp hx with q | q
    · exact List.mem_append_left _ (h.d1 i x q)
    · rw [q.2]; exact List.mem_append_right _ (.head _)
  · rcases List.mem_append.mp hx with q | q
    · obtain ⟨i, hi⟩ := h.d2 x q
      exact ⟨i, (mem i x).mpr (.inl hi)⟩
    · exact ⟨p, (mem p x).mpr (.inr ⟨rfl, List.mem_singleton.mp q⟩)⟩
  · rcases (mem (i + 1) x).mp hx with q | ⟨q1, q2⟩
    · have := h.e i x q
      have e : putA P ah p k x = ah x := by unfold putA; rw [if_neg fun z => nk _ x q z.2]
      rw [e]
      exact ⟨(mem i _).mpr (.inl this.1), this.2⟩
    · subst q2
      have e : putA P ah p x x = (P i).getLastD 0 := by unfold putA; rw [if_pos ⟨by omega, rfl⟩, show p - 1 = i by omega]
      rw [e]
      have hm := lastD_mem (h.a1 i (by omega))
      exact ⟨(mem i _).mpr (.inl hm), hk _ (h.d1 i _ hm), lo i (by omega)⟩
  · rcases (mem i x).mp hx with q | ⟨_, rfl⟩
    · rcases (mem i' y).mp hy with q' | ⟨rfl, rfl⟩
      · exact h.f i i' x y q q' hR hr
      · rcases Nat.lt_or_ge i i' with z | z
        · exact z
        · have hin : i < n := by
            rcases Nat.lt_or_ge i n with w | w
            · exact w
            · rw [h.a2 i w] at q; exact (List.not_mem_nil q).elim
          exact absurd hr (h.top q (hi' i z hin))
    · rcases (mem i' y).mp hy with q' | ⟨rfl, rfl⟩
      · exact absurd hR (asym _ _ (hk y (h.d1 i' y q')))
      · exact absurd hR (asym _ _ hR)
/-- the way back from the last pile -/
structure WInv (R : Int → Int → Prop) (b : Bool) (mk : Int → Int) (P : Nat → List Int) (i : Nat) (h : Int) (r : List Int) : Prop where
  m : h ∈ P i
  p : (h :: r).Pairwise fun x y => R x y ∧ rel b (mk x) (mk y)
  q : ∀ x ∈ h :: r, ∃ j, x ∈ P j
theorem WInv.step (h : PInv R b mk pre n P ah) (tr : ∀ x y z, R x y → R y z → R x z) {i : Nat} {x : Int} {r : List Int} (w : WInv R b mk P (i + 1) x r) : WInv R b mk P i (ah x) (x :: r) := by
  obtain ⟨h1, h2, h3⟩ := h.e i x w.m
  refine ⟨h1, List.pairwise_cons.mpr ⟨fun y hy => ?_, w.p⟩, List.forall_mem_cons.mpr ⟨⟨i, h1⟩, w.q⟩⟩
  rcases List.mem_cons.mp hy with rfl | hy
  · exact ⟨h2, h3⟩
  · have := (List.pairwise_cons.mp w.p).1 y hy
    exact ⟨tr _ _ _ h2 this.1, rel_trans h3 this.2⟩
end
end Mine

namespace Mine

noncomputable abbrev LS : List Str := looseW VW PL ++ List.map (fun x => x.name) (recsOf VW) ++ List.map (fun x => x.fst) (litsOf VW) ++ List.map (fun x => x.name) (clssOf VW (looseW VW PL))

/-- what every walk knows of the world at a heap -/
structure Rdy (w : World) (mean : ExcName → Option Value) (mg mb : Str → Option Value) (A : Around) (base : Heap) (outer : List Env) (h : Heap) : Prop where
  B : Below A base outer h
  K : (hd.heap_39 w.params).In h
  T : Top topProg LS mean mg mb h

abbrev ar (dp un : Nat) (gd : Option (List Code)) (outer : List Env) : Around := { handled := none, depth := dp, frames := some outer, guards := gd, units := un }

/-- everything that stands stays -/
def Kp (h h' : Heap) : Prop := ∀ b o, h.get? b = some o → h'.get? b = some o
theorem Kp.list {h h' : Heap} {l : Addr} {vs : Array Value} (hk : Kp h h') (hl : h.IsList l vs) : h'.IsList l vs := let ⟨o, ho, r⟩ := hl; ⟨o, hk l o ho, r⟩
theorem Kp.tup {h h' : Heap} {l : Addr} {vs : Array Value} (hk : Kp h h') (hl : IsTup h l vs) : IsTup h' l vs := IsTup.keeps hl hk

/-- what a caller gets back: a result, new objects tl -/
def Ret (s : Shared) (Q : Value → Shared → Prop) (Out : List (Addr × Obj) → Value → Prop) : Prop :=
  ∀ r h' tk' tl, Kp s.heap h' → (∀ p ∈ tl, h'.get? p.1 = some p.2 ∧ s.heap.get? p.1 = none) → Out tl r → Q r { s with heap := h', toks := tk' }
/-- the same where the result is a plain value -/
def Ret0 (s : Shared) (Q : Value → Shared → Prop) (Out : Value → Prop) : Prop :=
  ∀ r h' tk', Kp s.heap h' → Out r → Q r { s with heap := h', toks := tk' }

section
variable {h₀ : Heap} {L : Addr} {m : Str → Option Value} {news : List (Addr × Obj)} {s : Shared} {Q : Value → Shared → Prop}
theorem frK {h h' : Heap} (F : Fr h₀ L h m) (k : Kp h h') : Fr h₀ L h' m := ⟨F.ns.keeps k, fun b o e => k b o (F.keep b o e), F.above⟩
theorem newsK {h h' : Heap} (N : News h₀ L h news) (k : Kp h h') : News h₀ L h' news := fun p hp => ⟨k _ _ (N p hp).1, (N p hp).2⟩
theorem newsTl {h h' : Heap} {tl : List (Addr × Obj)} (F : Fr h₀ L h m) (N : News h₀ L h news) (k : Kp h h') (ht : ∀ p ∈ tl, h'.get? p.1 = some p.2 ∧ h.get? p.1 = none) : News h₀ L h' (tl ++ news) := fun p hp => by
  rcases List.mem_append.mp hp with q | q
  · refine ⟨(ht p q).1, fun e => ?_, ?_⟩
    · obtain ⟨o, es, ep, ho, _⟩ := F.ns
      have := (ht p q).2; rw [e, ho] at this; cases this
    · cases e : h₀.get? p.1 with
      | none => rfl
      | some o => have := F.keep _ _ e; rw [(ht p q).2] at this; cases this
  · exact newsK N k p q
theorem retOf {Out : List (Addr × Obj) → Value → Prop} (F : Fr h₀ L s.heap m) (N : News h₀ L s.heap news)
    (k : ∀ r h' tk' tl, Fr h₀ L h' m → News h₀ L h' (tl ++ news) → (∀ p ∈ tl, ∀ q ∈ news, p.1 ≠ q.1) → Out tl r → Q r { s with heap := h', toks := tk' }) : Ret s Q Out :=
  fun r h' tk' tl hk ht ho => k r h' tk' tl (frK F hk) (newsTl F N hk ht) (fun p hp q hq e => by
    have := (ht p hp).2; rw [e, (N q hq).1] at this; cases this) ho
theorem ret0Of {Out : Value → Prop} (F : Fr h₀ L s.heap m) (N : News h₀ L s.heap news)
    (k : ∀ r h' tk', Fr h₀ L h' m → News h₀ L h' news → Out r → Q r { s with heap := h', toks := tk' }) : Ret0 s Q Out :=
  fun r h' tk' hk ho => k r h' tk' (frK F hk) (newsK N hk) ho
/-- at a body's end -/
theorem retEnd {Out : List (Addr × Obj) → Value → Prop} {r : Value} {h' : Heap} {tk' : Nat} {tl : List (Addr × Obj)} {L' : Addr} {m' : Str → Option Value} (R : Ret s Q Out) (F : Fr s.heap L' h' m') (N : News s.heap L' h' news) (hs : ∀ p ∈ tl, p ∈ news) (o : Out tl r) :
    Q r { s with heap := h', toks := tk' } := R r h' tk' tl F.keep (fun p hp => ⟨(N p (hs p hp)).1, (N p (hs p hp)).2.2⟩) o
theorem ret0End {Out : Value → Prop} {r : Value} {h' : Heap} {tk' : Nat} {L' : Addr} {m' : Str → Option Value} (R : Ret0 s Q Out) (F : Fr s.heap L' h' m') (o : Out r) :
    Q r { s with heap := h', toks := tk' } := R r h' tk' F.keep o
end

section
variable {prog : Program} {w : World} {mean : ExcName → Option Value} {mg mb : Str → Option Value} {dp un : Nat} {gd : Option (List Code)} {base : Heap} {outer : List Env} {s : Shared}

theorem Rdy.into {A₀ : Around} {h₀ h : Heap} {L : Addr} {m : Str → Option Value} {env : Env} (B : Below A₀ base outer h₀) (X : (hd.heap_39 w.params).In h₀) (T : Top topProg LS mean mg mb h₀) (F : Fr h₀ L h m) (hf : env.frame = some L) (hk : env.scope.kind = .function) :
    Rdy w mean mg mb (A₀.deeper env) base (env :: outer) h := ⟨pushX B F hf hk, X.keeps F.keep, T.keeps F.keep⟩

theorem enterD {R : Result → Shared → Prop} {name qual : Str} {params : Arguments} {body : List Stmt} {scope : Scope} {dV kV doc pm cdv ct oc : Value} {an od : Option Addr} {osl : Array (Option Value)} {f : Addr} {args : Args} {binds : List (Str × Value)}
    (W : Rdy w mean mg mb (ar dp un gd outer) base outer s.heap)
    (ho : (hd.heap_39 w.params).lookup f = some ⟨oc, od, .func (fnOf name qual params body scope dV kV doc pm an cdv ct), osl⟩) (hcd : codeIn (hd.heap_39 w.params) cdv qual = true)
    (hroom : dp < recursionLimit)
    (hbind : BindsTo s (fnOf name qual params body scope dV kV doc pm an cdv ct) args binds) (hloc : ∀ y ∈ binds, scope.names.lookup y.1 = some .local)
    (h : ∀ h₁, Fr s.heap s.heap.objs.size h₁ (fun y => binds.reverse.lookup y) → News s.heap s.heap.objs.size h₁ [] → Below (ar dp un gd outer) base outer s.heap → (hd.heap_39 w.params).In s.heap → Top topProg LS mean mg mb s.heap →
      wpAny (model prog w) ((ar dp un gd outer).deeper (envOf qual scope s.heap.objs.size f cdv)) (execs body (envOf qual scope s.heap.objs.size f cdv))
        (fun fl s' => R (.ok (.ret (match fl with | .ret v => v | _ => .none))) s')
        (fun _ _ => False)
        { s with heap := h₁, toks := s.toks + binds.length })
    (hco : scope.isCoroutine = false) (hgen : scope.isGenerator = false) (hk : scope.kind = .function)
    (hcell : ∀ x ∈ scope.names, x.2 ≠ .cell) : codeAny (model prog w) (ar dp un gd outer) (.call (.ref f) args) R s := by
  refine codeAny_call_def (fd := fnOf name qual params body scope dV kV doc pm an cdv ct) (body := body) (binds := binds) hroom (W.K _ _ ho) rfl W.T.nolimit (codeRec_of W.K hcd) rfl hbind hcell hloc (fun h₁ hns hk₁ => ?_) hco hgen hk
  refine wpAny_mono (h h₁ ⟨hns, hk₁, Nat.le_refl _⟩ News.nil W.B W.K W.T) (fun _ _ x => x) (fun _ _ x => x.elim)

theorem enterC {R : Result → Shared → Prop} {name qual : Str} {params : Arguments} {body : List Stmt} {scope : Scope} {dV kV doc pm cdv ct oc : Value} {an od : Option Addr} {osl : Array (Option Value)} {f : Addr} {args : Args} {binds : List (Str × Value)}
    (W : Rdy w mean mg mb (ar dp un gd outer) base outer s.heap)
    (ho : (hd.heap_39 w.params).lookup f = some ⟨oc, od, .func (fnOf name qual params body scope dV kV doc pm an cdv ct), osl⟩) (hcd : codeIn (hd.heap_39 w.params) cdv qual = true)
    (hroom : dp < recursionLimit)
    (hbind : BindsTo s (fnOf name qual params body scope dV kV doc pm an cdv ct) args binds) (hkind : (binds.all fun y => scope.names.lookup y.1 == some .local || scope.names.lookup y.1 == some .cell) = true)
    (hnd : ((cellsFrom 0 scope.names []).map (·.1)).Nodup)
    (h : ∀ h₁ tk cells, Fr s.heap s.heap.objs.size h₁ (bindL (envOfC qual scope s.heap.objs.size f cdv).kindOf binds fun _ => none) → News s.heap s.heap.objs.size h₁ cells →
      CellsAre (bindC (envOfC qual scope s.heap.objs.size f cdv).kindOf binds fun _ => none) (cellsFrom (s.heap.objs.size + 1) scope.names []) cells → Below (ar dp un gd outer) base outer s.heap → (hd.heap_39 w.params).In s.heap → Top topProg LS mean mg mb s.heap →
      wpAny (model prog w) ((ar dp un gd outer).deeper (envOfC qual scope s.heap.objs.size f cdv)) (execs body (envOfC qual scope s.heap.objs.size f cdv))
        (fun fl s' => R (.ok (.ret (match fl with | .ret v => v | _ => .none))) s')
        (fun _ _ => False)
        { s with heap := h₁, toks := tk })
    (hco : scope.isCoroutine = false) (hgen : scope.isGenerator = false) (hk : scope.kind = .function) : codeAny (model prog w) (ar dp un gd outer) (.call (.ref f) args) R s := by
  refine codeAny_call_function hroom (W.K _ _ ho) rfl hco hgen rfl (codeRec_of W.K hcd) (hbind _ _ _ _ ?_)
  refine wpAny_newFunctionEnv_cells hk (kindsX hkind _) fun env' he s' x => ?_
  subst he
  refine ⟨W.T.nolimit.keeps x.toInCall.keep, codeAny_func ?_⟩
  obtain ⟨h₁, tk, rfl, _⟩ := x.done
  have hk₁ := x.toInCall.keep
  obtain ⟨cells, NC, Y⟩ := Cl.news (h₀ := s.heap) (Nat.le_refl _) fun n c hm => ⟨x.cell n c (lookup_of_mem_nodup (cellsFrom_names scope.names 0 (s.heap.objs.size + 1) [] [] rfl ▸ hnd) hm), x.above n c hm⟩
  refine wpAny_mono (h h₁ tk cells ⟨x.toInCall.ns, fun b o e => hk₁ b o e, Nat.le_refl _⟩ (fun p hp => ⟨(NC p hp).1, (NC p hp).2.1, (NC p hp).2.2⟩) Y W.B W.K W.T) (fun _ _ x => x) (fun _ _ x => x.elim)
end

/-! loops by letters -/
def TP {σ : Type} (h₀ : Heap) (L I : Addr) (o : Obj) (Led : σ → List (Addr × Obj)) (ps : σ → List (Str × Value)) (x : Str) (stored : List Str) (m₀ : Str → Option Value) (P : σ → Prop) (s₁ : Shared) (Q : Flow → Shared → Prop) (f : Flow) (s₂ : Shared) : Prop :=
  match f with
  | .ret v => Q (.ret v) s₂
  | .brk => Q .next s₂
  | _ => ∃ (c : σ) (h' : Heap) (tk : Nat) (m' : Str → Option Value), s₂ = { s₁ with heap := h', toks := tk } ∧ Fr h₀ L h' m' ∧ News h₀ L h' ((I, o) :: Led c) ∧ (∀ p ∈ Led c, p.1 ≠ I) ∧ (∀ p ∈ ps c, m' p.1 = some p.2) ∧ (∀ z, z ≠ x → (∀ p ∈ ps c, z ≠ p.1) → stored.contains z = false → m' z = m₀ z) ∧ P c

section
variable {prog : Program} {w : World} {A : Around} {E : Value → Shared → Prop} {s : Shared} {env : Env} {h₀ : Heap} {x : Str} {body : List Stmt} {Q : Flow → Shared → Prop}
theorem TP.next {σ : Type} {L I : Addr} {o : Obj} {Led : σ → List (Addr × Obj)} {ps : σ → List (Str × Value)} {stored : List Str} {m₀ m' : Str → Option Value} {P : σ → Prop} {s₁ : Shared} {h' : Heap} {tk : Nat} {news : List (Addr × Obj)} (c : σ)
    (F : Fr h₀ L h' m') (N : News h₀ L h' news) (hn : ∀ p ∈ (I, o) :: Led c, p ∈ news) (hI : ∀ p ∈ Led c, p.1 ≠ I) (hp : ∀ p ∈ ps c, m' p.1 = some p.2) (hz : ∀ z, z ≠ x → (∀ p ∈ ps c, z ≠ p.1) → stored.contains z = false → m' z = m₀ z) (hP : P c) :
    TP h₀ L I o Led ps x stored m₀ P s₁ Q .next { s₁ with heap := h', toks := tk } := ⟨c, h', tk, m', rfl, F, fun p q => N p (hn p q), hI, hp, hz, hP⟩

theorem loopG {σ : Type} {I : Addr} {fp wr : List Addr} {n : Nat} {Pv : Nat → Value → Prop} {St : Nat → Heap → Prop} {m₀ : Str → Option Value} (K : List (Addr × Obj)) (Led : σ → List (Addr × Obj)) (ps : σ → List (Str × Value)) (stored : List Str) (P : Nat → σ → Prop) (c₀ : σ)
    (W : Walks prog w A I fp wr n Pv St) (hIf : I ∈ fp) (hfp : ∀ b ∈ fp, b = I ∨ (∃ q, h₀.get? b = some q) ∨ ∃ q, (b, q) ∈ K) (hIw : I ∈ wr) (hwr : ∀ b ∈ wr, b = I) (hI0 : h₀.get? I = none) (hob : ∀ i h, St i h → ∃ o, h.get? I = some o) (hLf : env.locals ∉ fp)
    (hK : ∀ c, ∀ p ∈ K, p ∈ Led c)
    (hst : St 0 s.heap) (F : Fr h₀ env.locals s.heap m₀) (N : News h₀ env.locals s.heap (Led c₀)) (hnI : ∀ p ∈ Led c₀, p.1 ≠ I) (hk : ∀ p ∈ ps c₀, m₀ p.1 = some p.2) (hp : P 0 c₀)
    (turn : ∀ (c : σ) i v (u : Str → Option Value) h tk o, i < n → Pv i v → P i c → (∀ p ∈ Led c, p.1 ≠ I) → Fr h₀ env.locals h (fun y => if y = x then some v else kstB (fun z => if stored.contains z then u z else m₀ z) (ps c) y) → News h₀ env.locals h ((I, o) :: Led c) →
      wpAny (model prog w) A (execs body env) (TP h₀ env.locals I o Led ps x stored m₀ (P (i + 1)) { s with heap := h, toks := tk } Q) E { s with heap := h, toks := tk })
    (done : ∀ (c : σ) (u : Str → Option Value) h tk, P n c → Fr h₀ env.locals h (fun y => if y = x then u y else kstB (fun z => if stored.contains z then u z else m₀ z) (ps c) y) → News h₀ env.locals h (Led c) → Q .next { s with heap := h, toks := tk }) :
    LoopAtV prog w A h₀ env x body Q E (.ref I) s := by
  let J : Nat → (Str → Option Value) → List (Addr × Obj) → Prop := fun i m nx => ∃ c : σ, nx = Led c ∧ (∀ p ∈ ps c, m p.1 = some p.2) ∧ (∀ z, z ≠ x → (∀ p ∈ ps c, z ≠ p.1) → stored.contains z = false → m z = m₀ z) ∧ P i c
  refine ⟨I, fp, wr, n, Pv, St, m₀, Led c₀, J, rfl, W, hLf, fun b hb => (hwr b hb).symm ▸ hI0, fun p hp hw => hnI p hp (hwr _ hw), hst, F, N, ⟨c₀, rfl, hk, fun _ _ _ _ => rfl, hp⟩, ?_, ?_⟩
  · rintro i v m₁ news₁ s₁ own ⟨hh', tk', rfl⟩ hin hP ⟨c, rfl, h1, h2, hp'⟩ hoff hown hlive hall hst' F₁ N₁
    obtain ⟨o, ho⟩ := hob _ _ hst'
    have hio : (I, o) ∈ own := hall I hIf hI0 o ho
    have N₂ : News h₀ env.locals hh' ((I, o) :: Led c) := fun p hp => by
      rcases List.mem_cons.mp hp with rfl | q
      · exact N₁ _ (List.mem_append_left _ hio)
      · exact N₁ _ (List.mem_append_right _ q)
    have hne : ∀ p ∈ Led c, p.1 ≠ I := fun p hp e => hoff p hp (e ▸ hIw)
    refine wpAny_mono (turn c i v m₁ hh' tk' o hin hP hp' hne (kst_fr h1 h2 F₁) N₂) (fun f s₂ p => ?_) fun _ _ e => e
    have fin : (∃ (c : σ) (h' : Heap) (tk : Nat) (m' : Str → Option Value), s₂ = { s with heap := h', toks := tk } ∧ Fr h₀ env.locals h' m' ∧ News h₀ env.locals h' ((I, o) :: Led c) ∧ (∀ p ∈ Led c, p.1 ≠ I) ∧ (∀ p ∈ ps c, m' p.1 = some p.2) ∧ (∀ z, z ≠ x → (∀ p ∈ ps c, z ≠ p.1) → stored.contains z = false → m' z = m₀ z) ∧ P (i + 1) c) → LoopStepU h₀ env.locals wr own (J (i + 1)) { s with heap := hh', toks := tk' } .next s₂ := by
      rintro ⟨c', h', tk, m', e, F', N', hI', hm, hz, hp2⟩
      refine ⟨rfl, h', tk, m', Led c', e, F', fun q hq => ?_, fun q hq hw => hI' q hq (hwr _ hw), c', rfl, hm, hz, hp2⟩
      rcases List.mem_append.mp hq with q1 | q1
      · rcases hfp q.1 (hown q q1) with e1 | ⟨o₂, e1⟩ | ⟨o₂, e1⟩
        · have h3 := hlive q q1
          have : q = (I, o) := by
            have h4 : hh'.get? I = some q.2 := e1 ▸ h3
            rw [ho] at h4
            exact Prod.ext e1 (Option.some.inj h4).symm
          rw [this]; exact N' _ (.head _)
        · have := (N₁ q (List.mem_append_left _ q1)).2.2
          rw [e1] at this; cases this
        · have h3 := hlive q q1
          have h4 := (N₁ _ (List.mem_append_right _ (hK c _ e1))).1
          have : q = (q.1, o₂) := by
            have h5 : hh'.get? q.1 = some q.2 := h3
            rw [h4] at h5
            exact Prod.ext rfl (Option.some.inj h5).symm
          rw [this]; exact N' _ (.tail _ (hK c' _ e1))
      · exact N' _ (.tail _ q1)
    cases f with
    | ret v => exact .ret p
    | brk => exact .brk p
    | next => exact .next (fin p)
    | cont => exact .cont (fin p)
  · rintro h' tk m' news' F' N' _ ⟨c, rfl, h1, h2, hp'⟩
    exact done c m' h' tk hp' (kst_frOut h1 h2 F') N'

theorem loopL {σ : Type} {l : Addr} {items : Array Value} {m₀ : Str → Option Value} (Led : σ → List (Addr × Obj)) (ps : σ → List (Str × Value)) (stored : List Str) (P : Nat → σ → Prop) (c₀ : σ)
    (hh : A.handled = none) (hl : h₀.IsList l items)
    (F : Fr h₀ env.locals s.heap m₀) (N : News h₀ env.locals s.heap (Led c₀)) (hk : ∀ p ∈ ps c₀, m₀ p.1 = some p.2) (hp : P 0 c₀)
    (turn : ∀ (c : σ) i v (u : Str → Option Value) I h tk o, i < items.size → items[i]? = some v → P i c → (∀ p ∈ Led c, p.1 ≠ I) → Fr h₀ env.locals h (fun y => if y = x then some v else kstB (fun z => if stored.contains z then u z else m₀ z) (ps c) y) → News h₀ env.locals h ((I, o) :: Led c) →
      wpAny (model prog w) A (execs body env) (TP h₀ env.locals I o Led ps x stored m₀ (P (i + 1)) { s with heap := h, toks := tk } Q) E { s with heap := h, toks := tk })
    (done : ∀ (c : σ) (u : Str → Option Value) h tk, P items.size c → Fr h₀ env.locals h (fun y => if y = x then u y else kstB (fun z => if stored.contains z then u z else m₀ z) (ps c) y) → News h₀ env.locals h (Led c) → Q .next { s with heap := h, toks := tk }) :
    wpAny (model prog w) A (pyIter (.ref l)) (fun it s₂ => LoopAtV prog w A h₀ env x body Q E it s₂) E s := by
  have hls : s.heap.IsList l items := hl.at fun o e => F.keep l o e
  obtain ⟨ol, hol, _⟩ := id hl
  have hlt : l < h₀.objs.size := Heap.lt_size hol
  have hne : l ≠ s.heap.objs.size := Nat.ne_of_lt (Nat.lt_trans (Nat.lt_of_lt_of_le hlt F.above) F.ns.lt)
  refine wpAny_pyIter_list hls ?_
  have W := Walks.list (prog := prog) (w := w) hh s.heap.objs.size l hne items
  refine loopG [] Led ps stored P c₀ W (.head _) ?_ (.head _) (fun b hb => List.mem_singleton.mp hb) (none_at_size F) (fun i h st => ?_) ?_ (fun _ _ hp => nomatch hp) ⟨⟨_, Heap.get?_push_size _ rfl, rfl, rfl⟩, hls.at fun o e => Heap.get?_push_of_some _ e⟩ (F.push _) (fun p hp => ⟨Heap.get?_push_of_some _ (N p hp).1, (N p hp).2⟩) (fun p hp e => absurd (Heap.lt_size (N p hp).1) (e ▸ Nat.lt_irrefl _)) hk hp ?_ done
  · intro b hb
    rcases List.mem_cons.mp hb with e | hb
    · exact .inl e
    · exact .inr (.inl ⟨ol, List.mem_singleton.mp hb ▸ hol⟩)
  · obtain ⟨o, ho, _⟩ := st.1; exact ⟨o, ho⟩
  · intro hm
    rcases List.mem_cons.mp hm with e | hm
    · exact absurd F.ns.lt (e ▸ Nat.lt_irrefl _)
    · exact absurd (Nat.lt_of_lt_of_le hlt F.above) ((List.mem_singleton.mp hm) ▸ Nat.lt_irrefl _)
  · intro c i v u h tk o hi hP hp' hI F₁ N₁
    exact turn c i v u _ h tk o hi hP hp' hI F₁ N₁

theorem loopN {σ : Type} {l : Addr} {items : Array Value} {cc : Nat} {m₀ : Str → Option Value} (Led : σ → List (Addr × Obj)) (ps : σ → List (Str × Value)) (stored : List Str) (P : Nat → σ → Prop) (c₀ : σ)
    (hh : A.handled = none) (hl : ∀ c, (l, listOf items cc) ∈ Led c)
    (F : Fr h₀ env.locals s.heap m₀) (N : News h₀ env.locals s.heap (Led c₀)) (hk : ∀ p ∈ ps c₀, m₀ p.1 = some p.2) (hp : P 0 c₀)
    (turn : ∀ (c : σ) i v (u : Str → Option Value) I h tk o, i < items.size → items[i]? = some v → P i c → (∀ p ∈ Led c, p.1 ≠ I) → Fr h₀ env.locals h (fun y => if y = x then some v else kstB (fun z => if stored.contains z then u z else m₀ z) (ps c) y) → News h₀ env.locals h ((I, o) :: Led c) →
      wpAny (model prog w) A (execs body env) (TP h₀ env.locals I o Led ps x stored m₀ (P (i + 1)) { s with heap := h, toks := tk } Q) E { s with heap := h, toks := tk })
    (done : ∀ (c : σ) (u : Str → Option Value) h tk, P items.size c → Fr h₀ env.locals h (fun y => if y = x then u y else kstB (fun z => if stored.contains z then u z else m₀ z) (ps c) y) → News h₀ env.locals h (Led c) → Q .next { s with heap := h, toks := tk }) :
    wpAny (model prog w) A (pyIter (.ref l)) (fun it s₂ => LoopAtV prog w A h₀ env x body Q E it s₂) E s := by
  have hN := N _ (hl c₀)
  have hls : s.heap.IsList l items := ⟨_, hN.1, rfl, cc, rfl⟩
  have hlt : l < s.heap.objs.size := Heap.lt_size hN.1
  have hne : l ≠ s.heap.objs.size := Nat.ne_of_lt hlt
  refine wpAny_pyIter_list hls ?_
  have W := Walks.list (prog := prog) (w := w) hh s.heap.objs.size l hne items
  refine loopG [(l, listOf items cc)] Led ps stored P c₀ W (.head _) ?_ (.head _) (fun b hb => List.mem_singleton.mp hb) (none_at_size F) (fun i h st => ?_) ?_ (fun c p hp => List.mem_singleton.mp hp ▸ hl c) ⟨⟨_, Heap.get?_push_size _ rfl, rfl, rfl⟩, hls.at fun o e => Heap.get?_push_of_some _ e⟩ (F.push _) (fun p hp => ⟨Heap.get?_push_of_some _ (N p hp).1, (N p hp).2⟩) (fun p hp e => absurd (Heap.lt_size (N p hp).1) (e ▸ Nat.lt_irrefl _)) hk hp ?_ done
  · intro b hb
    rcases List.mem_cons.mp hb with e | hb
    · exact .inl e
    · exact .inr (.inr ⟨listOf items cc, by rw [List.mem_singleton.mp hb]; exact .head _⟩)
  · obtain ⟨o, ho, _⟩ := st.1; exact ⟨o, ho⟩
  · intro hm
    rcases List.mem_cons.mp hm with e | hm
    · exact absurd F.ns.lt (e ▸ Nat.lt_irrefl _)
    · exact hN.2.1 (List.mem_singleton.mp hm).symm
  · intro c i v u h tk o hi hP hp' hI F₁ N₁
    exact turn c i v u _ h tk o hi hP hp' hI F₁ N₁

theorem loopR {σ : Type} {r : Addr} {a₀ b₀ : Int} {t₀ u₀ v₀ : Tok} {n : Nat} {m₀ : Str → Option Value} (Led : σ → List (Addr × Obj)) (ps : σ → List (Str × Value)) (stored : List Str) (P : Nat → σ → Prop) (c₀ : σ)
    (hh : A.handled = none) (hr : IsRange s.heap r a₀ b₀ 1 t₀ u₀ v₀) (hsmall : Builtin.Range.small a₀ b₀ 1 = true) (hn : Builtin.Range.rangeSize a₀ b₀ 1 = (n : Int))
    (F : Fr h₀ env.locals s.heap m₀) (N : News h₀ env.locals s.heap (Led c₀)) (hk : ∀ p ∈ ps c₀, m₀ p.1 = some p.2) (hp : P 0 c₀)
    (turn : ∀ (c : σ) i (u : Str → Option Value) I h tk o t, i < n → P i c → (∀ p ∈ Led c, p.1 ≠ I) → Fr h₀ env.locals h (fun y => if y = x then some (.int (a₀ + i) t) else kstB (fun z => if stored.contains z then u z else m₀ z) (ps c) y) → News h₀ env.locals h ((I, o) :: Led c) →
      wpAny (model prog w) A (execs body env) (TP h₀ env.locals I o Led ps x stored m₀ (P (i + 1)) { s with heap := h, toks := tk } Q) E { s with heap := h, toks := tk })
    (done : ∀ (c : σ) (u : Str → Option Value) h tk, P n c → Fr h₀ env.locals h (fun y => if y = x then u y else kstB (fun z => if stored.contains z then u z else m₀ z) (ps c) y) → News h₀ env.locals h (Led c) → Q .next { s with heap := h, toks := tk }) :
    wpAny (model prog w) A (pyIter (.ref r)) (fun it s₂ => LoopAtV prog w A h₀ env x body Q E it s₂) E s := by
  refine wpAny_pyIter_range hr hsmall ?_
  have W : Walks prog w A s.heap.objs.size [s.heap.objs.size] [s.heap.objs.size] n (fun i v => ∃ t, v = .int (a₀ + i * 1) t)
      (fun i h => IsRangeIter h s.heap.objs.size (a₀ + (i : Nat) * 1) ((n : Int) - (i : Nat)) 1) := Walks.range hh _ a₀ 1 n
  refine loopG [] Led ps stored P c₀ W (.head _) (fun b hb => .inl (List.mem_singleton.mp hb)) (.head _) (fun b hb => List.mem_singleton.mp hb) (none_at_size F) (fun i h st => ⟨_, st⟩) ?_ (fun _ _ hp => nomatch hp) (by show IsRangeIter _ _ _ _ _; rw [hn]; simpa using Heap.get?_push_size _ rfl) (F.push _) (fun p hp => ⟨Heap.get?_push_of_some _ (N p hp).1, (N p hp).2⟩) (fun p hp e => absurd (Heap.lt_size (N p hp).1) (e ▸ Nat.lt_irrefl _)) hk hp ?_ done
  · intro hm
    exact absurd F.ns.lt ((List.mem_singleton.mp hm) ▸ Nat.lt_irrefl _)
  · rintro c i v u h tk o hi ⟨t, rfl⟩ hp' hI F₁ N₁
    rw [Int.mul_one] at F₁
    exact turn c i u _ h tk o t hi hp' hI F₁ N₁

theorem intsItem {vs : List Value} {ns : List Int} (hi : IntsAre vs ns) {i : Nat} {v : Value} (h : vs.toArray[i]? = some v) : ∃ x t, v = .int x t ∧ ns[i]? = some x := by
  rw [List.getElem?_toArray] at h
  have hlt : i < ns.length := by
    rw [← hi.length]
    exact (List.getElem?_eq_some_iff.mp h).1
  obtain ⟨t, ht⟩ := hi.get i ns[i] (by simp [hlt])
  rw [ht] at h
  exact ⟨ns[i], t, (Option.some.inj h).symm, by simp [hlt]⟩

/-- over a list of ints that stood at the frame's start -/
theorem loopLI {σ : Type} {l : Addr} {vs : List Value} {ns : List Int} {m₀ : Str → Option Value} (Led : σ → List (Addr × Obj)) (ps : σ → List (Str × Value)) (stored : List Str) (P : Nat → σ → Prop) (c₀ : σ)
    (hh : A.handled = none) (hl : h₀.IsList l vs.toArray) (hi : IntsAre vs ns)
    (F : Fr h₀ env.locals s.heap m₀) (N : News h₀ env.locals s.heap (Led c₀)) (hk : ∀ p ∈ ps c₀, m₀ p.1 = some p.2) (hp : P 0 c₀)
    (turn : ∀ (c : σ) i k t (u : Str → Option Value) I h tk o, i < ns.length → ns[i]? = some k → P i c → (∀ p ∈ Led c, p.1 ≠ I) → Fr h₀ env.locals h (fun y => if y = x then some (.int k t) else kstB (fun z => if stored.contains z then u z else m₀ z) (ps c) y) → News h₀ env.locals h ((I, o) :: Led c) →
      wpAny (model prog w) A (execs body env) (TP h₀ env.locals I o Led ps x stored m₀ (P (i + 1)) { s with heap := h, toks := tk } Q) E { s with heap := h, toks := tk })
    (done : ∀ (c : σ) (u : Str → Option Value) h tk, P ns.length c → Fr h₀ env.locals h (fun y => if y = x then u y else kstB (fun z => if stored.contains z then u z else m₀ z) (ps c) y) → News h₀ env.locals h (Led c) → Q .next { s with heap := h, toks := tk }) :
    wpAny (model prog w) A (pyIter (.ref l)) (fun it s₂ => LoopAtV prog w A h₀ env x body Q E it s₂) E s := by
  have hsz : vs.toArray.size = ns.length := by rw [List.size_toArray, hi.length]
  refine loopL Led ps stored P c₀ hh hl F N hk hp ?_ (by rw [hsz]; exact done)
  intro c i v u I h tk o h1 h2 h3 h4 F' N'
  obtain ⟨k, t, rfl, hk'⟩ := intsItem hi h2
  exact turn c i k t u I h tk o (hsz ▸ h1) hk' h3 h4 F' N'

/-- over a list of ints of the frame's own -/
theorem loopNI {σ : Type} {l : Addr} {vs : List Value} {ns : List Int} {cc : Nat} {m₀ : Str → Option Value} (Led : σ → List (Addr × Obj)) (ps : σ → List (Str × Value)) (stored : List Str) (P : Nat → σ → Prop) (c₀ : σ)
    (hh : A.handled = none) (hl : ∀ c, (l, listOf vs.toArray cc) ∈ Led c) (hi : IntsAre vs ns)
    (F : Fr h₀ env.locals s.heap m₀) (N : News h₀ env.locals s.heap (Led c₀)) (hk : ∀ p ∈ ps c₀, m₀ p.1 = some p.2) (hp : P 0 c₀)
    (turn : ∀ (c : σ) i k t (u : Str → Option Value) I h tk o, i < ns.length → ns[i]? = some k → P i c → (∀ p ∈ Led c, p.1 ≠ I) → Fr h₀ env.locals h (fun y => if y = x then some (.int k t) else kstB (fun z => if stored.contains z then u z else m₀ z) (ps c) y) → News h₀ env.locals h ((I, o) :: Led c) →
      wpAny (model prog w) A (execs body env) (TP h₀ env.locals I o Led ps x stored m₀ (P (i + 1)) { s with heap := h, toks := tk } Q) E { s with heap := h, toks := tk })
    (done : ∀ (c : σ) (u : Str → Option Value) h tk, P ns.length c → Fr h₀ env.locals h (fun y => if y = x then u y else kstB (fun z => if stored.contains z then u z else m₀ z) (ps c) y) → News h₀ env.locals h (Led c) → Q .next { s with heap := h, toks := tk }) :
    wpAny (model prog w) A (pyIter (.ref l)) (fun it s₂ => LoopAtV prog w A h₀ env x body Q E it s₂) E s := by
  have hsz : vs.toArray.size = ns.length := by rw [List.size_toArray, hi.length]
  refine loopN Led ps stored P c₀ hh hl F N hk hp ?_ (by rw [hsz]; exact done)
  intro c i v u I h tk o h1 h2 h3 h4 F' N'
  obtain ⟨k, t, rfl, hk'⟩ := intsItem hi h2
  exact turn c i k t u I h tk o (hsz ▸ h1) hk' h3 h4 F' N'
end
end Mine

namespace Mine
theorem keeps_F {M : Model} {f : Addr} {fo : Obj} {fd : FuncData} (hd : fo.data = .func fd) (h : Heap) (e : h.get? f = some fo) : ∃ k, (k = Keeper.frame ∨ k = Keeper.machine ∨ k = Keeper.boundFrame) ∧ Looks M h (keeperOf (.ref f)) k := by
  obtain ⟨c, d, dat, sl⟩ := fo
  cases hd
  exact ⟨.frame, .inl rfl, (Looks.ld (part := none) e).andThen .now⟩
theorem callWith_F {M : Model} {A : Around} {E : Value → Shared → Prop} {s : Shared} {env : Env} {pos : Pos} {f : Addr} {first : List Value} {Q : Value → Shared → Prop} {fo : Obj} {fd : FuncData} {e : PySem.Expr} {rest : List PySem.Expr} (hd : fo.data = .func fd)
    (h : wpAny M A (spliced (backTo pos (starEach (e :: rest) env))) (fun vs s₁ => s₁.heap.get? f = some fo ∧ wpAny M A (call (.ref f) (first ++ vs)) Q E s₁) E s)
    (he : starEach (e :: rest) env = (false, eval e env) :: starEach rest env := by rfl) (hplain : (backTo pos (starEach rest env)).any (·.1) = false := by rfl) :
    wpAny M A (callWith pos (.ref f) first (backTo pos (starEach (e :: rest) env)) []) Q E s := by
  rw [he] at h ⊢
  exact callWith_of (by show ((false || (backTo pos (starEach rest env)).any (·.1)) || false) = false; rw [hplain]; rfl) (keeps_F hd) (evalArgs_plain h)

/-- a function of one int that gives a float, whenever and from wherever it is called -/
def KeyOk (prog : Program) (w : World) (mean : ExcName → Option Value) (mg mb : Str → Option Value) (kf : Addr) (val : Int → UInt64) (n : Int) (h0 : Heap) : Prop :=
  ∃ fo fd, h0.get? kf = some fo ∧ fo.data = .func fd ∧
    ∀ (dp un : Nat) (gd : Option (List Code)) (base : Heap) (outer : List Env) (s : Shared) (k : Int) (t : Tok) (Q E : Value → Shared → Prop), Rdy w mean mg mb (ar dp un gd outer) base outer s.heap → Kp h0 s.heap → dp + 8 < recursionLimit → 0 ≤ k → k < n →
      Ret0 s Q (fun r => ∃ u, r = .float (val k) u) → wpAny (model prog w) (ar dp un gd outer) (call (.ref kf) [.int k t]) Q E s
theorem Kp.trans {a b c : Heap} (h : Kp a b) (k : Kp b c) : Kp a c := fun x o e => k x o (h x o e)

theorem enterL {prog : Program} {w : World} {mean : ExcName → Option Value} {mg mb : Str → Option Value} {dp un : Nat} {gd : Option (List Code)} {base : Heap} {outer : List Env} {s : Shared}
    {R : Result → Shared → Prop} {name qual : Str} {params : Arguments} {body : PySem.Expr} {scope : Scope} {cl : List (Str × Addr)} {pm ctv : Value} {c' : Addr} {f : Addr} {args : Args} {binds : List (Str × Value)}
    (W : Rdy w mean mg mb (ar dp un gd outer) base outer s.heap)
    (ho : s.heap.get? f = some (kla_obj name qual params body scope cl pm c' ctv)) (hcd : s.heap.CodeRec (.ref c') qual) (hroom : dp < recursionLimit)
    (hbind : bindArgs (kla_fn name qual params body scope cl pm (.ref c') ctv) args = pure binds) (hloc : ∀ y ∈ binds, scope.names.lookup y.1 = some .local)
    (h : ∀ h₁, Fr s.heap s.heap.objs.size h₁ (fun y => binds.reverse.lookup y) → News s.heap s.heap.objs.size h₁ [] → Below (ar dp un gd outer) base outer s.heap → (hd.heap_39 w.params).In s.heap → Top topProg LS mean mg mb s.heap →
      wpAny (model prog w) ((ar dp un gd outer).deeper (envX qual scope s.heap.objs.size f (.ref c') cl)) (eval body (envX qual scope s.heap.objs.size f (.ref c') cl))
        (fun v s' => R (.ok (.ret v)) s') (fun _ _ => False)
        { s with heap := h₁, toks := s.toks + binds.length })
    (hco : scope.isCoroutine = false) (hgen : scope.isGenerator = false) (hk : scope.kind = .function)
    (hcell : ∀ x ∈ scope.names, x.2 ≠ .cell) : codeAny (model prog w) (ar dp un gd outer) (.call (.ref f) args) R s := by
  refine kla_callFunE hroom ho rfl hco hgen rfl hcd ?_
  rw [hbind]
  refine wpAny_pure (wpAny_newFunctionEnv hcell hloc (fun h₁ hns hsb => ⟨W.T.nolimit.fresh _ hsb, ?_⟩) hk)
  show codeAny _ _ (.expr body (envX qual scope s.heap.objs.size f (.ref c') cl)) _ _
  have hk₁ : ∀ b o, s.heap.get? b = some o → h₁.get? b = some o := fun b o e => hsb.extBut b o (Nat.ne_of_lt (Heap.lt_size e)) (Heap.get?_push_of_some _ e)
  exact kla_codeExpr (wpAny_mono (h h₁ ⟨hns, hk₁, Nat.le_refl _⟩ News.nil W.B W.K W.T) (fun _ _ x => x) fun _ _ x => x.elim)
end Mine
namespace Mine
theorem instK {h h' : Heap} {x : Addr} {ox : Obj} {C : Addr} {od : Option Obj} (I : InstAt h x ox C od) (k : Kp h h') : InstAt h' x ox C od := by
  obtain ⟨a, b, c, d⟩ := I
  refine ⟨k _ _ a, b, c, ?_⟩
  cases h1 : ox.dict with
  | none => rw [h1] at d; cases od <;> first | exact d | trivial
  | some dx => rw [h1] at d; cases od <;> first | exact k _ _ d | exact d | trivial
/-- a lead as it stands: what its fields are -/
def LeadAt (h : Heap) (x : Addr) (raw : Value) (n nt : Int) (cs : List Int) (b : Int) : Prop :=
  ∃ dx tn tc vs t1 t2 t3 hr hn hnt hno hsi k1 k2 k3 k4 k5, h.get? x = some (instObj 133 dx) ∧
    h.get? dx = some (dictOf [⟨hr, .str (Str.ofString "raw") k1, raw⟩, ⟨hn, .str (Str.ofString "n") k2, .int n t1⟩, ⟨hnt, .str (Str.ofString "nt") k3, .int nt t2⟩, ⟨hno, .str (Str.ofString "norm") k4, .ref tn⟩, ⟨hsi, .str (Str.ofString "is_simple") k5, .bool (decide (cs.length ≤ 1))⟩] 5) ∧
    IsTup h tn #[.ref tc, .int b t3] ∧ IsTup h tc vs.toArray ∧ IntsAre vs cs
theorem LeadAt.keeps {h h' : Heap} {x : Addr} {raw : Value} {n nt : Int} {cs : List Int} {b : Int} (I : LeadAt h x raw n nt cs b) (k : Kp h h') : LeadAt h' x raw n nt cs b := by
  obtain ⟨dx, tn, tc, vs, t1, t2, t3, hr, hn, hnt, hno, hsi, k1, k2, k3, k4, k5, a, b, c, d, e⟩ := I
  exact ⟨dx, tn, tc, vs, t1, t2, t3, hr, hn, hnt, hno, hsi, k1, k2, k3, k4, k5, k _ _ a, k _ _ b, k.tup c, k.tup d, e⟩
end Mine
namespace Mine
def ilF (ts : Int) (cs : List Int) : Nat → Int
  | 0 => 0
  | k + 1 => ilF ts cs k + (ts + (k : Int)).fdiv ts * cs.getD (ts + (k : Int)).toNat 0
def indF (ts nt b : Int) (cs : List Int) : Int := b + ts * (ilF ts cs ((cs.length : Int) - ts).toNat + nt)
section
variable {prog : Program} {w : World} {A : Around} {E : Value → Shared → Prop} {s : Shared} {Q : Value → Shared → Prop}
theorem lenT {t : Addr} {vs : List Value} {cs : List Int} (ht : IsTup s.heap t vs.toArray) (hi : IntsAre vs cs) (hl : cs.length ≤ 1000)
    (h : Q (.int cs.length (s.toks + 1)) { s with toks := s.toks + 1 + 1 }) : wpAny (model prog w) A (call (.builtin "len") [.ref t]) Q E s :=
  len_tuple ht (by rw [List.size_toArray, hi.length]; omega) (by rw [List.size_toArray, hi.length]; exact h)
theorem lenL {t : Addr} {vs : List Value} {n : Nat} (ht : s.heap.IsList t vs.toArray) (e : vs.length = n) (hl : n ≤ 1000)
    (h : Q (.int n (s.toks + 1)) { s with toks := s.toks + 1 + 1 }) : wpAny (model prog w) A (call (.builtin "len") [.ref t]) Q E s :=
  len_list ht (by rw [List.size_toArray, e]; omega) (by rw [List.size_toArray, e]; exact h)
theorem subT {t : Addr} {vs : List Value} {k : Int} {u : Tok} {x : Value} {value slice : PySem.Expr} (ht : IsTup s.heap t vs.toArray) (h0 : 0 ≤ k) (hz : k < 2 ^ 62) (hx : vs[k.toNat]? = some x) (h : Q x s)
    (hs : subscripted slice false (.ref t) (.int k u) = operate [.ref t, .int k u] (getItem (.ref t) (.int k u)) := by with_unfolding_all rfl) : wpAny (model prog w) A (subscriptTail value slice (.ref t) (.int k u)) Q E s := by
  have hlt : k.toNat < vs.length := (List.getElem?_eq_some_iff.mp hx).1
  refine item_tupleT (l := vs) ht (by omega) (by omega) (j := k.toNat) ?_ (by simpa using hx) h hs
  unfold seqIndex?
  simp only [show ¬ k < 0 by omega, if_false]
  rw [if_pos (by simp only [Bool.and_eq_true, decide_eq_true_eq]; omega)]
end
end Mine
namespace Mine
theorem ilStep {ts c : Int} {i : Nat} (hts : 1 ≤ ts) (h : ts + (i : Int) ≤ 3) (hc : 0 ≤ c ∧ c ≤ 20) : 0 ≤ (ts + (i : Int)).fdiv ts * c ∧ (ts + (i : Int)).fdiv ts * c ≤ 60 := by
  rw [Int.fdiv_eq_ediv_of_nonneg _ (by omega)]
  have h1 : 0 ≤ (ts + (i : Int)) / ts := Int.ediv_nonneg (by omega) (by omega)
  have h2 : (ts + (i : Int)) / ts ≤ 3 := Int.le_trans (Int.ediv_le_self _ (by omega)) h
  exact ⟨Int.mul_nonneg h1 hc.1, Int.le_trans (Int.mul_le_mul h2 hc.2 hc.1 (by decide)) (by decide)⟩
end Mine
namespace Mine
def lrsF (cs : List Int) (b : Int) : Int := if b > (cs.length : Int) - 1 then b else (cs.length : Int) - 1
theorem lrsB {cs : List Int} {b : Int} (h : cs.length ≤ 3) (hb : 0 ≤ b ∧ b ≤ 4) : 0 ≤ lrsF cs b ∧ lrsF cs b ≤ 4 := by
  unfold lrsF; split <;> omega
/-- what less says -/
def LessP (n1 nt1 b1 : Int) (cs1 : List Int) (n2 nt2 b2 : Int) (cs2 : List Int) : Prop :=
  n1 < n2 ∧ (if cs1.length ≤ 1 ∧ cs2.length ≤ 1 then nt1 ≤ nt2 else ∀ ts : Int, 2 ≤ ts → ts ≤ (if lrsF cs2 b2 > lrsF cs1 b1 then lrsF cs2 b2 else lrsF cs1 b1) + 1 → indF ts nt1 b1 cs1 < indF ts nt2 b2 cs2)
def LessOut (P : Prop) (r : Value) : Prop := ∃ v : Bool, r = .bool v ∧ (v = true ↔ P)
theorem LessOut.no {P : Prop} (h : ¬ P) : LessOut P (.bool false) := ⟨false, rfl, ⟨fun h' => (Bool.false_ne_true h').elim, fun h' => absurd h' h⟩⟩
theorem LessOut.yes {P : Prop} (h : P) : LessOut P (.bool true) := ⟨true, rfl, ⟨fun _ => h, fun _ => rfl⟩⟩
end Mine
namespace Mine
section
variable {n1 nt1 b1 : Int} {cs1 : List Int} {n2 nt2 b2 : Int} {cs2 : List Int}
theorem less_no1 (h : n2 ≤ n1) : LessOut (LessP n1 nt1 b1 cs1 n2 nt2 b2 cs2) (.bool false) := .no fun hl => absurd hl.1 (by omega)
theorem less_simple (h : ¬ n2 ≤ n1) (h1 : cs1.length ≤ 1) (h2 : cs2.length ≤ 1) : LessOut (LessP n1 nt1 b1 cs1 n2 nt2 b2 cs2) (.bool (decide (nt1 ≤ nt2))) := by
  have e : LessP n1 nt1 b1 cs1 n2 nt2 b2 cs2 ↔ nt1 ≤ nt2 := by
    unfold LessP
    rw [if_pos ⟨h1, h2⟩]
    exact ⟨fun x => x.2, fun x => ⟨by omega, x⟩⟩
  by_cases hd : nt1 ≤ nt2
  · rw [decide_eq_true hd]; exact .yes (e.mpr hd)
  · rw [decide_eq_false hd]; exact .no fun x => hd (e.mp x)
theorem less_no2 {i : Nat} (hs : ¬ (cs1.length ≤ 1 ∧ cs2.length ≤ 1)) (hi : i < ((if lrsF cs2 b2 > lrsF cs1 b1 then lrsF cs2 b2 else lrsF cs1 b1) + 1 + 1 - 2).toNat) (h : indF (2 + (i : Int)) nt2 b2 cs2 ≤ indF (2 + (i : Int)) nt1 b1 cs1) :
    LessOut (LessP n1 nt1 b1 cs1 n2 nt2 b2 cs2) (.bool false) := .no fun hl => by
  have h2 := hl.2
  rw [if_neg hs] at h2
  have := h2 (2 + (i : Int)) (by omega) (by omega)
  omega
theorem less_yes (h : ¬ n2 ≤ n1) (hs : ¬ (cs1.length ≤ 1 ∧ cs2.length ≤ 1)) (hall : ∀ j : Nat, j < ((if lrsF cs2 b2 > lrsF cs1 b1 then lrsF cs2 b2 else lrsF cs1 b1) + 1 + 1 - 2).toNat → indF (2 + (j : Int)) nt1 b1 cs1 < indF (2 + (j : Int)) nt2 b2 cs2) :
    LessOut (LessP n1 nt1 b1 cs1 n2 nt2 b2 cs2) (.bool true) := .yes ⟨by omega, by
  rw [if_neg hs]
  intro ts h1 h2
  have := hall (ts - 2).toNat (by omega)
  rwa [show (2 : Int) + ((ts - 2).toNat : Int) = ts by omega] at this⟩
end
end Mine

namespace Mine
/-! a for whose name is a cell -/
def TPC {σ : Type} (h₀ : Heap) (L I : Addr) (o : Obj) (cc : Addr) (Led : σ → List (Addr × Obj)) (m₀ : Str → Option Value) (P : σ → Prop) (s₁ : Shared) (Q : Flow → Shared → Prop) (f : Flow) (s₂ : Shared) : Prop :=
  match f with
  | .ret v => Q (.ret v) s₂
  | .brk => Q .next s₂
  | _ => ∃ (c : σ) (h' : Heap) (tk : Nat) (oc : Obj) (v : Option Value), s₂ = { s₁ with heap := h', toks := tk } ∧ Fr h₀ L h' m₀ ∧ News h₀ L h' ((I, o) :: (cc, oc) :: Led c) ∧ oc.data = .cell v ∧ (∀ p ∈ Led c, p.1 ≠ I ∧ p.1 ≠ cc) ∧ P c
theorem TPC.next {σ : Type} {h₀ : Heap} {L I cc : Addr} {o oc : Obj} {Led : σ → List (Addr × Obj)} {m₀ : Str → Option Value} {P : σ → Prop} {s₁ : Shared} {Q : Flow → Shared → Prop} {h' : Heap} {tk : Nat} {news : List (Addr × Obj)} {v : Option Value} (c : σ)
    (F : Fr h₀ L h' m₀) (N : News h₀ L h' news) (hn : ∀ p ∈ (I, o) :: (cc, oc) :: Led c, p ∈ news) (hd : oc.data = .cell v) (hI : ∀ p ∈ Led c, p.1 ≠ I ∧ p.1 ≠ cc) (hP : P c) :
    TPC h₀ L I o cc Led m₀ P s₁ Q .next { s₁ with heap := h', toks := tk } := ⟨c, h', tk, oc, v, rfl, F, fun p q => N p (hn p q), hd, hI, hP⟩

theorem loopCell {prog : Program} {w : World} {A : Around} {E : Value → Shared → Prop} {s : Shared} {env : Env} {h₀ : Heap} {x : Str} {px : Pos} {body : List Stmt} {Q : Flow → Shared → Prop}
    {σ : Type} {l cc : Addr} {items : Array Value} {m₀ : Str → Option Value} {oc₀ : Obj} {v₀ : Option Value} (Led : σ → List (Addr × Obj)) (P : Nat → σ → Prop) (c₀ : σ)
    (hk : env.scope.kind = .function) (hx : env.kindOf x = some .cell) (hc : env.cells.lookup x = some cc)
    (hh : A.handled = none) (hl : h₀.IsList l items)
    (F : Fr h₀ env.locals s.heap m₀) (N : News h₀ env.locals s.heap ((cc, oc₀) :: Led c₀)) (hd : oc₀.data = .cell v₀) (hoff : ∀ p ∈ Led c₀, p.1 ≠ cc) (hp : P 0 c₀)
    (turn : ∀ (c : σ) i v I h tk o oc, i < items.size → items[i]? = some v → P i c → (∀ p ∈ Led c, p.1 ≠ I ∧ p.1 ≠ cc) → oc.data = .cell (some v) → I ≠ cc → Fr h₀ env.locals h m₀ → News h₀ env.locals h ((I, o) :: (cc, oc) :: Led c) →
      wpAny (model prog w) A (execs body env) (TPC h₀ env.locals I o cc Led m₀ (P (i + 1)) { s with heap := h, toks := tk } Q) (fun _ _ => False) { s with heap := h, toks := tk })
    (done : ∀ (c : σ) oc v h tk, P items.size c → Fr h₀ env.locals h m₀ → News h₀ env.locals h ((cc, oc) :: Led c) → oc.data = .cell v → (∀ p ∈ Led c, p.1 ≠ cc) → Q .next { s with heap := h, toks := tk }) :
    wpAny (model prog w) A (pyIter (.ref l)) (fun it s₂ => codeAny (model prog w) A (.forLoop (.Name x px) it body [] env) (fun r s' => match r with | .ok f => Q f s' | .error e => cameBackBy (model prog w) A env E e s') s₂) E s := by
  have hls : s.heap.IsList l items := hl.at fun o e => F.keep l o e
  obtain ⟨ol, hol, _⟩ := id hl
  have hlt : l < h₀.objs.size := Heap.lt_size hol
  have hne : l ≠ s.heap.objs.size := Nat.ne_of_lt (Nat.lt_trans (Nat.lt_of_lt_of_le hlt F.above) F.ns.lt)
  have hcc := N (cc, oc₀) (.head _)
  have hIc : s.heap.objs.size ≠ cc := fun e => absurd (Heap.lt_size hcc.1) (by rw [← e]; exact Nat.lt_irrefl _)
  have hIL : s.heap.objs.size ≠ env.locals := fun e => absurd F.ns.lt (by rw [← e]; exact Nat.lt_irrefl _)
  have hlc : l ≠ cc := fun e => by rw [e, hcc.2.2] at hol; cases hol
  have hlL : l ≠ env.locals := fun e => absurd (Nat.lt_of_lt_of_le hlt F.above) (by rw [e]; exact Nat.lt_irrefl _)
  have hI0 : h₀.get? s.heap.objs.size = none := none_at_size F
  refine wpAny_pyIter_list hls ?_
  have W := Walks.list (prog := prog) (w := w) hh s.heap.objs.size l hne items
  refine codeAny_forLoop
    (fun n s' => ∃ h' tk i c oc v, s' = { s with heap := h', toks := tk } ∧ h'.IsListIter s.heap.objs.size l i ∧ Fr h₀ env.locals h' m₀ ∧ News h₀ env.locals h' ((cc, oc) :: Led c) ∧ oc.data = .cell v ∧ (∀ p ∈ Led c, p.1 ≠ s.heap.objs.size ∧ p.1 ≠ cc) ∧ P i c ∧ i ≤ items.size ∧ n = items.size + 1 - i)
    ?_ (items.size + 1) ⟨_, s.toks, 0, c₀, oc₀, v₀, rfl, ⟨_, Heap.get?_push_size _ rfl, rfl, rfl⟩, F.push _, fun p hp => ⟨Heap.get?_push_of_some _ (N p hp).1, (N p hp).2⟩, hd, fun p hp => ⟨fun e => absurd (Heap.lt_size (N p (.tail _ hp)).1) (e ▸ Nat.lt_irrefl _), hoff p hp⟩, hp, Nat.zero_le _, rfl⟩
  rintro n s' ⟨h', tk, i, c, oc, v', rfl, hit, F', N', hd', hoff', hP, hi, rfl⟩
  have hl' : h'.IsList l items := hl.at fun o e => F'.keep l o e
  have keepI : ∀ h₁ : Heap, (∀ b o, b ≠ s.heap.objs.size → h'.get? b = some o → h₁.get? b = some o) → Fr h₀ env.locals h₁ m₀ ∧ News h₀ env.locals h₁ ((cc, oc) :: Led c) := fun h₁ k =>
    ⟨⟨F'.ns.at' fun o e => k _ o (Ne.symm hIL) e, fun b o e => k b o (fun q => by rw [q, hI0] at e; cases e) (F'.keep b o e), F'.above⟩, fun p hp => ⟨k _ _ (by
      rcases List.mem_cons.mp hp with rfl | hp
      · exact Ne.symm hIc
      · exact (hoff' p hp).1) (N' p hp).1, (N' p hp).2⟩⟩
  by_cases hlt' : i < items.size
  · refine wpAny_pyNext_list_item hit hl' (x := items[i]) (by simp [hlt']) fun h₁ hit₁ hs₁ => ?_
    obtain ⟨F₁, N₁⟩ := keepI h₁ fun b o hb e => hs₁.extBut b o hb e
    have C₁ : h₁.IsCell cc v' := ⟨oc, (N₁ _ (.head _)).1, hd'⟩
    refine wpAny_assign_Name (wpAny_storeName_cell hk hx hc C₁ fun h₂ hv₂ hs₂ => ?_)
    obtain ⟨oc₂, ho₂, hd₂⟩ := hv₂
    have hcL : cc ≠ env.locals := hcc.2.1
    have F₂ : Fr h₀ env.locals h₂ m₀ := ⟨F₁.ns.sameBut hs₂ (Ne.symm hcL), fun b o e => hs₂.extBut b o (fun q => by rw [q, hcc.2.2] at e; cases e) (F₁.keep b o e), F₁.above⟩
    have hit₂ : h₂.IsListIter s.heap.objs.size l (i + 1) := hit₁.extBut hs₂.extBut hIc
    obtain ⟨oI, hoI, rI⟩ := id hit₂
    have N₂ : News h₀ env.locals h₂ ((s.heap.objs.size, oI) :: (cc, oc₂) :: Led c) := fun p hp => by
      rcases List.mem_cons.mp hp with rfl | hp
      · exact ⟨hoI, hIL, hI0⟩
      · rcases List.mem_cons.mp hp with rfl | hp
        · exact ⟨ho₂, hcL, hcc.2.2⟩
        · exact ⟨hs₂.extBut _ _ (hoff' p hp).2 (N₁ p (.tail _ hp)).1, (N₁ p (.tail _ hp)).2⟩
    refine wpAny_mono (turn c i items[i] _ h₂ _ oI oc₂ hlt' (by simp [hlt']) hP hoff' hd₂ hIc F₂ N₂) (fun f s₃ h₃ => ?_) fun _ _ e => e.elim
    have fin : (∃ (c : σ) (h' : Heap) (tk : Nat) (oc : Obj) (v : Option Value), s₃ = { s with heap := h', toks := tk } ∧ Fr h₀ env.locals h' m₀ ∧ News h₀ env.locals h' ((s.heap.objs.size, oI) :: (cc, oc) :: Led c) ∧ oc.data = .cell v ∧ (∀ p ∈ Led c, p.1 ≠ s.heap.objs.size ∧ p.1 ≠ cc) ∧ P (i + 1) c) → ∃ k, k < items.size + 1 - i ∧ ∃ h' tk i c oc v, s₃ = { s with heap := h', toks := tk } ∧ h'.IsListIter s.heap.objs.size l i ∧ Fr h₀ env.locals h' m₀ ∧ News h₀ env.locals h' ((cc, oc) :: Led c) ∧ oc.data = .cell v ∧ (∀ p ∈ Led c, p.1 ≠ s.heap.objs.size ∧ p.1 ≠ cc) ∧ P i c ∧ i ≤ items.size ∧ k = items.size + 1 - i := by
      rintro ⟨c₃, h₃', tk₃, oc₃, v₃, rfl, F₃, N₃, hd₃, hoff₃, hP₃⟩
      exact ⟨items.size + 1 - (i + 1), by omega, h₃', tk₃, i + 1, c₃, oc₃, v₃, rfl, ⟨oI, (N₃ _ (.head _)).1, rI⟩, F₃, fun p hp => N₃ p (.tail _ hp), hd₃, hoff₃, hP₃, hlt', rfl⟩
    cases f with
    | ret v => exact h₃
    | brk => exact h₃
    | next => exact fin h₃
    | cont => exact fin h₃
  · have hin : i = items.size := by omega
    subst hin
    refine wpAny_pyNext_list_end hh hit hl' (by simp) fun h₁ he₁ => wpAny_execs_nil ?_
    obtain ⟨F₁, N₁⟩ := keepI h₁ fun b o hb e => he₁ b o hb e
    exact done c oc v' h₁ tk hP F₁ N₁ hd' fun p hp => (hoff' p hp).2

section
variable {prog : Program} {w : World} {A : Around} {h₀ : Heap} {L : Addr} {m : Str → Option Value} {env : Env} {elt : Expr} {x : Str} {scope : Scope} {cl : List (Str × Addr)} {s : Shared} {S : List (Addr × Obj) → Prop} {P : Nat → Value → Prop} {Fin : List Value → List (Addr × Obj) → Prop}
/-- a comprehension by an invariant J of what is gathered -/
theorem compInv {n : Nat} {news : List (Addr × Obj)} (J : Nat → List Value → List (Addr × Obj) → Prop) (h0 : J 0 [] news)
    (turn : ∀ i v I oI C oC D m₂ ys news h tk (E' : Value → Shared → Prop), i < n → P i v → J i ys news → LCg.NsObj oC m₂ → m₂ x = some v → Fr h₀ L h m → News h₀ L h ((I, oI) :: (C, oC) :: (D, LCg.lst ys) :: news) → LCg.Off3 I C D news → ((@Ne Nat I C) ∧ (@Ne Nat I D) ∧ (@Ne Nat C D)) →
      wpAny (model prog w) A (eval elt (compEnvC scope cl C env)) (LCg.CompEnd h₀ L m { s with heap := h, toks := tk } I oI C oC D (LCg.lst ys) S (fun y news' => J (i + 1) (ys ++ [y]) news')) E' { s with heap := h, toks := tk })
    (fin : ∀ ys news, J n ys news → Fin ys news) : LCg.CompRest prog w A h₀ L m env elt x scope cl s S P Fin n 0 [] news := by
  have key : ∀ (j i : Nat) (ys : List Value) (news : List (Addr × Obj)), i + j = n → J i ys news → LCg.CompRest prog w A h₀ L m env elt x scope cl s S P Fin j i ys news := by
    intro j
    induction j with
    | zero =>
      intro i ys news hi hy
      have e : i = n := by omega
      subst e
      exact LCg.CompRest.zero (fin ys news hy)
    | succ j ih =>
      intro i ys news hi hy
      refine LCg.CompRest.succ ?_
      intro v I oI C oC D m₂ h tk E' hv hC hx F N off ne
      refine wpAny_mono (turn i v I oI C oC D m₂ ys news h tk E' (by omega) hv hy hC hx F N off ne) (fun y s₂ hq => ?_) fun _ _ e => e
      obtain ⟨h', tk', nw, e, F', N', off', hS, hn⟩ := hq
      exact ⟨h', tk', nw, e, F', N', off', hS, ih (i + 1) _ nw (by omega) hn⟩
  exact key n 0 [] news (by omega) h0
end
end Mine

namespace Mine
/-! a comprehension whose name is a cell -/
section
variable {prog : Program} {w : World} {A : Around} {E : Value → Shared → Prop} {s : Shared} {h₀ : Heap} {L : Addr} {m : Str → Option Value} {env : Env}
theorem newEnvC {scope : Scope} {cl : List (Str × Addr)} {x : Str} {Q : Env → Shared → Prop}
    (hone : ∀ n, cellsFrom n scope.names cl = (x, n) :: cl) (hpush : ∀ h, pushCells h scope.names = h.push { cls := .type "cell", data := .cell none })
    (h : Q { scope, locals := s.heap.objs.size, globals := env.globals, cells := (x, s.heap.objs.size + 1) :: cl, qual := env.qual, func := none, code := env.code, frame := env.frame, builtins := env.builtins }
      { s with heap := (s.heap.push { cls := .type "dict", data := .dict #[] }).push { cls := .type "cell", data := .cell none } }) :
    wpAny (model prog w) A (newFunctionEnv scope env.globals cl [] env.qual none .none (some env)) Q E s := by
  simp only [newFunctionEnv, Option.isSome_some, if_true]
  refine wpAny_bind (wpAny_alloc ?_)
  refine wpAny_bind (wpAny_layCells _ (fun name kind cells => by cases hkc : kind == NameKind.cell <;> simp [hkc]) _ _ _ _ ?_)
  rw [hone, hpush, show ({ s with heap := s.heap.push { cls := .type "dict", data := .dict #[] } } : Shared).heap.objs.size = s.heap.objs.size + 1 from Heap.size_push ..]
  rw [List.forIn_nil]
  exact wpAny_bind (wpAny_pure (wpAny_pure h))

def Off4 (I C c D : Addr) (l : List (Addr × Obj)) : Prop := ∀ p ∈ l, p.1 ≠ I ∧ p.1 ≠ C ∧ p.1 ≠ c ∧ p.1 ≠ D
def CompEndC (h₀ : Heap) (L : Addr) (m : Str → Option Value) (s₁ : Shared) (I C c D : Addr) (oI oC oc oD : Obj) (S : List (Addr × Obj) → Prop) (rest : Value → List (Addr × Obj) → Prop) (y : Value) (s₂ : Shared) : Prop :=
  ∃ h' tk news', s₂ = { s₁ with heap := h', toks := tk } ∧ Fr h₀ L h' m ∧ News h₀ L h' ((I, oI) :: (C, oC) :: (c, oc) :: (D, oD) :: news') ∧ Off4 I C c D news' ∧ S news' ∧ rest y news'
theorem CompEndC.intro {I C c D : Addr} {s₁ : Shared} {oI oC oc oD : Obj} {S : List (Addr × Obj) → Prop} {rest : Value → List (Addr × Obj) → Prop} {y : Value} {h' : Heap} {tk : Nat} {all : List (Addr × Obj)} (news' : List (Addr × Obj))
    (F : Fr h₀ L h' m) (N : News h₀ L h' all) (sub : ∀ p ∈ (I, oI) :: (C, oC) :: (c, oc) :: (D, oD) :: news', p ∈ all) (off : Off4 I C c D news') (hS : S news') (r : rest y news') :
    CompEndC h₀ L m s₁ I C c D oI oC oc oD S rest y { s₁ with heap := h', toks := tk } := ⟨h', tk, news', rfl, F, fun p hp => N p (sub p hp), off, hS, r⟩

def TurnC (prog : Program) (w : World) (A : Around) (h₀ : Heap) (L : Addr) (m : Str → Option Value) (env : Env) (elt : Expr) (x : Str) (scope : Scope) (cl : List (Str × Addr)) (s : Shared) (S : List (Addr × Obj) → Prop) (P : Nat → Value → Prop)
    (J : Nat → List Value → List (Addr × Obj) → Prop) (n : Nat) : Prop :=
  ∀ i v I C c D oI oC oc ys news h tk (E' : Value → Shared → Prop), i < n → P i v → J i ys news → S news → oc.data = .cell (some v) → Fr h₀ L h m → News h₀ L h ((I, oI) :: (C, oC) :: (c, oc) :: (D, LCg.lst ys) :: news) → Off4 I C c D news →
    ((@Ne Nat I C) ∧ (@Ne Nat I c) ∧ (@Ne Nat I D) ∧ (@Ne Nat C c) ∧ (@Ne Nat C D) ∧ (@Ne Nat c D)) →
    wpAny (model prog w) A (eval elt (compEnvC scope ((x, c) :: cl) C env)) (CompEndC h₀ L m { s with heap := h, toks := tk } I C c D oI oC oc (LCg.lst ys) S (fun y news' => J (i + 1) (ys ++ [y]) news')) E' { s with heap := h, toks := tk }

theorem block_C {elt iter : Expr} {x : Str} {px : Pos} {scope : Scope} {cl : List (Str × Addr)} {pos : Pos} {s₂ : Shared} {I : Addr} {fp : List Addr} {n : Nat} {P : Nat → Value → Prop} {St : Nat → Heap → Prop} {S : List (Addr × Obj) → Prop} {news : List (Addr × Obj)}
    {J : Nat → List Value → List (Addr × Obj) → Prop} {RR : Value → Addr → Result → Shared → Prop}
    (W : Walks prog w A I fp [I] n P St) (hsz : n ≤ sizeLine) (hIo : ∀ i h, St i h → ∃ o, h.get? I = some o)
    (hSt : ∀ i h h' o nw, St i h → h.get? I = some o → h'.get? I = some o → (∀ b o, h₀.get? b = some o → h'.get? b = some o) → News h₀ L h' nw → S nw → St i h')
    (hone : ∀ n, cellsFrom n scope.names cl = (x, n) :: cl) (hpush : ∀ h, pushCells h scope.names = h.push { cls := .type "cell", data := .cell none }) (hkind : scope.kind = .function)
    (hx : ∀ cl C, (compEnvC scope cl C env).kindOf x = some .cell) (hst : St 0 s₂.heap) (hfp : ∀ b ∈ fp, b < s₂.heap.objs.size)
    (F : Fr h₀ L s₂.heap m) (N : News h₀ L s₂.heap news) (hIL : L ≠ I) (hI₀ : h₀.get? I = none) (off : ∀ p ∈ news, p.1 ≠ I) (hS : S news)
    (hJ : J 0 [] news) (R : TurnC prog w A h₀ L m env elt x scope cl s₂ S P J n)
    (hRR : ∀ D C h tk m' ys news', Fr h₀ L h m → News h₀ L h ((D, LCg.lst ys) :: news') → (∀ p ∈ news', p.1 ≠ D) → h.Ns C m' → h₀.get? C = none → h₀.get? D = none → C ≠ L → D ≠ L → C ≠ D → (∀ p ∈ news', p.1 ≠ C) → J n ys news' → RR (.ref D) C (.ok .next) { s₂ with heap := h, toks := tk }) :
    wpAny (model prog w) A (newList []) (fun acc s₃ => wpAny (model prog w) A (newFunctionEnv scope env.globals cl [] env.qual none .none (some env)) (fun cenv s₄ =>
      codeAny (model prog w) A (.compStart (.ListComp elt [⟨.Name x px, iter, [], 0⟩] scope pos) 0 (.ref I) acc { cenv with scope := relabel scope env }) (RR acc cenv.locals) s₄) E s₃) E s₂ := by
  refine wpAny_newObj_type (newEnvC hone hpush ?_)
  dsimp only
  generalize hH2 : s₂.heap.push { cls := .type "list", dict := none, data := .seq ([] : List Value).toArray } = H2
  have hC : H2.objs.size = s₂.heap.objs.size + 1 := by rw [← hH2, Heap.size_push]
  generalize hh1 : (H2.push { cls := .type "dict", data := .dict #[] }).push { cls := .type "cell", data := .cell none } = h₁
  have hns₁ : h₁.Ns H2.objs.size (fun _ => none) := by
    rw [← hh1]
    exact (Heap.Ns.new H2 (.type "dict")).keeps fun b o e => Heap.get?_push_of_some _ e
  have hcell₁ : h₁.get? (H2.objs.size + 1) = some { cls := .type "cell", data := .cell none } := by
    rw [← hh1, show H2.objs.size + 1 = (H2.push { cls := .type "dict", data := .dict #[] }).objs.size from (Heap.size_push ..).symm]
    exact Heap.get?_push_size _ rfl
  have hDC : s₂.heap.objs.size ≠ H2.objs.size := by rw [hC]; exact Nat.ne_of_lt (Nat.lt_succ_self _)
  have hDc : s₂.heap.objs.size ≠ H2.objs.size + 1 := by rw [hC]; exact Nat.ne_of_lt (Nat.lt_succ_of_lt (Nat.lt_succ_self _))
  have hCc : H2.objs.size ≠ H2.objs.size + 1 := Nat.ne_of_lt (Nat.lt_succ_self _)
  have below : ∀ b, b < s₂.heap.objs.size → b ≠ H2.objs.size ∧ b ≠ H2.objs.size + 1 ∧ b ≠ s₂.heap.objs.size := fun b hb => ⟨by rw [hC]; exact Nat.ne_of_lt (Nat.lt_succ_of_lt hb), by rw [hC]; exact Nat.ne_of_lt (Nat.lt_succ_of_lt (Nat.lt_succ_of_lt hb)), Nat.ne_of_lt hb⟩
  have hDf : s₂.heap.objs.size ∉ fp := fun hm => Nat.lt_irrefl _ (hfp _ hm)
  have hcf : H2.objs.size + 1 ∉ fp := fun hm => (below _ (hfp _ hm)).2.1 rfl
  have hIf : I ∈ fp := W.sub I (List.mem_singleton.mpr rfl)
  have hIlt : I < s₂.heap.objs.size := hfp I hIf
  have old2 : ∀ b o, H2.get? b = some o → h₁.get? b = some o := fun b o e => by rw [← hh1]; exact Heap.get?_push_of_some _ (Heap.get?_push_of_some _ e)
  have old : ∀ b o, s₂.heap.get? b = some o → h₁.get? b = some o := fun b o e => old2 b o (hH2 ▸ Heap.get?_push_of_some _ e)
  have hacc : h₁.get? s₂.heap.objs.size = some (LCg.lst []) := old2 _ _ (hH2 ▸ Heap.get?_push_size _ rfl)
  have hst₁ : St 0 h₁ := W.frame _ _ _ hst fun b _ o e => old b o e
  have fresh : ∀ a, s₂.heap.objs.size ≤ a → s₂.heap.get? a = none := fun a ha => by
    cases e : s₂.heap.get? a with
    | none => rfl
    | some o' => exact absurd (Heap.lt_size e) (Nat.not_lt.mpr ha)
  have fresh₀ : ∀ a, s₂.heap.objs.size ≤ a → h₀.get? a = none := fun a ha => by
    cases e : h₀.get? a with
    | none => rfl
    | some o' => have := F.keep a o' e; rw [fresh a ha] at this; cases this
  have hD₀ : h₀.get? s₂.heap.objs.size = none := fresh₀ _ (Nat.le_refl _)
  have hC₀ : h₀.get? H2.objs.size = none := fresh₀ _ (by rw [hC]; exact Nat.le_succ _)
  have hc₀ : h₀.get? (H2.objs.size + 1) = none := fresh₀ _ (by rw [hC]; exact Nat.le_add_right _ 2)
  have hLlt : L < s₂.heap.objs.size := F.ns.lt
  have hDL : s₂.heap.objs.size ≠ L := Ne.symm (below L hLlt).2.2
  have hCL : H2.objs.size ≠ L := Ne.symm (below L hLlt).1
  have hcL : H2.objs.size + 1 ≠ L := Ne.symm (below L hLlt).2.1
  have hCI : I ≠ H2.objs.size := (below I hIlt).1
  have hcI : I ≠ H2.objs.size + 1 := (below I hIlt).2.1
  have hDI : I ≠ s₂.heap.objs.size := (below I hIlt).2.2
  have off₀ : Off4 I H2.objs.size (H2.objs.size + 1) s₂.heap.objs.size news := fun p hp => ⟨off p hp, below _ (Heap.lt_size (N p hp).1)⟩
  have loop : ∀ s₃ : Shared, s₃ = { s₂ with heap := h₁ } →
      codeAny (model prog w) A (.compLoop (.ListComp elt [⟨.Name x px, iter, [], 0⟩] scope pos) 0 (.ref I) (.ref s₂.heap.objs.size) (compEnvC scope ((x, H2.objs.size + 1) :: cl) H2.objs.size env))
        (RR (.ref s₂.heap.objs.size) H2.objs.size) s₃ := by
    rintro s₃ rfl
    refine codeAny_compLoop_tests
      (fun k s' => ∃ h' tk i ys oc v news', s' = { s₂ with heap := h', toks := tk } ∧ i ≤ n ∧ k = n + 1 - i ∧ ys.length = i ∧ St i h' ∧ Fr h₀ L h' m ∧ (∃ m', h'.Ns H2.objs.size m') ∧ News h₀ L h' ((H2.objs.size + 1, oc) :: (s₂.heap.objs.size, LCg.lst ys) :: news') ∧ oc.data = .cell v ∧
        Off4 I H2.objs.size (H2.objs.size + 1) s₂.heap.objs.size news' ∧ S news' ∧ J i ys news') ?_ (n + 1)
      ⟨h₁, _, 0, [], { cls := .type "cell", data := .cell none }, none, news, rfl, Nat.zero_le _, rfl, rfl, hst₁, F.keeps old, ⟨_, hns₁⟩, fun p hp => ?_, rfl, off₀, hS, hJ⟩
    · rintro k s' ⟨h', tk, i, ys, oc, v', news', rfl, hi, rfl, hyl, hst', F', ⟨m', hn'⟩, N', hd', off', hS', R'⟩
      by_cases hlt : i < n
      · refine W.item i _ _ _ hlt hst' fun v h₂ tk₂ hPv hst₂ hk₂ => ?_
        have N₂ : News h₀ L h₂ ((H2.objs.size + 1, oc) :: (s₂.heap.objs.size, LCg.lst ys) :: news') := LCg.news_but N' hk₂ fun p hp => by
          rcases List.mem_cons.mp hp with rfl | hp
          · exact Ne.symm hcI
          · rcases List.mem_cons.mp hp with rfl | hp
            · exact Ne.symm hDI
            · exact (off' p hp).1
        refine wpAny_assign_Name (wpAny_storeName_cell (c := H2.objs.size + 1) (by simp [compEnvC, relabel, hkind]) (hx _ _) (by simp [compEnvC]) ⟨oc, (N₂ _ (.head _)).1, hd'⟩ (fun h₃ hv₃ hs₃ => ?_))
        refine wpAny_tests_nil ?_
        simp only [if_true]
        obtain ⟨oc₃, ho₃, hd₃⟩ := hv₃
        have hst₃ : St (i + 1) h₃ := W.frame _ _ _ hst₂ fun b hb o e => hs₃.extBut b o (fun q => hcf (by have q' : b = H2.objs.size + 1 := q; rw [← q']; exact hb)) e
        obtain ⟨oI, heI⟩ := hIo _ _ hst₃
        have hn₃ : h₃.Ns H2.objs.size m' := (hn'.at' fun o e => hk₂ _ o (by simpa using Ne.symm hCI) e).sameBut hs₃ hCc
        obtain ⟨oC, heC, hoC⟩ := LCg.ns_obj hn₃
        have F₃ : Fr h₀ L h₃ m := (LCg.fr_but F' hk₂ hIL hI₀).change hs₃ hcL hc₀
        have N₃ : News h₀ L h₃ ((I, oI) :: (H2.objs.size, oC) :: (H2.objs.size + 1, oc₃) :: (s₂.heap.objs.size, LCg.lst ys) :: news') := fun p hp => by
          rcases List.mem_cons.mp hp with rfl | hp
          · exact ⟨heI, Ne.symm hIL, hI₀⟩
          · rcases List.mem_cons.mp hp with rfl | hp
            · exact ⟨heC, hCL, hC₀⟩
            · rcases List.mem_cons.mp hp with rfl | hp
              · exact ⟨ho₃, hcL, hc₀⟩
              · have z := N₂ p (.tail _ hp)
                refine ⟨hs₃.extBut _ _ ?_ z.1, z.2⟩
                rcases List.mem_cons.mp hp with rfl | hp
                · exact hDc
                · exact (off' p hp).2.2.1
        refine wpAny_mono (R i v I H2.objs.size (H2.objs.size + 1) s₂.heap.objs.size oI oC oc₃ ys news' h₃ _ _ hlt hPv R' hS' hd₃ F₃ N₃ off' ⟨hCI, hcI, hDI, hCc, Ne.symm hDC, Ne.symm hDc⟩) (fun y s₄ h₄ => ?_) fun _ _ e => e
        obtain ⟨h₄, tk₄, news₄, rfl, F₄, N₄, off₄, hS₄, R₄⟩ := h₄
        have zI := (N₄ (I, oI) (.head _)).1
        have zC := (N₄ (H2.objs.size, oC) (.tail _ (.head _))).1
        have zc := (N₄ (H2.objs.size + 1, oc₃) (.tail _ (.tail _ (.head _)))).1
        have zD := (N₄ (s₂.heap.objs.size, LCg.lst ys) (.tail _ (.tail _ (.tail _ (.head _))))).1
        have N₄' : News h₀ L h₄ news₄ := fun p hp => N₄ p (.tail _ (.tail _ (.tail _ (.tail _ hp))))
        have hst₄ : St (i + 1) h₄ := hSt _ _ _ _ _ hst₃ heI zI F₄.keep N₄' hS₄
        refine append_at (hsz := by show ys.toArray.size ≤ sizeLine; rw [List.size_toArray, hyl]; exact Nat.le_trans hi hsz) zD fun h₅ hs₅ hD₅ => ?_
        refine ⟨n + 1 - (i + 1), by omega, h₅, tk₄, i + 1, ys ++ [y], oc₃, _, news₄, rfl, hlt, rfl, by rw [List.length_append, List.length_singleton, hyl], W.frame _ _ _ hst₄ fun b hb o e => hs₅.extBut b o (fun q => hDf (q ▸ hb)) e, F₄.change hs₅ hDL hD₀,
          ⟨_, (hoC.ns zC).sameBut hs₅ (Ne.symm hDC)⟩, fun p hp => ?_, hd₃, off₄, hS₄, R₄⟩
        rcases List.mem_cons.mp hp with rfl | hp
        · exact ⟨hs₅.extBut _ _ (Ne.symm hDc) zc, hcL, hc₀⟩
        · rcases List.mem_cons.mp hp with rfl | hp
          · exact ⟨hD₅.trans (congrArg some (LCg.lst_snoc ys y)), hDL, hD₀⟩
          · exact ⟨hs₅.extBut _ _ (off₄ p hp).2.2.2 (N₄' p hp).1, (N₄' p hp).2⟩
      · obtain rfl : i = n := Nat.le_antisymm hi (Nat.not_lt.mp hlt)
        refine W.done _ _ _ hst' fun h₂ tk₂ hk₂ => ?_
        exact hRR _ _ h₂ tk₂ _ ys news' (LCg.fr_but F' hk₂ hIL hI₀) (LCg.news_but (fun p hp => N' p (.tail _ hp)) hk₂ fun p hp => by
          rcases List.mem_cons.mp hp with rfl | hp
          · exact Ne.symm hDI
          · exact (off' p hp).1) (fun p hp => (off' p hp).2.2.2) (hn'.at' fun o e => hk₂ _ o (by simpa using Ne.symm hCI) e) hC₀ hD₀ hCL hDL (Ne.symm hDC) (fun p hp => (off' p hp).2.1) R'
    · rcases List.mem_cons.mp hp with rfl | hp
      · exact ⟨hcell₁, hcL, hc₀⟩
      · rcases List.mem_cons.mp hp with rfl | hp
        · exact ⟨hacc, hDL, hD₀⟩
        · exact ⟨old _ _ (N p hp).1, (N p hp).2⟩
  exact codeAny_compStart_list (loop _ rfl) (W.self 0 _ _ _ hst₁ (loop _ rfl))

/-- the goal at the iterable of a comprehension whose name is a cell: the source, an invariant, the turn, the end -/
def CompSrcC (prog : Program) (w : World) (A : Around) (h₀ : Heap) (L : Addr) (m : Str → Option Value) (env : Env) (elt : Expr) (x : Str) (scope : Scope) (cl : List (Str × Addr)) (Q : Value → Shared → Prop) (xv : Value) (s₁ : Shared) : Prop :=
  ∃ (news : List (Addr × Obj)) (S : List (Addr × Obj) → Prop) (P : Nat → Value → Prop) (J : Nat → List Value → List (Addr × Obj) → Prop) (n : Nat), A.handled = none ∧ Fr h₀ L s₁.heap m ∧ News h₀ L s₁.heap news ∧ n ≤ sizeLine ∧ S news ∧ J 0 [] news ∧
    ((∃ ax its, xv = .ref ax ∧ S = LCg.SrcAt h₀ ax its ∧ n = its.size ∧ P = fun i v => its[i]? = some v) ∨
     (∃ r a b t u v, xv = .ref r ∧ S = (fun _ => True) ∧ IsRange s₁.heap r a b 1 t u v ∧ Builtin.Range.small a b 1 = true ∧ Builtin.Range.rangeSize a b 1 = ((n : Nat) : Int) ∧ P = fun i v => ∃ t, v = .int (a + (i : Int)) t)) ∧
    ∀ g, TurnC prog w A h₀ L m env elt x scope cl { s₁ with heap := g } S P J n ∧
      ∀ D h tk ys news', J n ys news' → Fr h₀ L h m → News h₀ L h ((D, LCg.lst ys) :: news') → (∀ p ∈ news', p.1 ≠ D) → Q (.ref D) { s₁ with heap := h, toks := tk }

theorem ListComp_C {elt iter : Expr} {x : Str} {px : Pos} {scope : Scope} {cl : List (Str × Addr)} {pos : Pos} {Q : Value → Shared → Prop} (F₀ : Fr h₀ L s.heap m)
    (hclos : closureFor scope env = pure cl) (hone : ∀ n, cellsFrom n scope.names cl = (x, n) :: cl) (hpush : ∀ h, pushCells h scope.names = h.push { cls := .type "cell", data := .cell none }) (hkind : scope.kind = .function)
    (hnames : ∀ y ∈ scope.names, y.2 = .local → scope.names.lookup y.1 = some .local) (hx : ∀ cl C, (compEnvC scope cl C env).kindOf x = some .cell)
    (h : wpAny (model prog w) A (eval iter env) (CompSrcC prog w A h₀ L m env elt x scope cl Q) E s)
    (hs : ∀ x, foldedSetIterable iter env x = pure x := by intro _; rfl) :
    wpAny (model prog w) A (eval (.ListComp elt [⟨.Name x px, iter, [], 0⟩] scope pos) env) Q E s := by
  rw [eval_ListComp]
  refine wpAny_comprehension_free (use := none) rfl hs hclos hkind hnames (wpAny_mono h (fun xv s₁ h₁ => ?_) fun _ _ e => e)
  obtain ⟨news, S, P, J, n, hh, F, N, hsz, hS, hJ, src, R⟩ := h₁
  rcases src with ⟨ax, its, rfl, rfl, rfl, rfl⟩ | ⟨r, a, b, t, u, v, rfl, rfl, hr, hsm, hn, rfl⟩
  · have hl := hS.list F.keep N
    have hlt : ax < s₁.heap.objs.size := by obtain ⟨_, e, _⟩ := hl; exact Heap.lt_size e
    refine wpAny_pyIter_list hl ?_
    have up : ∀ b o, s₁.heap.get? b = some o → (s₁.heap.push { cls := .type "list_iterator", data := .fields #[.ref ax, .int 0 0] }).get? b = some o := fun b o e => Heap.get?_push_of_some _ e
    refine block_C (Walks.list hh s₁.heap.objs.size ax (Nat.ne_of_lt hlt) its) hsz (fun i h st => by obtain ⟨o, e, _⟩ := st.1; exact ⟨o, e⟩) LCg.list_st hone hpush hkind hx ⟨⟨_, Heap.get?_push_size _ rfl, rfl, rfl⟩, hl.push _⟩ (fun b hb => ?_)
      (F.keeps up) (N.grown up) (Nat.ne_of_lt F.ns.lt) (next_is_new F) (fun p hp => Nat.ne_of_lt (Heap.lt_size (N p hp).1)) hS hJ (R _).1 ?_
    · show b < (s₁.heap.push _).objs.size
      rw [Heap.size_push]
      rcases List.mem_cons.mp hb with rfl | hb
      · exact Nat.lt_succ_self _
      · rw [List.mem_singleton.mp hb]; exact Nat.lt_succ_of_lt hlt
    · intro D C h tk m' ys news' F' N' o1 hn hC₀ hD₀ hCL hDL hCD offC fin
      refine ⟨m', hn, fun h'' hs'' => (R h'').2 D h'' tk ys news' fin (F'.change hs'' hCL hC₀) (fun p hp => ?_) o1⟩
      refine ⟨hs''.extBut _ _ ?_ (N' p hp).1, (N' p hp).2⟩
      rcases List.mem_cons.mp hp with rfl | hp
      · exact Ne.symm hCD
      · exact offC p hp
  · refine wpAny_pyIter_range hr hsm ?_
    refine block_C (LCg.range_walks hh a n) hsz (fun i h st => ⟨_, st⟩) LCg.range_st hone hpush hkind hx (by show IsRangeIter _ _ _ _ _; rw [hn]; simpa using Heap.get?_push_size _ rfl) (fun b hb => ?_)
      (F.keeps fun _ _ e => Heap.get?_push_of_some _ e) (N.grown fun _ _ e => Heap.get?_push_of_some _ e) (Nat.ne_of_lt F.ns.lt) (next_is_new F) (fun p hp => Nat.ne_of_lt (Heap.lt_size (N p hp).1)) trivial hJ (R _).1 ?_
    · rw [List.mem_singleton.mp hb]
      show s₁.heap.objs.size < (s₁.heap.push _).objs.size
      rw [Heap.size_push]; exact Nat.lt_succ_self _
    · intro D C h tk m' ys news' F' N' o1 hn hC₀ hD₀ hCL hDL hCD offC fin
      refine ⟨m', hn, fun h'' hs'' => (R h'').2 D h'' tk ys news' fin (F'.change hs'' hCL hC₀) (fun p hp => ?_) o1⟩
      refine ⟨hs''.extBut _ _ ?_ (N' p hp).1, (N' p hp).2⟩
      rcases List.mem_cons.mp hp with rfl | hp
      · exact Ne.symm hCD
      · exact offC p hp

theorem CompSrcC.base {elt : Expr} {x : Str} {scope : Scope} {cl : List (Str × Addr)} {Q : Value → Shared → Prop} {ax : Addr} {its : Array Value} {news : List (Addr × Obj)} {s₁ : Shared} (J : Nat → List Value → List (Addr × Obj) → Prop)
    (hh : A.handled = none) (F : Fr h₀ L s₁.heap m) (N : News h₀ L s₁.heap news) (hl : h₀.IsList ax its) (hsz : its.size ≤ sizeLine) (hJ : J 0 [] news)
    (turn : ∀ g, TurnC prog w A h₀ L m env elt x scope cl { s₁ with heap := g } (LCg.SrcAt h₀ ax its) (fun i v => its[i]? = some v) J its.size)
    (fin : ∀ D h tk ys news', J its.size ys news' → Fr h₀ L h m → News h₀ L h ((D, LCg.lst ys) :: news') → (∀ p ∈ news', p.1 ≠ D) → Q (.ref D) { s₁ with heap := h, toks := tk }) :
    CompSrcC prog w A h₀ L m env elt x scope cl Q (.ref ax) s₁ := ⟨news, _, _, J, _, hh, F, N, hsz, .inl hl, hJ, .inl ⟨ax, its, rfl, rfl, rfl, rfl⟩, fun g => ⟨turn g, fin⟩⟩
theorem CompSrcC.ledger {elt : Expr} {x : Str} {scope : Scope} {cl : List (Str × Addr)} {Q : Value → Shared → Prop} {ax : Addr} {its : Array Value} {k : Nat} {news : List (Addr × Obj)} {s₁ : Shared} (J : Nat → List Value → List (Addr × Obj) → Prop)
    (hh : A.handled = none) (F : Fr h₀ L s₁.heap m) (N : News h₀ L s₁.heap news) (hm : (ax, listOf its k) ∈ news) (hsz : its.size ≤ sizeLine) (hJ : J 0 [] news)
    (turn : ∀ g, TurnC prog w A h₀ L m env elt x scope cl { s₁ with heap := g } (LCg.SrcAt h₀ ax its) (fun i v => its[i]? = some v) J its.size)
    (fin : ∀ D h tk ys news', J its.size ys news' → Fr h₀ L h m → News h₀ L h ((D, LCg.lst ys) :: news') → (∀ p ∈ news', p.1 ≠ D) → Q (.ref D) { s₁ with heap := h, toks := tk }) :
    CompSrcC prog w A h₀ L m env elt x scope cl Q (.ref ax) s₁ := ⟨news, _, _, J, _, hh, F, N, hsz, .inr ⟨_, hm, rfl, _, rfl⟩, hJ, .inl ⟨ax, its, rfl, rfl, rfl, rfl⟩, fun g => ⟨turn g, fin⟩⟩
theorem CompSrcC.range {elt : Expr} {x : Str} {scope : Scope} {cl : List (Str × Addr)} {Q : Value → Shared → Prop} {r : Addr} {a b : Int} {t u v : Tok} {n : Nat} {news : List (Addr × Obj)} {s₁ : Shared} (J : Nat → List Value → List (Addr × Obj) → Prop)
    (hh : A.handled = none) (F : Fr h₀ L s₁.heap m) (N : News h₀ L s₁.heap news) (hr : IsRange s₁.heap r a b 1 t u v) (hsm : Builtin.Range.small a b 1 = true) (hn : Builtin.Range.rangeSize a b 1 = ((n : Nat) : Int)) (hsz : n ≤ sizeLine) (hJ : J 0 [] news)
    (turn : ∀ g, TurnC prog w A h₀ L m env elt x scope cl { s₁ with heap := g } (fun _ => True) (fun i v => ∃ t, v = .int (a + (i : Int)) t) J n)
    (fin : ∀ D h tk ys news', J n ys news' → Fr h₀ L h m → News h₀ L h ((D, LCg.lst ys) :: news') → (∀ p ∈ news', p.1 ≠ D) → Q (.ref D) { s₁ with heap := h, toks := tk }) :
    CompSrcC prog w A h₀ L m env elt x scope cl Q (.ref r) s₁ := ⟨news, _, _, J, n, hh, F, N, hsz, trivial, hJ, .inr ⟨r, a, b, t, u, v, rfl, rfl, hr, hsm, hn, rfl⟩, fun g => ⟨turn g, fin⟩⟩

theorem newsSwap {h : Heap} {a b : Addr × Obj} {r : List (Addr × Obj)} (N : News h₀ L h (a :: b :: r)) : News h₀ L h (b :: a :: r) := fun p hp => N p (by
  rcases List.mem_cons.mp hp with e | hp
  · exact e ▸ .tail _ (.head _)
  · rcases List.mem_cons.mp hp with e | hp
    · exact e ▸ .head _
    · exact .tail _ (.tail _ hp))
/-- plain values: the ledger stays -/
def TurnP (prog : Program) (w : World) (A : Around) (h₀ : Heap) (L : Addr) (m : Str → Option Value) (env : Env) (elt : Expr) (x : Str) (scope : Scope) (cl : List (Str × Addr)) (s : Shared) (S : List (Addr × Obj) → Prop) (news : List (Addr × Obj)) (P : Nat → Value → Prop)
    (J : Nat → List Value → Prop) (n : Nat) : Prop :=
  ∀ i v I C c D oI oC oc ys h tk (E' : Value → Shared → Prop), i < n → P i v → J i ys → oc.data = .cell (some v) → Fr h₀ L h m → News h₀ L h ((I, oI) :: (C, oC) :: (c, oc) :: (D, LCg.lst ys) :: news) → Off4 I C c D news →
    ((@Ne Nat I C) ∧ (@Ne Nat I c) ∧ (@Ne Nat I D) ∧ (@Ne Nat C c) ∧ (@Ne Nat C D) ∧ (@Ne Nat c D)) → S news →
    wpAny (model prog w) A (eval elt (compEnvC scope ((x, c) :: cl) C env)) (CompEndC h₀ L m { s with heap := h, toks := tk } I C c D oI oC oc (LCg.lst ys) S (fun y news' => news' = news ∧ J (i + 1) (ys ++ [y]))) E' { s with heap := h, toks := tk }
theorem turnP {elt : Expr} {x : Str} {scope : Scope} {cl : List (Str × Addr)} {S : List (Addr × Obj) → Prop} {news : List (Addr × Obj)} {P : Nat → Value → Prop} {J : Nat → List Value → Prop} {n : Nat} (t : TurnP prog w A h₀ L m env elt x scope cl s S news P J n) :
    TurnC prog w A h₀ L m env elt x scope cl s S P (fun i ys nw => nw = news ∧ J i ys) n := by
  rintro i v I C c D oI oC oc ys nw h tk E' hi hv ⟨rfl, hJ⟩ hS hd F N off ne
  exact t i v I C c D oI oC oc ys h tk E' hi hv hJ hd F N off ne hS
theorem CompSrcC.baseP {elt : Expr} {x : Str} {scope : Scope} {cl : List (Str × Addr)} {Q : Value → Shared → Prop} {ax : Addr} {its : Array Value} {news : List (Addr × Obj)} {s₁ : Shared} (J : Nat → List Value → Prop)
    (hh : A.handled = none) (F : Fr h₀ L s₁.heap m) (N : News h₀ L s₁.heap news) (hl : h₀.IsList ax its) (hsz : its.size ≤ sizeLine) (hJ : J 0 [])
    (turn : ∀ g, TurnP prog w A h₀ L m env elt x scope cl { s₁ with heap := g } (LCg.SrcAt h₀ ax its) news (fun i v => its[i]? = some v) J its.size)
    (fin : ∀ D h tk ys, J its.size ys → Fr h₀ L h m → News h₀ L h ((D, LCg.lst ys) :: news) → (∀ p ∈ news, p.1 ≠ D) → Q (.ref D) { s₁ with heap := h, toks := tk }) :
    CompSrcC prog w A h₀ L m env elt x scope cl Q (.ref ax) s₁ := CompSrcC.base (fun i ys nw => nw = news ∧ J i ys) hh F N hl hsz ⟨rfl, hJ⟩ (fun g => turnP (turn g)) (by
  rintro D h tk ys nw ⟨rfl, hj⟩ F' N' o
  exact fin D h tk ys hj F' N' o)
theorem CompSrcC.rangeP {elt : Expr} {x : Str} {scope : Scope} {cl : List (Str × Addr)} {Q : Value → Shared → Prop} {r : Addr} {a b : Int} {t u v : Tok} {n : Nat} {news : List (Addr × Obj)} {s₁ : Shared} (J : Nat → List Value → Prop)
    (hh : A.handled = none) (F : Fr h₀ L s₁.heap m) (N : News h₀ L s₁.heap news) (hr : IsRange s₁.heap r a b 1 t u v) (hsm : Builtin.Range.small a b 1 = true) (hn : Builtin.Range.rangeSize a b 1 = ((n : Nat) : Int)) (hsz : n ≤ sizeLine) (hJ : J 0 [])
    (turn : ∀ g, TurnP prog w A h₀ L m env elt x scope cl { s₁ with heap := g } (fun _ => True) news (fun i v => ∃ t, v = .int (a + (i : Int)) t) J n)
    (fin : ∀ D h tk ys, J n ys → Fr h₀ L h m → News h₀ L h ((D, LCg.lst ys) :: news) → (∀ p ∈ news, p.1 ≠ D) → Q (.ref D) { s₁ with heap := h, toks := tk }) :
    CompSrcC prog w A h₀ L m env elt x scope cl Q (.ref r) s₁ := CompSrcC.range (fun i ys nw => nw = news ∧ J i ys) hh F N hr hsm hn hsz ⟨rfl, hJ⟩ (fun g => turnP (turn g)) (by
  rintro D h tk ys nw ⟨rfl, hj⟩ F' N' o
  exact fin D h tk ys hj F' N' o)

theorem compInvP {elt : Expr} {x : Str} {scope : Scope} {cl : List (Str × Addr)} {S : List (Addr × Obj) → Prop} {P : Nat → Value → Prop} {Fin : List Value → List (Addr × Obj) → Prop} {n : Nat} {news : List (Addr × Obj)} (J : Nat → List Value → Prop) (h0 : J 0 [])
    (turn : ∀ i v I oI C oC D m₂ ys h tk (E' : Value → Shared → Prop), i < n → P i v → J i ys → LCg.NsObj oC m₂ → m₂ x = some v → Fr h₀ L h m → News h₀ L h ((I, oI) :: (C, oC) :: (D, LCg.lst ys) :: news) → LCg.Off3 I C D news → ((@Ne Nat I C) ∧ (@Ne Nat I D) ∧ (@Ne Nat C D)) →
      wpAny (model prog w) A (eval elt (compEnvC scope cl C env)) (LCg.CompEnd h₀ L m { s with heap := h, toks := tk } I oI C oC D (LCg.lst ys) S (fun y news' => news' = news ∧ J (i + 1) (ys ++ [y]))) E' { s with heap := h, toks := tk })
    (fin : ∀ ys, J n ys → Fin ys news) : LCg.CompRest prog w A h₀ L m env elt x scope cl s S P Fin n 0 [] news := by
  refine compInv (fun i ys nw => nw = news ∧ J i ys) ⟨rfl, h0⟩ ?_ (by rintro ys nw ⟨rfl, hj⟩; exact fin ys hj)
  rintro i v I oI C oC D m₂ ys nw h tk E' hi hv ⟨rfl, hJ⟩ hC hx F N off ne
  exact turn i v I oI C oC D m₂ ys h tk E' hi hv hJ hC hx F N off ne

theorem loopCellT {x : Str} {px : Pos} {body : List Stmt} {Q : Flow → Shared → Prop} {T : Addr}
    {l cc : Addr} {items : Array Value} {m₀ : Str → Option Value} {oc₀ : Obj} {v₀ : Option Value} (P : Nat → List Value → List (Addr × Obj) → Prop)
    (hk : env.scope.kind = .function) (hx : env.kindOf x = some .cell) (hc : env.cells.lookup x = some cc)
    (hh : A.handled = none) (hl : h₀.IsList l items)
    (F : Fr h₀ env.locals s.heap m₀) (N : News h₀ env.locals s.heap [(cc, oc₀), (T, listOf #[] 0)]) (hd : oc₀.data = .cell v₀) (hoff : T ≠ cc) (hp : P 0 [] [])
    (turn : ∀ rest rows k i v I h tk o oc, i < items.size → items[i]? = some v → rows.length = i → P i rows rest → (∀ p ∈ rest, p.1 ≠ I ∧ p.1 ≠ cc ∧ p.1 ≠ T) → oc.data = .cell (some v) → (@Ne Nat I cc) → (@Ne Nat T I) → (@Ne Nat T cc) → Fr h₀ env.locals h m₀ → News h₀ env.locals h ((I, o) :: (cc, oc) :: (T, listOf rows.toArray k) :: rest) →
      wpAny (model prog w) A (execs body env) (TPC h₀ env.locals I o cc (fun c : List (Addr × Obj) × List Value × Nat => (T, listOf c.2.1.toArray c.2.2) :: c.1) m₀ (fun c => c.2.1.length = i + 1 ∧ (∀ p ∈ c.1, p.1 ≠ T) ∧ P (i + 1) c.2.1 c.1) { s with heap := h, toks := tk } Q) (fun _ _ => False) { s with heap := h, toks := tk })
    (done : ∀ rest rows k oc v h tk, rows.length = items.size → P items.size rows rest → Fr h₀ env.locals h m₀ → News h₀ env.locals h ((cc, oc) :: (T, listOf rows.toArray k) :: rest) → oc.data = .cell v → (∀ p ∈ rest, p.1 ≠ cc ∧ p.1 ≠ T) → Q .next { s with heap := h, toks := tk }) :
    wpAny (model prog w) A (pyIter (.ref l)) (fun it s₂ => codeAny (model prog w) A (.forLoop (.Name x px) it body [] env) (fun r s' => match r with | .ok f => Q f s' | .error e => cameBackBy (model prog w) A env E e s') s₂) E s := by
  refine loopCell (σ := List (Addr × Obj) × List Value × Nat) (fun c => (T, listOf c.2.1.toArray c.2.2) :: c.1) (fun i c => c.2.1.length = i ∧ (∀ p ∈ c.1, p.1 ≠ T) ∧ P i c.2.1 c.1) ([], [], 0) hk hx hc hh hl F N hd (fun p hp => by rw [List.mem_singleton.mp hp]; exact hoff) ⟨rfl, fun _ h => (List.not_mem_nil h).elim, hp⟩ ?_ ?_
  · rintro ⟨rest, rows, k⟩ i v I h tk o oc hi hv ⟨h1, h2, h3⟩ hof hd hIc F N
    exact turn rest rows k i v I h tk o oc hi hv h1 h3 (fun p hp => ⟨(hof p (.tail _ hp)).1, (hof p (.tail _ hp)).2, h2 p hp⟩) hd hIc (hof _ (.head _)).1 (hof _ (.head _)).2 F N
  · rintro ⟨rest, rows, k⟩ oc v h tk ⟨h1, h2, h3⟩ F N hd hof
    exact done rest rows k oc v h tk h1 h3 F N hd fun p hp => ⟨hof p (.tail _ hp), h2 p hp⟩
theorem ints_snoc {vs : List Value} {ns : List Int} {k : Int} {t : Tok} (h : IntsAre vs ns) : IntsAre (vs ++ [.int k t]) (ns ++ [k]) := by
  induction h with
  | nil => exact .cons k t .nil
  | cons z u r ih => exact .cons z u ih

theorem compInvTP {ct elt : Expr} {x : Str} {scope : Scope} {cl : List (Str × Addr)} {S : List (Addr × Obj) → Prop} {P : Nat → Value → Prop} {Fin : List Value → List (Addr × Obj) → Prop} {n : Nat} {news : List (Addr × Obj)} (J : Nat → List Value → Prop) (h0 : J 0 [])
    (turn : ∀ i v I oI C oC D m₂ ys h tk (E' : Value → Shared → Prop), i < n → P i v → J i ys → LCg.NsObj oC m₂ → m₂ x = some v → Fr h₀ L h m → News h₀ L h ((I, oI) :: (C, oC) :: (D, LCg.lst ys) :: news) → LCg.Off3 I C D news → ((@Ne Nat I C) ∧ (@Ne Nat I D) ∧ (@Ne Nat C D)) →
      wpAny (model prog w) A (isTrue ct (compEnvC scope cl C env) (eval ct (compEnvC scope cl C env))) (fun ok s' => if ok = true then
        wpAny (model prog w) A (eval elt (compEnvC scope cl C env)) (LCg.CompEnd h₀ L m { s with heap := h, toks := tk } I oI C oC D (LCg.lst ys) S (fun y news' => news' = news ∧ J (i + 1) (ys ++ [y]))) E' s'
        else LCg.CompEnd h₀ L m { s with heap := h, toks := tk } I oI C oC D (LCg.lst ys) S (fun _ news' => news' = news ∧ J (i + 1) ys) Value.none s') E' { s with heap := h, toks := tk })
    (fin : ∀ ys, J n ys → Fin ys news) : LCt.CompRestT prog w A h₀ L m env ct elt x scope cl s S P Fin n 0 [] news := by
  have key : ∀ (j i : Nat) (ys : List Value), i + j = n → J i ys → LCt.CompRestT prog w A h₀ L m env ct elt x scope cl s S P Fin j i ys news := by
    intro j
    induction j with
    | zero =>
      intro i ys hi hy
      have e : i = n := by omega
      subst e
      exact LCt.CompRestT.zero (fin ys hy)
    | succ j ih =>
      intro i ys hi hy
      refine LCt.CompRestT.succ ?_
      intro v I oI C oC D m₂ h tk E' hv hC hx F N off ne
      refine wpAny_mono (turn i v I oI C oC D m₂ ys h tk E' (by omega) hv hy hC hx F N off ne) (fun b s₂ hq => ?_) fun _ _ e => e
      cases b with
      | true =>
        simp only [if_true] at hq ⊢
        refine wpAny_mono hq (fun y s₃ hq => ?_) fun _ _ e => e
        obtain ⟨h', tk', nw, e, F', N', off', hS, rfl, hn⟩ := hq
        exact ⟨h', tk', _, e, F', N', off', hS, ih (i + 1) _ (by omega) hn⟩
      | false =>
        simp only [Bool.false_eq_true, if_false] at hq ⊢
        obtain ⟨h', tk', nw, e, F', N', off', hS, rfl, hn⟩ := hq
        exact ⟨h', tk', _, e, F', N', off', hS, ih (i + 1) _ (by omega) hn⟩
  exact key n 0 [] (by omega) h0

theorem loopRH {x : Str} {body : List Stmt} {Q : Flow → Shared → Prop} {r : Addr} {a₀ b₀ : Int} {t₀ u₀ v₀ : Tok} {n : Nat} {m₀ : Str → Option Value} {ch ct D₀ : Addr} {och₀ oct jo : Obj} {jl : Addr} {vs₀ : List Value} {k₀ : Nat} (P : Nat → List Value → Prop)
    (hh : A.handled = none) (hr : IsRange s.heap r a₀ b₀ 1 t₀ u₀ v₀) (hsmall : Builtin.Range.small a₀ b₀ 1 = true) (hn : Builtin.Range.rangeSize a₀ b₀ 1 = (n : Int))
    (F : Fr h₀ env.locals s.heap m₀) (N : News h₀ env.locals s.heap [(D₀, listOf vs₀.toArray k₀), (jl, jo), (ch, och₀), (ct, oct)]) (hd : och₀.data = .cell (some (.ref D₀))) (hDh : D₀ ≠ ch) (hDt : D₀ ≠ ct) (hp : P 0 vs₀)
    (turn : ∀ i vs k D och I h tk o t, i < n → P i vs → (@Ne Nat ch I) → (@Ne Nat ct I) → (@Ne Nat D I) → (@Ne Nat D ch) → (@Ne Nat D ct) → och.data = .cell (some (.ref D)) → Fr h₀ env.locals h (fun y => if y = x then some (.int (a₀ + i) t) else m₀ y) → News h₀ env.locals h [(I, o), (ch, och), (ct, oct), (D, listOf vs.toArray k)] →
      wpAny (model prog w) A (execs body env) (TP h₀ env.locals I o (fun c : Obj × Addr × List Value × Nat => [(ch, c.1), (ct, oct), (c.2.1, listOf c.2.2.1.toArray c.2.2.2)]) (fun _ => []) x [] m₀ (fun c => c.1.data = .cell (some (.ref c.2.1)) ∧ c.2.1 ≠ ch ∧ c.2.1 ≠ ct ∧ P (i + 1) c.2.2.1) { s with heap := h, toks := tk } Q) E { s with heap := h, toks := tk })
    (done : ∀ vs k D och (u : Str → Option Value) h tk, P n vs → och.data = .cell (some (.ref D)) → Fr h₀ env.locals h (fun y => if y = x then u y else m₀ y) → News h₀ env.locals h [(ch, och), (ct, oct), (D, listOf vs.toArray k)] → Q .next { s with heap := h, toks := tk }) :
    wpAny (model prog w) A (pyIter (.ref r)) (fun it s₂ => LoopAtV prog w A h₀ env x body Q E it s₂) E s := by
  refine loopR (σ := Obj × Addr × List Value × Nat) (fun c => [(ch, c.1), (ct, oct), (c.2.1, listOf c.2.2.1.toArray c.2.2.2)]) (fun _ => []) [] (fun i c => c.1.data = .cell (some (.ref c.2.1)) ∧ c.2.1 ≠ ch ∧ c.2.1 ≠ ct ∧ P i c.2.2.1) (och₀, D₀, vs₀, k₀) hh hr hsmall hn F ?_ (fun _ hp => nomatch hp) ⟨hd, hDh, hDt, hp⟩ ?_ ?_
  · intro p hp
    simp only [List.mem_cons, List.not_mem_nil, or_false] at hp
    rcases hp with h | h | h <;> refine N p ?_ <;> simp only [h, List.mem_cons, true_or, or_true]
  · rintro ⟨och, D, vs, k⟩ i u I h tk o t hi ⟨h1, h2, h3, h4⟩ hI F N
    exact turn i vs k D och I h tk o t hi h4 (hI _ (.head _)) (hI _ (.tail _ (.head _))) (hI _ (.tail _ (.tail _ (.head _)))) h2 h3 h1 F N
  · rintro ⟨och, D, vs, k⟩ u h tk ⟨h1, h2, h3, h4⟩ F N
    exact done vs k D och u h tk h4 h1 F N
end
end Mine

namespace Mine
section
variable {prog : Program} {w : World} {mean : ExcName → Option Value} {mg mb : Str → Option Value} {A : Around} {E : Value → Shared → Prop} {s : Shared} {h₀ : Heap} {L : Addr} {m : Str → Option Value} {env : Env}
/-- into a function, some of the frame's own objects given along, the rest of the heap as it stands -/
theorem enterLess {R : Result → Shared → Prop} {name qual : Str} {params : Arguments} {body : List Stmt} {scope : Scope} {dV kV doc pm cdv ct oc : Value} {an od : Option Addr} {osl : Array (Option Value)} {f : Addr} {args : Args} {binds : List (Str × Value)} {x dx : Addr} {o1 o2 : Obj} {news : List (Addr × Obj)}
    (F : Fr h₀ L s.heap m) (N : News h₀ L s.heap ((x, o1) :: (dx, o2) :: news)) (X : (hd.heap_39 w.params).In h₀) (T : Top topProg LS mean mg mb h₀) (hne : ∀ p ∈ news, p.1 ≠ x ∧ p.1 ≠ dx)
    (ho : (hd.heap_39 w.params).lookup f = some ⟨oc, od, .func (fnOf name qual params body scope dV kV doc pm an cdv ct), osl⟩) (hcd : codeIn (hd.heap_39 w.params) cdv qual = true)
    (hroom : A.depth < recursionLimit)
    (hbind : BindsTo s (fnOf name qual params body scope dV kV doc pm an cdv ct) args binds) (hloc : ∀ y ∈ binds, scope.names.lookup y.1 = some .local)
    (h : ∀ g L' h₁ tk, (∀ h'', Kp g h'' → Fr h₀ L h'' m ∧ News h₀ L h'' news) → (∀ b o, b ≠ x → b ≠ dx → h₀.get? b = some o → g.get? b = some o) → (∀ b, g.get? b = none → h₀.get? b = none) → Fr g L' h₁ (fun y => binds.reverse.lookup y) → News g L' h₁ [(x, o1), (dx, o2)] → (hd.heap_39 w.params).In g → Top topProg LS mean mg mb g →
      wpAny (model prog w) (A.deeper (envOf qual scope L' f cdv)) (execs body (envOf qual scope L' f cdv))
        (fun fl s' => R (.ok (.ret (match fl with | .ret v => v | _ => .none))) s')
        (fun _ _ => False)
        { s with heap := h₁, toks := tk })
    (hco : scope.isCoroutine = false) (hgen : scope.isGenerator = false) (hk : scope.kind = .function)
    (hcell : ∀ x ∈ scope.names, x.2 ≠ .cell) : codeAny (model prog w) A (.call (.ref f) args) R s := by
  have hx0 := (N (x, o1) (.head _))
  have hd0 := (N (dx, o2) (.tail _ (.head _)))
  have kin : ∀ b o, h₀.get? b = some o → b ≠ x ∧ b ≠ dx := fun b o e => ⟨fun q => (by rw [q, hx0.2.2] at e; cases e), fun q => (by rw [q, hd0.2.2] at e; cases e)⟩
  have nin : ∀ b, b ≠ x → b ≠ dx → b ∉ [x, dx] := fun b h1 h2 hm => by
    rcases List.mem_cons.mp hm with e | hm
    · exact h1 e
    · exact h2 (List.mem_singleton.mp hm)
  have kg : ∀ b o, h₀.get? b = some o → (less s.heap [x, dx]).get? b = some o := fun b o e => less_get (F.keep b o e) (nin b (kin b o e).1 (kin b o e).2)
  refine codeAny_call_def (fd := fnOf name qual params body scope dV kV doc pm an cdv ct) (body := body) (binds := binds) hroom ((X.keeps F.keep) _ _ ho) rfl (T.nolimit.keeps F.keep) (codeRec_of (X.keeps F.keep) hcd) rfl hbind hcell hloc (fun h₁ hns hk₁ => ?_) hco hgen hk
  refine wpAny_mono (h (less s.heap [x, dx]) s.heap.objs.size h₁ _ (fun h'' k => ?_) (fun b o _ _ e => kg b o e) (fun b e => ?_) ⟨hns, fun b o e => hk₁ b o (of_less e), by rw [less_size]; exact Nat.le_refl _⟩ (fun p hp => ?_) (X.keeps kg) (T.keeps kg)) (fun _ _ x => x) (fun _ _ x => x.elim)
  · refine ⟨⟨?_, fun b o e => k b o (kg b o e), F.above⟩, fun p hp => ⟨k _ _ (less_get (N p (.tail _ (.tail _ hp))).1 (nin _ (hne p hp).1 (hne p hp).2)), (N p (.tail _ (.tail _ hp))).2⟩⟩
    exact F.ns.at' fun o e => k _ _ (less_get e (nin _ (Ne.symm hx0.2.1) (Ne.symm hd0.2.1)))
  · cases q : h₀.get? b with
    | none => rfl
    | some o => rw [kg b o q] at e; cases e
  · rcases List.mem_cons.mp hp with rfl | hp
    · exact ⟨hk₁ _ _ hx0.1, Nat.ne_of_lt (Heap.lt_size hx0.1), less_none (.head _)⟩
    · rw [List.mem_singleton.mp hp]
      exact ⟨hk₁ _ _ hd0.1, Nat.ne_of_lt (Heap.lt_size hd0.1), less_none (.tail _ (.head _))⟩

/-- over the signs of an ASCII text -/
theorem loopS {x : Str} {body : List Stmt} {Q : Flow → Shared → Prop} {σ : Type} {tx : Str} {tt : Tok} {m₀ : Str → Option Value} (Led : σ → List (Addr × Obj)) (ps : σ → List (Str × Value)) (stored : List Str) (P : Nat → σ → Prop) (c₀ : σ)
    (hh : A.handled = none) (ha : tx.cps.all (· < 128) = true)
    (F : Fr h₀ env.locals s.heap m₀) (N : News h₀ env.locals s.heap (Led c₀)) (hk : ∀ p ∈ ps c₀, m₀ p.1 = some p.2) (hp : P 0 c₀)
    (turn : ∀ (c : σ) i cp t (u : Str → Option Value) I h tk o, i < tx.cps.size → tx.cps[i]? = some cp → P i c → (∀ p ∈ Led c, p.1 ≠ I) → Fr h₀ env.locals h (fun y => if y = x then some (.str ⟨#[cp]⟩ t) else kstB (fun z => if stored.contains z then u z else m₀ z) (ps c) y) → News h₀ env.locals h ((I, o) :: Led c) →
      wpAny (model prog w) A (execs body env) (TP h₀ env.locals I o Led ps x stored m₀ (P (i + 1)) { s with heap := h, toks := tk } Q) E { s with heap := h, toks := tk })
    (done : ∀ (c : σ) (u : Str → Option Value) h tk, P tx.cps.size c → Fr h₀ env.locals h (fun y => if y = x then u y else kstB (fun z => if stored.contains z then u z else m₀ z) (ps c) y) → News h₀ env.locals h (Led c) → Q .next { s with heap := h, toks := tk }) :
    wpAny (model prog w) A (pyIter (.str tx tt)) (fun it s₂ => LoopAtV prog w A h₀ env x body Q E it s₂) E s := by
  refine wpAny_pyIter_ascii ha ?_
  have W := Walks.strAscii (prog := prog) (w := w) hh s.heap.objs.size tx tt
  refine loopG [] Led ps stored P c₀ W (.head _) (fun b hb => .inl (List.mem_singleton.mp hb)) (.head _) (fun b hb => List.mem_singleton.mp hb) (none_at_size F) (fun i h st => let ⟨o, ho, _⟩ := st; ⟨o, ho⟩) ?_ (fun _ _ hp => nomatch hp) ⟨_, Heap.get?_push_size _ rfl, rfl, rfl⟩ (F.push _) (fun p hp => ⟨Heap.get?_push_of_some _ (N p hp).1, (N p hp).2⟩) (fun p hp e => absurd (Heap.lt_size (N p hp).1) (e ▸ Nat.lt_irrefl _)) hk hp ?_ done
  · intro hm
    exact absurd F.ns.lt ((List.mem_singleton.mp hm) ▸ Nat.lt_irrefl _)
  · rintro c i v u h tk o hi ⟨cp, t, h1, rfl⟩ hp' hI F₁ N₁
    exact turn c i cp t u _ h tk o hi h1 hp' hI F₁ N₁
end
def bump (cs : List Int) (b : Int) : List Int :=
  let cs' := if (cs.length : Int) ≤ b then cs ++ (List.replicate (b - cs.length + 1).toNat [0]).flatten else cs
  cs'.set b.toNat (cs'.getD b.toNat 0 + 1)
structure WS where
  n : Int
  b : Int
  nt : Int
  cs : List Int
def wsStep (c : WS) (ch : Nat) : WS := if ch = 32 then ⟨c.n + 1, c.b + 1, c.nt, c.cs⟩ else ⟨c.n + 1, 0, c.nt + 1, bump c.cs c.b⟩
def wsRun (pre : List Nat) : WS := pre.foldl wsStep ⟨0, 0, 0, []⟩
theorem wsRun_snoc (pre : List Nat) (c : Nat) : wsRun (pre ++ [c]) = wsStep (wsRun pre) c := by
  unfold wsRun; rw [List.foldl_append]; rfl
theorem bump_len {cs : List Int} {b : Int} (h : 0 ≤ b) : (bump cs b).length = if (cs.length : Int) ≤ b then (b + 1).toNat else cs.length := by
  unfold bump
  by_cases q : (cs.length : Int) ≤ b
  · simp only [if_pos q, List.length_set, List.length_append, List.flatten_replicate_singleton, List.length_replicate]
    omega
  · simp only [if_neg q, List.length_set]
structure WSok (c : WS) (k : Nat) : Prop where
  b0 : 0 ≤ c.b
  b1 : c.b ≤ k
  l : c.cs.length ≤ k
theorem wsStep_ok {c : WS} {k : Nat} (x : WSok c k) (ch : Nat) : WSok (wsStep c ch) (k + 1) := by
  obtain ⟨h1, h2, h3⟩ := x
  unfold wsStep
  by_cases q : ch = 32
  · rw [if_pos q]
    exact ⟨by show 0 ≤ c.b + 1; omega, by show c.b + 1 ≤ ((k + 1 : Nat) : Int); omega, by show c.cs.length ≤ k + 1; omega⟩
  · rw [if_neg q]
    refine ⟨Int.le_refl 0, by show (0 : Int) ≤ ((k + 1 : Nat) : Int); omega, ?_⟩
    show (bump c.cs c.b).length ≤ k + 1
    rw [bump_len h1]
    split <;> omega
theorem wsRun_ok (pre : List Nat) : WSok (wsRun pre) pre.length := by
  have key : ∀ (l : List Nat) (c : WS) (k : Nat), WSok c k → WSok (l.foldl wsStep c) (k + l.length) := by
    intro l
    induction l with
    | nil => intro c k h; exact h
    | cons a r ih => intro c k h; rw [List.foldl_cons, List.length_cons, show k + (r.length + 1) = (k + 1) + r.length by omega]; exact ih _ _ (wsStep_ok h a)
  have := key pre ⟨0, 0, 0, []⟩ 0 ⟨Int.le_refl _, Int.le_refl _, Nat.le_refl _⟩
  rwa [Nat.zero_add] at this
structure WSv where
  S : WS
  t1 : Tok
  t2 : Tok
  t3 : Tok
  A : Addr
  vs : List Value
  k : Nat
abbrev wsLed (x dx : Addr) (oi od : Obj) (c : WSv) : List (Addr × Obj) := [(x, oi), (dx, od), (c.A, listOf c.vs.toArray c.k)]
abbrev wsPs (c : WSv) : List (Str × Value) := [("n", .int c.S.n c.t1), ("b", .int c.S.b c.t2), ("nt", .int c.S.nt c.t3), ("count", .ref c.A)]
def wsP (pre : List Nat) (x dx : Addr) (i : Nat) (c : WSv) : Prop := i ≤ pre.length ∧ c.S = wsRun (pre.take i) ∧ IntsAre c.vs c.S.cs ∧ c.A ≠ x ∧ c.A ≠ dx
section
variable {prog : Program} {w : World} {A : Around} {E : Value → Shared → Prop} {s : Shared} {h₀ : Heap} {env : Env}
theorem loopWS {body : List Stmt} {Q : Flow → Shared → Prop} {tx : Str} {tt t1 t2 t3 : Tok} {m₀ : Str → Option Value} {pre : List Nat} {x dx A₀ : Addr} {oi od : Obj} {jt : Addr × Obj}
    (hh : A.handled = none) (htx : tx.cps = (pre ++ [120, 9]).toArray) (ha : tx.cps.all (· < 128) = true)
    (F : Fr h₀ env.locals s.heap m₀) (N : News h₀ env.locals s.heap [(A₀, listOf #[] 0), jt, (x, oi), (dx, od)]) (hAx : A₀ ≠ x) (hAd : A₀ ≠ dx)
    (hn : m₀ "n" = some (.int 0 t1)) (hb : m₀ "b" = some (.int 0 t2)) (hnt : m₀ "nt" = some (.int 0 t3)) (hc : m₀ "count" = some (.ref A₀))
    (turn : ∀ n b nt cs t1 t2 t3 Ac vs k i cp t (u : Str → Option Value) I h tk o, (pre ++ [120, 9])[i]? = some cp → i ≤ pre.length → (⟨n, b, nt, cs⟩ : WS) = wsRun (pre.take i) → 0 ≤ b → b ≤ i → cs.length ≤ i → IntsAre vs cs → (@Ne Nat Ac x) → (@Ne Nat Ac dx) → (@Ne Nat x I) → (@Ne Nat dx I) → (@Ne Nat Ac I) →
      Fr h₀ env.locals h (fun y => if y = "ch" then some (.str ⟨#[cp]⟩ t) else kstB m₀ (wsPs ⟨⟨n, b, nt, cs⟩, t1, t2, t3, Ac, vs, k⟩) y) → News h₀ env.locals h [(I, o), (x, oi), (dx, od), (Ac, listOf vs.toArray k)] →
      wpAny (model prog w) A (execs body env) (TP h₀ env.locals I o (wsLed x dx oi od) wsPs "ch" [] m₀ (wsP pre x dx (i + 1)) { s with heap := h, toks := tk } Q) E { s with heap := h, toks := tk }) :
    wpAny (model prog w) A (pyIter (.str tx tt)) (fun it s₂ => LoopAtV prog w A h₀ env "ch" body Q E it s₂) E s := by
  have hsz : tx.cps.size = pre.length + 2 := by rw [htx, List.size_toArray, List.length_append]; rfl
  refine loopS (σ := WSv) (wsLed x dx oi od) wsPs [] (wsP pre x dx) ⟨⟨0, 0, 0, []⟩, t1, t2, t3, A₀, [], 0⟩ hh ha F ?_ ?_ ⟨Nat.zero_le _, rfl, .nil, hAx, hAd⟩ ?_ ?_
  · intro p hp
    simp only [List.mem_cons, List.not_mem_nil, or_false] at hp
    rcases hp with h | h | h <;> refine N p ?_ <;> simp only [h, List.mem_cons, true_or, or_true]
  · intro p hp
    simp only [List.mem_cons, List.not_mem_nil, or_false] at hp
    rcases hp with rfl | rfl | rfl | rfl
    · exact hn
    · exact hb
    · exact hnt
    · exact hc
  · rintro ⟨⟨n, b, nt, cs⟩, t1, t2, t3, Ac, vs, k⟩ i cp t u I h tk o hi hcp ⟨p1, p2, p3, p4, p5⟩ hI F N
    have ok := wsRun_ok (pre.take i)
    rw [← p2, List.length_take, Nat.min_eq_left p1] at ok
    exact turn n b nt cs t1 t2 t3 Ac vs k i cp t u I h tk o (by rw [htx, List.getElem?_toArray] at hcp; exact hcp) p1 p2 ok.b0 ok.b1 ok.l p3 p4 p5 (hI _ (.head _)) (hI _ (.tail _ (.head _))) (hI _ (.tail _ (.tail _ (.head _)))) F N
  · rintro c u h tk ⟨p1, _⟩
    rw [hsz] at p1
    omega
end
theorem kstB_off {ps : List (Str × Value)} {m₀ : Str → Option Value} {z : Str} (hp : ∀ p ∈ ps, z ≠ p.1) : kstB m₀ ps z = m₀ z := by
  induction ps with
  | nil => rfl
  | cons p r ih =>
    show (if z = p.1 then some p.2 else kstB _ r z) = _
    rw [if_neg (hp p (.head _))]
    exact ih fun q hq => hp q (.tail _ hq)
theorem bump_pos {cs : List Int} {b : Int} (h : (cs.length : Int) ≤ b) : bump cs b = (cs ++ (List.replicate (b - cs.length + 1).toNat [0]).flatten).set b.toNat ((cs ++ (List.replicate (b - cs.length + 1).toNat [0]).flatten).getD b.toNat 0 + 1) := by
  unfold bump; simp only [if_pos h]
theorem bump_neg {cs : List Int} {b : Int} (h : ¬(cs.length : Int) ≤ b) : bump cs b = cs.set b.toNat (cs.getD b.toNat 0 + 1) := by
  unfold bump; simp only [if_neg h]
theorem one_eq {cp d : Nat} {x : Str} (hx : x.cps = #[d]) (h : ((⟨#[cp]⟩ : Str) == x) = true) : cp = d := by
  have := beq_iff_eq.mp h
  rw [← this] at hx
  simpa using hx
theorem one_ne {cp d : Nat} {x : Str} (hx : x = ⟨#[d]⟩) (h : ((⟨#[cp]⟩ : Str) == x) = false) : cp ≠ d := by
  rintro rfl
  rw [hx, beq_self_eq_true] at h
  cases h
theorem ws_next {pre : List Nat} {i cp : Nat} {S : WS} (hcp : (pre ++ [120, 9])[i]? = some cp) (hi : i ≤ pre.length) (hS : S = wsRun (pre.take i)) (hc : cp ≠ 120) : i + 1 ≤ pre.length ∧ wsStep S cp = wsRun (pre.take (i + 1)) := by
  by_cases h : i < pre.length
  · refine ⟨h, ?_⟩
    rw [List.getElem?_append_left h] at hcp
    rw [List.take_add_one, hcp, hS]
    exact (wsRun_snoc _ _).symm
  · have : i = pre.length := by omega
    subst this
    rw [List.getElem?_append_right (Nat.le_refl _), Nat.sub_self] at hcp
    exact absurd (Option.some.inj hcp).symm hc
theorem ws_stop {pre : List Nat} {i cp : Nat} {S : WS} (hcp : (pre ++ [120, 9])[i]? = some cp) (hi : i ≤ pre.length) (hS : S = wsRun (pre.take i)) (hpre : ∀ c ∈ pre, c = 32 ∨ c = 9) (h1 : cp ≠ 32) (h2 : cp ≠ 9) : S = wsRun pre := by
  by_cases h : i < pre.length
  · rw [List.getElem?_append_left h] at hcp
    exact (hpre cp (List.mem_of_getElem? hcp)).elim (fun e => absurd e h1) fun e => absurd e h2
  · have : i = pre.length := by omega
    rw [hS, this, List.take_length]
theorem wsP_tab1 {pre : List Nat} {x dx A : Addr} {i cp : Nat} {n b nt : Int} {cs : List Int} {t1 t2 t3 : Tok} {W : List Value} {k : Nat} (hcp : (pre ++ [120, 9])[i]? = some cp) (hi : i ≤ pre.length) (hS : (⟨n, b, nt, cs⟩ : WS) = wsRun (pre.take i)) (e : cp = 9)
    (h : (cs.length : Int) ≤ b) (hW : IntsAre W ((cs ++ (List.replicate (b - cs.length + 1).toNat [0]).flatten).set b.toNat ((cs ++ (List.replicate (b - cs.length + 1).toNat [0]).flatten).getD b.toNat 0 + 1))) (hx : A ≠ x) (hd : A ≠ dx) :
    wsP pre x dx (i + 1) ⟨⟨n + 1, 0, nt + 1, bump cs b⟩, t1, t2, t3, A, W, k⟩ := by
  have q := ws_next hcp hi hS (by rw [e]; decide)
  rw [e] at q
  exact ⟨q.1, q.2, by rw [bump_pos h]; exact hW, hx, hd⟩
theorem wsP_tab2 {pre : List Nat} {x dx A : Addr} {i cp : Nat} {n b nt : Int} {cs : List Int} {t1 t2 t3 : Tok} {W : List Value} {k : Nat} (hcp : (pre ++ [120, 9])[i]? = some cp) (hi : i ≤ pre.length) (hS : (⟨n, b, nt, cs⟩ : WS) = wsRun (pre.take i)) (e : cp = 9)
    (h : ¬ (cs.length : Int) ≤ b) (hW : IntsAre W (cs.set b.toNat (cs.getD b.toNat 0 + 1))) (hx : A ≠ x) (hd : A ≠ dx) :
    wsP pre x dx (i + 1) ⟨⟨n + 1, 0, nt + 1, bump cs b⟩, t1, t2, t3, A, W, k⟩ := by
  have q := ws_next hcp hi hS (by rw [e]; decide)
  rw [e] at q
  exact ⟨q.1, q.2, by rw [bump_neg h]; exact hW, hx, hd⟩
theorem wsEnd {h₀ h' : Heap} {L I x dx A : Addr} {o oi od : Obj} {m₀ m' : Str → Option Value} {pre : List Nat} {i : Nat} {s₁ : Shared} {Q : Flow → Shared → Prop} {tk : Nat} {news : List (Addr × Obj)} {n b nt : Int} {cs : List Int} {t1 t2 t3 : Tok} {W : List Value} {k : Nat}
    (F : Fr h₀ L h' m') (N : News h₀ L h' news) (hx : x ≠ I) (hd : dx ≠ I) (hA : A ≠ I) (hP : wsP pre x dx (i + 1) ⟨⟨n, b, nt, cs⟩, t1, t2, t3, A, W, k⟩)
    (m1 : (I, o) ∈ news) (m2 : (x, oi) ∈ news) (m3 : (dx, od) ∈ news) (m4 : (A, listOf W.toArray k) ∈ news)
    (e1 : m' "n" = some (.int n t1)) (e2 : m' "b" = some (.int b t2)) (e3 : m' "nt" = some (.int nt t3)) (e4 : m' "count" = some (.ref A))
    (hz : ∀ z : Str, z ≠ "ch" → z ≠ "n" → z ≠ "b" → z ≠ "nt" → z ≠ "count" → m' z = m₀ z) :
    TP h₀ L I o (wsLed x dx oi od) wsPs "ch" [] m₀ (wsP pre x dx (i + 1)) s₁ Q .next { s₁ with heap := h', toks := tk } := by
  refine TP.next (σ := WSv) ⟨⟨n, b, nt, cs⟩, t1, t2, t3, A, W, k⟩ F N (fun p hp => ?_) ?_ (List.forall_mem_cons.mpr ⟨e1, List.forall_mem_cons.mpr ⟨e2, List.forall_mem_cons.mpr ⟨e3, List.forall_mem_cons.mpr ⟨e4, List.forall_mem_nil _⟩⟩⟩⟩) (fun z h1 h2 _ => ?_) hP
  · simp only [List.mem_cons, List.not_mem_nil, or_false] at hp
    rcases hp with rfl | rfl | rfl | rfl
    · exact m1
    · exact m2
    · exact m3
    · exact m4
  · exact List.forall_mem_cons.mpr ⟨hx, List.forall_mem_cons.mpr ⟨hd, List.forall_mem_cons.mpr ⟨hA, List.forall_mem_nil _⟩⟩⟩
  · exact hz z h1 (h2 (Str.ofString "n", _) (.head _)) (h2 (Str.ofString "b", _) (.tail _ (.head _))) (h2 (Str.ofString "nt", _) (.tail _ (.tail _ (.head _)))) (h2 (Str.ofString "count", _) (.tail _ (.tail _ (.tail _ (.head _)))))
theorem kstWS {m₀ : Str → Option Value} {z : Str} {c : WSv} (h2 : z ≠ "n") (h3 : z ≠ "b") (h4 : z ≠ "nt") (h5 : z ≠ "count") : kstB m₀ (wsPs c) z = m₀ z :=
  kstB_off (List.forall_mem_cons.mpr ⟨h2, List.forall_mem_cons.mpr ⟨h3, List.forall_mem_cons.mpr ⟨h4, List.forall_mem_cons.mpr ⟨h5, List.forall_mem_nil _⟩⟩⟩⟩)
theorem wsBack {h₀ g h' : Heap} {L L' : Addr} {m m' : Str → Option Value} {news all : List (Addr × Obj)} {x dx D1 D2 : Addr} {raw : Value} {n b nt : Int} {cs : List Int} {vs : List Value} {t1 t2 t3 : Tok} {hr hn_ hnt hno hsi : Int} {k1 k2 k3 k4 k5 : Tok}
    (kh : ∀ h'', Kp g h'' → Fr h₀ L h'' m ∧ News h₀ L h'' news) (kn : ∀ b, g.get? b = none → h₀.get? b = none) (F1 : Fr g L' h' m') (N1 : News g L' h' all) (hvs : IntsAre vs cs)
    (m1 : (x, instObj 133 dx) ∈ all)
    (m2 : (dx, dictOf [⟨hr, .str (Str.ofString "raw") k1, raw⟩, ⟨hn_, .str (Str.ofString "n") k2, .int n t1⟩, ⟨hnt, .str (Str.ofString "nt") k3, .int nt t2⟩, ⟨hno, .str (Str.ofString "norm") k4, .ref D2⟩, ⟨hsi, .str (Str.ofString "is_simple") k5, .bool (decide ((cs.length : Int) ≤ 1))⟩] 5) ∈ all)
    (m3 : (D2, ({ cls := .type "tuple", data := .seq #[.ref D1, .int b t3] } : Obj)) ∈ all) (m4 : (D1, ({ cls := .type "tuple", data := .seq vs.toArray } : Obj)) ∈ all) :
    ∃ tl, Fr h₀ L h' m ∧ News h₀ L h' (tl ++ news) ∧ (∀ p ∈ tl, ∀ q ∈ news, p.1 ≠ q.1) ∧ ∀ h, (∀ p ∈ tl, h.get? p.1 = some p.2) → LeadAt h x raw n nt cs b := by
  obtain ⟨Fg, Ng⟩ := kh g fun _ _ e => e
  obtain ⟨F, N⟩ := kh h' F1.keep
  have hL : ∀ p ∈ all, p.1 ≠ L := fun p hp e => by
    obtain ⟨o, es, ep, ho, _⟩ := Fg.ns
    have := (N1 p hp).2.2
    rw [e, ho] at this; cases this
  have hn : ∀ p ∈ all, ∀ q ∈ news, p.1 ≠ q.1 := fun p hp q hq e => by
    have h1 := (N1 p hp).2.2
    rw [e, (Ng q hq).1] at h1; cases h1
  refine ⟨all, F, fun p hp => ?_, hn, fun h hh => ?_⟩
  · rcases List.mem_append.mp hp with q | q
    · exact ⟨(N1 p q).1, hL p q, kn _ (N1 p q).2.2⟩
    · exact N p q
  · refine ⟨dx, D2, D1, vs, t1, t2, t3, hr, hn_, hnt, hno, hsi, k1, k2, k3, k4, k5, hh _ m1, ?_, ⟨_, hh _ m3, rfl, 0, rfl⟩, ⟨_, hh _ m4, rfl, 0, rfl⟩, hvs⟩
    rw [show decide (cs.length ≤ 1) = decide ((cs.length : Int) ≤ 1) from decide_eq_decide.mpr (by omega)]
    exact hh _ m2
end Mine

namespace Mine
/-! contracts of functions that change objects that were there: these (hid) are taken out of the base heap g and given along -/
def RetG (g : Heap) (s : Shared) (Q : Value → Shared → Prop) (Out : List (Addr × Obj) → Value → Prop) : Prop :=
  ∀ r h' tk' tl, Kp g h' → (∀ p ∈ tl, h'.get? p.1 = some p.2 ∧ g.get? p.1 = none) → Out tl r → Q r { s with heap := h', toks := tk' }
structure GL (g h : Heap) (hid : List (Addr × Obj)) : Prop where
  k : Kp g h
  sz : g.objs.size ≤ h.objs.size
  n : ∀ p ∈ hid, h.get? p.1 = some p.2 ∧ g.get? p.1 = none
section
variable {prog : Program} {w : World} {mean : ExcName → Option Value} {mg mb : Str → Option Value} {dp un : Nat} {gd : Option (List Code)} {base g : Heap} {outer : List Env} {s : Shared} {hid : List (Addr × Obj)}
theorem retGEnd {Q : Value → Shared → Prop} {Out : List (Addr × Obj) → Value → Prop} {r : Value} {h' : Heap} {tk' : Nat} {tl news : List (Addr × Obj)} {L' : Addr} {m' : Str → Option Value} (R : RetG g s Q Out) (F : Fr g L' h' m') (N : News g L' h' news) (hs : ∀ p ∈ tl, p ∈ news) (o : Out tl r) :
    Q r { s with heap := h', toks := tk' } := R r h' tk' tl F.keep (fun p hp => ⟨(N p (hs p hp)).1, (N p (hs p hp)).2.2⟩) o

theorem lessOf {A₀ : Around} {h₀ : Heap} {L : Addr} {m : Str → Option Value} {env : Env} {all news : List (Addr × Obj)} (B : Below A₀ base outer h₀) (X : (hd.heap_39 w.params).In h₀) (T : Top topProg LS mean mg mb h₀) (F : Fr h₀ L s.heap m) (N : News h₀ L s.heap all)
    (hs : ∀ p ∈ hid, p ∈ all) (hn : ∀ p ∈ news, p ∈ all) (hne : ∀ p ∈ hid, ∀ q ∈ news, q.1 ≠ p.1) (hf : env.frame = some L) (hk : env.scope.kind = .function) :
    ∃ g, Rdy w mean mg mb (A₀.deeper env) base (env :: outer) g ∧ GL g s.heap hid ∧ (∀ b o, s.heap.get? b = some o → (∀ p ∈ hid, p.1 ≠ b) → g.get? b = some o) ∧
      ∀ (Q : Value → Shared → Prop) (Out : List (Addr × Obj) → Value → Prop), (∀ r h' tk' tl, Fr h₀ L h' m → News h₀ L h' (tl ++ news) → (∀ p ∈ tl, ∀ q ∈ news, p.1 ≠ q.1) → Out tl r → Q r { s with heap := h', toks := tk' }) → RetG g s Q Out := by
  have nin : ∀ b, (∀ p ∈ hid, p.1 ≠ b) → b ∉ hid.map (·.1) := fun b h1 hm => by
    obtain ⟨p, hp, rfl⟩ := List.mem_map.mp hm
    exact h1 p hp rfl
  have kg : ∀ b o, h₀.get? b = some o → (less s.heap (hid.map (·.1))).get? b = some o := fun b o e => less_get (F.keep b o e) (nin b fun p hp q => by
    have := (N p (hs p hp)).2.2
    rw [q, e] at this; cases this)
  have back : ∀ h'', Kp (less s.heap (hid.map (·.1))) h'' → Fr h₀ L h'' m ∧ News h₀ L h'' news := fun h'' k => by
    refine ⟨⟨?_, fun b o e => k b o (kg b o e), F.above⟩, fun p hp => ⟨k _ _ (less_get (N p (hn p hp)).1 (nin _ fun q hq e => hne q hq p hp e.symm)), (N p (hn p hp)).2⟩⟩
    exact F.ns.at' fun o e => k _ _ (less_get e (nin _ fun q hq => (N q (hs q hq)).2.1))
  obtain ⟨Fg, Ng⟩ := back _ fun _ _ e => e
  refine ⟨less s.heap (hid.map (·.1)), ⟨pushX B Fg hf hk, X.keeps kg, T.keeps kg⟩, ⟨fun b o e => of_less e, by rw [less_size]; exact Nat.le_refl _, fun p hp => ⟨(N p (hs p hp)).1, less_none (List.mem_map_of_mem hp)⟩⟩, fun b o e hb => less_get e (nin b hb), ?_⟩
  intro Q Out k r h' tk' tl hkp ht o
  obtain ⟨F', N'⟩ := back h' hkp
  refine k r h' tk' tl F' (fun p hp => ?_) (fun p hp q hq e => ?_) o
  · rcases List.mem_append.mp hp with q | q
    · refine ⟨(ht p q).1, fun e => ?_, ?_⟩
      · obtain ⟨o, es, ep, ho, _⟩ := Fg.ns
        have := (ht p q).2
        rw [e, ho] at this; cases this
      · cases e : h₀.get? p.1 with
        | none => rfl
        | some o => have := kg _ _ e; rw [(ht p q).2] at this; cases this
    · exact N' p q
  · have := (ht p hp).2
    rw [e, (Ng q hq).1] at this; cases this

theorem enterDg {R : Result → Shared → Prop} {name qual : Str} {params : Arguments} {body : List Stmt} {scope : Scope} {dV kV doc pm cdv ct oc : Value} {an od : Option Addr} {osl : Array (Option Value)} {f : Addr} {args : Args} {binds : List (Str × Value)}
    (W : Rdy w mean mg mb (ar dp un gd outer) base outer g) (G : GL g s.heap hid)
    (ho : (hd.heap_39 w.params).lookup f = some ⟨oc, od, .func (fnOf name qual params body scope dV kV doc pm an cdv ct), osl⟩) (hcd : codeIn (hd.heap_39 w.params) cdv qual = true)
    (hroom : dp < recursionLimit)
    (hbind : BindsTo s (fnOf name qual params body scope dV kV doc pm an cdv ct) args binds) (hloc : ∀ y ∈ binds, scope.names.lookup y.1 = some .local)
    (h : ∀ h₁, Fr g s.heap.objs.size h₁ (fun y => binds.reverse.lookup y) → News g s.heap.objs.size h₁ hid → Below (ar dp un gd outer) base outer g → (hd.heap_39 w.params).In g → Top topProg LS mean mg mb g →
      wpAny (model prog w) ((ar dp un gd outer).deeper (envOf qual scope s.heap.objs.size f cdv)) (execs body (envOf qual scope s.heap.objs.size f cdv))
        (fun fl s' => R (.ok (.ret (match fl with | .ret v => v | _ => .none))) s')
        (fun _ _ => False)
        { s with heap := h₁, toks := s.toks + binds.length })
    (hco : scope.isCoroutine = false) (hgen : scope.isGenerator = false) (hk : scope.kind = .function)
    (hcell : ∀ x ∈ scope.names, x.2 ≠ .cell) : codeAny (model prog w) (ar dp un gd outer) (.call (.ref f) args) R s := by
  refine codeAny_call_def (fd := fnOf name qual params body scope dV kV doc pm an cdv ct) (body := body) (binds := binds) hroom ((W.K.keeps G.k) _ _ ho) rfl (W.T.nolimit.keeps G.k) (codeRec_of (W.K.keeps G.k) hcd) rfl hbind hcell hloc (fun h₁ hns hk₁ => ?_) hco hgen hk
  refine wpAny_mono (h h₁ ⟨hns, fun b o e => hk₁ b o (G.k b o e), G.sz⟩ (fun p hp => ⟨hk₁ _ _ (G.n p hp).1, Nat.ne_of_lt (Heap.lt_size (G.n p hp).1), (G.n p hp).2⟩) W.B W.K W.T) (fun _ _ x => x) (fun _ _ x => x.elim)

theorem enterCg {R : Result → Shared → Prop} {name qual : Str} {params : Arguments} {body : List Stmt} {scope : Scope} {dV kV doc pm cdv ct oc : Value} {an od : Option Addr} {osl : Array (Option Value)} {f : Addr} {args : Args} {binds : List (Str × Value)}
    (W : Rdy w mean mg mb (ar dp un gd outer) base outer g) (G : GL g s.heap hid)
    (ho : (hd.heap_39 w.params).lookup f = some ⟨oc, od, .func (fnOf name qual params body scope dV kV doc pm an cdv ct), osl⟩) (hcd : codeIn (hd.heap_39 w.params) cdv qual = true)
    (hroom : dp < recursionLimit)
    (hbind : BindsTo s (fnOf name qual params body scope dV kV doc pm an cdv ct) args binds) (hkind : (binds.all fun y => scope.names.lookup y.1 == some .local || scope.names.lookup y.1 == some .cell) = true)
    (hnd : ((cellsFrom 0 scope.names []).map (·.1)).Nodup)
    (h : ∀ h₁ tk cells, Fr g s.heap.objs.size h₁ (bindL (envOfC qual scope s.heap.objs.size f cdv).kindOf binds fun _ => none) → News g s.heap.objs.size h₁ (cells ++ hid) →
      CellsAre (bindC (envOfC qual scope s.heap.objs.size f cdv).kindOf binds fun _ => none) (cellsFrom (s.heap.objs.size + 1) scope.names []) cells → (∀ p ∈ cells, ∀ q ∈ hid, (@Ne Nat p.1 q.1)) → Below (ar dp un gd outer) base outer g → (hd.heap_39 w.params).In g → Top topProg LS mean mg mb g →
      wpAny (model prog w) ((ar dp un gd outer).deeper (envOfC qual scope s.heap.objs.size f cdv)) (execs body (envOfC qual scope s.heap.objs.size f cdv))
        (fun fl s' => R (.ok (.ret (match fl with | .ret v => v | _ => .none))) s')
        (fun _ _ => False)
        { s with heap := h₁, toks := tk })
    (hco : scope.isCoroutine = false) (hgen : scope.isGenerator = false) (hk : scope.kind = .function) : codeAny (model prog w) (ar dp un gd outer) (.call (.ref f) args) R s := by
  refine codeAny_call_function hroom ((W.K.keeps G.k) _ _ ho) rfl hco hgen rfl (codeRec_of (W.K.keeps G.k) hcd) (hbind _ _ _ _ ?_)
  refine wpAny_newFunctionEnv_cells hk (kindsX hkind _) fun env' he s' x => ?_
  subst he
  refine ⟨(W.T.nolimit.keeps G.k).keeps x.toInCall.keep, codeAny_func ?_⟩
  obtain ⟨h₁, tk, rfl, _⟩ := x.done
  have hk₁ := x.toInCall.keep
  obtain ⟨cells, NC, Y⟩ := Cl.news (h₀ := s.heap) (Nat.le_refl _) fun n c hm => ⟨x.cell n c (lookup_of_mem_nodup (cellsFrom_names scope.names 0 (s.heap.objs.size + 1) [] [] rfl ▸ hnd) hm), x.above n c hm⟩
  have none_g : ∀ b, s.heap.get? b = none → g.get? b = none := fun b e => by
    cases q : g.get? b with
    | none => rfl
    | some o => have := G.k _ _ q; rw [e] at this; cases this
  refine wpAny_mono (h h₁ tk cells ⟨x.toInCall.ns, fun b o e => hk₁ b o (G.k b o e), G.sz⟩ (fun p hp => ?_) Y (fun p hp q hq => ?_) W.B W.K W.T) (fun _ _ x => x) (fun _ _ x => x.elim)
  · rcases List.mem_append.mp hp with hp | hp
    · exact ⟨(NC p hp).1, (NC p hp).2.1, none_g _ (NC p hp).2.2⟩
    · exact ⟨hk₁ _ _ (G.n p hp).1, Nat.ne_of_lt (Heap.lt_size (G.n p hp).1), (G.n p hp).2⟩
  · intro e
    have := (NC p hp).2.2
    rw [e, (G.n q hq).1] at this; cases this
end
theorem insEq {vs : List Value} {p : Int} {y : Value} (h : 0 ≤ p ∧ p ≤ vs.length) : kl_ins vs p y = vs.take p.toNat ++ y :: vs.drop p.toNat := by
  unfold kl_ins
  have e : (if p < 0 then (p + (vs.length : Int)).toNat else min p.toNat vs.length) = p.toNat := by
    rw [if_neg (by omega)]; omega
  simp only [e]
theorem fitsIdx {p : Int} (h : 0 ≤ p ∧ p ≤ 1000) : Builtin.List.listFitsIndex p = true := by
  unfold Builtin.List.listFitsIndex
  simp only [Bool.and_eq_true, decide_eq_true_eq]
  omega
theorem intsTake : ∀ {vs : List Value} {ns : List Int} (k : Nat), IntsAre vs ns → IntsAre (vs.take k) (ns.take k)
  | _, _, 0, _ => by rw [List.take_zero, List.take_zero]; exact .nil
  | _, _, _ + 1, .nil => .nil
  | _, _, k + 1, .cons n u r => .cons n u (intsTake k r)
theorem intsDrop : ∀ {vs : List Value} {ns : List Int} (k : Nat), IntsAre vs ns → IntsAre (vs.drop k) (ns.drop k)
  | _, _, 0, h => h
  | _, _, _ + 1, .nil => .nil
  | _, _, k + 1, .cons _ _ r => intsDrop k r
theorem intsApp : ∀ {vs ws : List Value} {ns ms : List Int}, IntsAre vs ns → IntsAre ws ms → IntsAre (vs ++ ws) (ns ++ ms)
  | _, _, _, _, .nil, h => h
  | _, _, _, _, .cons n u r, h => .cons n u (intsApp r h)
theorem intsIns {vs : List Value} {ns : List Int} {k : Nat} {x : Int} {t : Tok} (h : IntsAre vs ns) : IntsAre (vs.take k ++ .int x t :: vs.drop k) (ns.take k ++ x :: ns.drop k) :=
  intsApp (intsTake k h) (.cons x t (intsDrop k h))
end Mine

namespace Mine
/-- the code table of a function that makes lambdas: as it was before this lambda (ps0), or with its code in it -/
def TabOk (ps0 : Array Value) (pos : Pos) (qual : Str) (others : List Addr) (ps : Array Value) (C : Addr) (oC : Obj) : Prop :=
  ps = ps0 ∨ ∃ vs t, ps = ps0 ++ #[rawInt pos.line, rawInt pos.col, .ref C] ∧ (@Ne Nat C 180) ∧ (∀ q ∈ others, q ≠ C) ∧ oC.data = .fields vs ∧ vs[1]? = some (.str qual t)
section
variable {M : Model} {A : Around} {E : Value → Shared → Prop} {s : Shared} {h₀ : Heap} {L a c : Addr} {m mg mb : Str → Option Value} {cn : Str} {cs : Scope} {ccd : Value} {cl : List (Str × Addr)} {all others : List (Addr × Obj)}
  {p : Program} {loose : List Str} {mean : ExcName → Option Value} {name qual : Str} {params : Arguments} {body : PySem.Expr} {scope : Scope} {ps0 ps : Array Value} {pos : Pos} {firstLine : Nat} {clos : List (Str × Addr)} {C : Addr} {oC : Obj}
theorem kla_any {Q : Value → Shared → Prop} (F : Fr h₀ L s.heap m) (N : News h₀ L s.heap all) (T : Top p loose mean mg mb h₀) (H : CodeHd h₀ c 180) (hcd : ccd = .ref c)
    (m1 : (180, tabObj ps) ∈ all) (m2 : (C, oC) ∈ all) (m3 : ∀ p ∈ others, p ∈ all) (hne : ∀ q ∈ others, q.1 ≠ 180) (ht0 : TriplesOk ps0.toList) (hnf : codeAmong pos ps0.toList = none) (ht1 : ∀ C : Addr, TriplesOk (ps0 ++ #[rawInt pos.line, rawInt pos.col, .ref C]).toList)
    (hhit : ∀ C : Addr, codeAmong pos (ps0 ++ #[rawInt pos.line, rawInt pos.col, .ref C]).toList = some (.ref C)) (K : TabOk ps0 pos qual (others.map (·.1)) ps C oC)
    (hcl : closureFor scope (envX cn cs L a ccd cl) = pure clos)
    (h : ∀ f c' oc vs t ctv h' tk, Fr h₀ L h' m →
      News h₀ L h' ((f, kla_obj name qual params body scope clos ((mg "__name__").getD .none) c' ctv) :: (180, tabObj (ps0 ++ #[rawInt pos.line, rawInt pos.col, .ref c'])) :: (c', oc) :: others) →
      oc.data = .fields vs → vs[1]? = some (.str qual t) → (@Ne Nat c' 180) → (∀ q ∈ others, (@Ne Nat q.1 c')) → (∀ q ∈ others, q.1 < f) → c' < f → 180 < f → Q (.ref f) { s with heap := h', toks := tk }) :
    wpAny M A (makeFunction name qual params (.expr body) scope (envX cn cs L a ccd cl) [] [] [] pos firstLine) Q E s := by
  rcases K with rfl | ⟨vs, t, rfl, k1, k2, k3, k4⟩
  · have N0 : News h₀ L s.heap ((180, tabObj ps) :: others) := fun p hp => by
      rcases List.mem_cons.mp hp with rfl | hp
      · exact N _ m1
      · exact N _ (m3 p hp)
    refine kla_nest F N0 T H hcd (.head hne) ht0 hnf hcl ?_
    intro f c' oc vs t ctv h' tk F' N' d1 d2 l1 l2
    have q180 : 180 < c' := l1 _ (.head _)
    refine h f c' oc vs t ctv h' tk F' (fun p hp => N' p ?_) d1 d2 (Nat.ne_of_gt q180) (fun q hq => Nat.ne_of_lt (l1 q (.tail _ hq))) (fun q hq => Nat.lt_trans (l1 q (.tail _ hq)) l2) l2 (Nat.lt_trans q180 l2)
    rcases List.mem_cons.mp hp with rfl | hp
    · exact .head _
    · rcases List.mem_cons.mp hp with rfl | hp
      · exact .tail _ (.tail _ (.head _))
      · rcases List.mem_cons.mp hp with rfl | hp
        · exact .tail _ (.head _)
        · exact .tail _ (.tail _ (.tail _ hp))
  · refine kla_hit F N T H hcd m1 (ht1 C) (hhit C) hcl ?_
    intro f ctv h' tk F' N' l1
    refine h f C oC vs t ctv h' tk F' (fun p hp => N' p ?_) k3 k4 k1 (fun q hq => k2 _ (List.mem_map_of_mem hq)) (fun q hq => l1 q (m3 q hq)) (l1 _ m2) (l1 _ m1)
    rcases List.mem_cons.mp hp with rfl | hp
    · exact .head _
    · rcases List.mem_cons.mp hp with rfl | hp
      · exact .tail _ m1
      · rcases List.mem_cons.mp hp with rfl | hp
        · exact .tail _ m2
        · exact .tail _ (m3 p hp)
theorem TabOk.more {others : List Addr} {x : Addr} (h : @Ne Nat C x) (K : TabOk ps0 pos qual others ps C oC) : TabOk ps0 pos qual (x :: others) ps C oC := by
  rcases K with rfl | ⟨vs, t, rfl, k1, k2, k3, k4⟩
  · exact .inl rfl
  · exact .inr ⟨vs, t, rfl, k1, fun q hq => by
      rcases List.mem_cons.mp hq with rfl | hq
      · exact h.symm
      · exact k2 q hq, k3, k4⟩
theorem kla_row {Q : Value → Shared → Prop} {more : List (Addr × Obj)} {I R cc : Addr} {o Ro occ : Obj} (F : Fr h₀ L s.heap m) (N : News h₀ L s.heap ((I, o) :: (180, tabObj ps) :: (C, oC) :: (cc, occ) :: (R, Ro) :: more)) (T : Top p loose mean mg mb h₀) (H : CodeHd h₀ c 180) (hcd : ccd = .ref c)
    (h180 : @Ne Nat 180 I) (hCI : @Ne Nat C I) (hc180 : @Ne Nat cc 180) (hR180 : @Ne Nat R 180) (hRI : @Ne Nat R I) (hcR : @Ne Nat cc R) (hm180 : ∀ q ∈ more, q.1 ≠ 180) (hmR : ∀ q ∈ more, q.1 ≠ R)
    (ht0 : TriplesOk ps0.toList) (hnf : codeAmong pos ps0.toList = none) (ht1 : ∀ C : Addr, TriplesOk (ps0 ++ #[rawInt pos.line, rawInt pos.col, .ref C]).toList)
    (hhit : ∀ C : Addr, codeAmong pos (ps0 ++ #[rawInt pos.line, rawInt pos.col, .ref C]).toList = some (.ref C)) (K : TabOk ps0 pos qual (cc :: R :: more.map (·.1)) ps C oC)
    (hcl : closureFor scope (envX cn cs L a ccd cl) = pure clos)
    (h : ∀ f c' oc vs t ctv h' tk, Fr h₀ L h' m →
      News h₀ L h' ((R, Ro) :: (f, kla_obj name qual params body scope clos ((mg "__name__").getD .none) c' ctv) :: (180, tabObj (ps0 ++ #[rawInt pos.line, rawInt pos.col, .ref c'])) :: (c', oc) :: (cc, occ) :: (I, o) :: more) →
      oc.data = .fields vs → vs[1]? = some (.str qual t) → (∀ q ∈ (f, kla_obj name qual params body scope clos ((mg "__name__").getD .none) c' ctv) :: (180, tabObj (ps0 ++ #[rawInt pos.line, rawInt pos.col, .ref c'])) :: (c', oc) :: (cc, occ) :: (I, o) :: more, q.1 ≠ R) →
      (@Ne Nat c' 180) → (∀ q ∈ cc :: R :: more.map (·.1), q ≠ c') → (@Ne Nat c' I) → Q (.ref f) { s with heap := h', toks := tk }) :
    wpAny M A (makeFunction name qual params (.expr body) scope (envX cn cs L a ccd cl) [] [] [] pos firstLine) Q E s := by
  refine kla_any (others := (cc, occ) :: (R, Ro) :: (I, o) :: more) F N T H hcd (.tail _ (.head _)) (.tail _ (.tail _ (.head _))) ?_ ?_ ht0 hnf ht1 hhit ?_ hcl ?_
  · intro p hp
    simp only [List.mem_cons] at hp ⊢
    rcases hp with h | h | h | h <;> simp only [h, true_or, or_true]
  · intro q hq
    simp only [List.mem_cons] at hq
    rcases hq with rfl | rfl | rfl | hq
    · exact hc180
    · exact hR180
    · exact h180.symm
    · exact hm180 q hq
  · rcases K with rfl | ⟨vs, t, rfl, k1, k2, k3, k4⟩
    · exact .inl rfl
    · refine .inr ⟨vs, t, rfl, k1, fun q hq => ?_, k3, k4⟩
      simp only [List.map_cons, List.mem_cons] at hq
      rcases hq with rfl | rfl | rfl | hq
      · exact k2 _ (.head _)
      · exact k2 _ (.tail _ (.head _))
      · exact hCI.symm
      · exact k2 _ (.tail _ (.tail _ hq))
  · intro f c' oc vs t ctv h' tk F' N' d1 d2 n1 n2 l1 l2 l3
    have nR : (@Ne Nat R c') := n2 _ (.tail _ (.head _))
    have lR : R < f := l1 (R, Ro) (.tail _ (.head _))
    refine h f c' oc vs t ctv h' tk F' (fun p hp => N' p ?_) d1 d2 (fun q hq => ?_) n1 (fun q hq => ?_) (n2 _ (.tail _ (.tail _ (.head _)))).symm
    · simp only [List.mem_cons] at hp ⊢
      rcases hp with h | h | h | h | h | h | h <;> simp only [h, true_or, or_true]
    · simp only [List.mem_cons] at hq
      rcases hq with rfl | rfl | rfl | rfl | rfl | hq
      · exact Nat.ne_of_gt lR
      · exact hR180.symm
      · exact nR.symm
      · exact hcR
      · exact hRI.symm
      · exact hmR q hq
    · simp only [List.mem_cons] at hq
      rcases hq with rfl | rfl | hq
      · exact n2 _ (.head _)
      · exact nR
      · obtain ⟨p, hp, rfl⟩ := List.mem_map.mp hq
        exact n2 p (.tail _ (.tail _ (.tail _ hp)))
end
theorem fl16_ltB {a b : Nat} (ha : a ≤ 12) (hb : b ≤ 12) : (Float64.cmp (fl16 a) (fl16 b) == some Ordering.lt) = decide (a < b) := fl16_lt a ha b hb
theorem fl8_ltB {a b : Nat} (ha : a ≤ 8) (hb : b ≤ 8) : (Float64.cmp (fl8 a) (fl8 b) == some Ordering.lt) = decide (a < b) := fl8_lt a ha b hb
theorem newsRot4 {h₀ h : Heap} {L : Addr} {a b c d e : Addr × Obj} {r : List (Addr × Obj)} (N : News h₀ L h (a :: b :: c :: d :: e :: r)) : News h₀ L h (e :: a :: b :: c :: d :: r) := fun p hp => N p (by
  simp only [List.mem_cons] at hp ⊢
  rcases hp with h | h | h | h | h | h <;> simp only [h, true_or, or_true])
abbrev rowQual : Str := (Str.ofString "_law_row" ++ Str.ofString ".<locals>.") ++ Str.ofString "<lambda>"
abbrev rowPos1 : Pos := ⟨191, 35, 191, 59⟩
abbrev rowPos2 : Pos := ⟨194, 33, 194, 57⟩
structure RowS where
  ps : Array Value
  C : Addr
  oC : Obj
  vs : List Value
  k : Nat
abbrev rowLed (cc R : Addr) (occ : Obj) (more : List (Addr × Obj)) (c : RowS) : List (Addr × Obj) := (180, tabObj c.ps) :: (c.C, c.oC) :: (cc, occ) :: (R, listOf c.vs.toArray c.k) :: more
def rowP1 (l : Nat → Nat) (cc R : Addr) (i : Nat) (c : RowS) : Prop := TabOk #[] rowPos1 rowQual [cc, R] c.ps c.C c.oC ∧ ∃ ns, IntsAre c.vs ns ∧ Ris l i ns
def rowP2 (l v : Nat → Nat) (ps0 : Array Value) (full : List Int) (cc R V : Addr) (i : Nat) (c : RowS) : Prop := TabOk ps0 rowPos2 rowQual [cc, R, V] c.ps c.C c.oC ∧ ∃ ns, IntsAre c.vs ns ∧ Rw l v (full.take i) ns
section
variable {prog : Program} {w : World} {A : Around} {E : Value → Shared → Prop} {s : Shared} {h₀ : Heap} {env : Env}
theorem loopRow1 {x : Str} {body : List Stmt} {Q : Flow → Shared → Prop} {r : Addr} {t₀ u₀ v₀ : Tok} {m₀ : Str → Option Value} {all : List (Addr × Obj)} {cc R : Addr} {occ : Obj} (l : Nat → Nat)
    (hh : A.handled = none) (hr : IsRange s.heap r 0 6 1 t₀ u₀ v₀) (F : Fr h₀ env.locals s.heap m₀) (N : News h₀ env.locals s.heap all)
    (m1 : (180, tabObj #[]) ∈ all) (m2 : (cc, occ) ∈ all) (m3 : (R, listOf #[] 0) ∈ all)
    (turn : ∀ i ps C oC vs ns k I h tk o t, i < 6 → TabOk #[] rowPos1 rowQual [cc, R] ps C oC → IntsAre vs ns → Ris l i ns → (@Ne Nat 180 I) → (@Ne Nat C I) → (@Ne Nat cc I) → (@Ne Nat R I) →
      Fr h₀ env.locals h (fun y => if y = x then some (.int (i : Int) t) else m₀ y) → News h₀ env.locals h [(I, o), (180, tabObj ps), (C, oC), (cc, occ), (R, listOf vs.toArray k)] →
      wpAny (model prog w) A (execs body env) (TP h₀ env.locals I o (rowLed cc R occ []) (fun _ => []) x [] m₀ (rowP1 l cc R (i + 1)) { s with heap := h, toks := tk } Q) E { s with heap := h, toks := tk })
    (done : ∀ ps C oC vs ns k (u : Str → Option Value) h tk, TabOk #[] rowPos1 rowQual [cc, R] ps C oC → IntsAre vs ns → Ris l 6 ns → Fr h₀ env.locals h (fun y => if y = x then u y else m₀ y) →
      News h₀ env.locals h [(180, tabObj ps), (C, oC), (cc, occ), (R, listOf vs.toArray k)] → Q .next { s with heap := h, toks := tk }) :
    wpAny (model prog w) A (pyIter (.ref r)) (fun it s₂ => LoopAtV prog w A h₀ env x body Q E it s₂) E s := by
  refine loopR (σ := RowS) (n := 6) (rowLed cc R occ []) (fun _ => []) [] (rowP1 l cc R) ⟨#[], cc, occ, [], 0⟩ hh hr (by decide) (by rfl) F (fun p hp => N p ?_) (fun _ hp => nomatch hp) ⟨.inl rfl, [], .nil, Ris.nil l⟩ ?_ ?_
  · simp only [List.mem_cons, List.not_mem_nil, or_false] at hp
    rcases hp with rfl | rfl | rfl | rfl
    · exact m1
    · exact m2
    · exact m2
    · exact m3
  · rintro ⟨ps, C, oC, vs, k⟩ i u I h tk o t hi ⟨h1, ns, h2, h3⟩ hI F N
    refine turn i ps C oC vs ns k I h tk o t hi h1 h2 h3 (hI _ (.head _)) (hI _ (.tail _ (.head _))) (hI _ (.tail _ (.tail _ (.head _)))) (hI _ (.tail _ (.tail _ (.tail _ (.head _))))) ?_ N
    rw [Int.zero_add] at F
    exact F
  · rintro ⟨ps, C, oC, vs, k⟩ u h tk ⟨h1, ns, h2, h3⟩ F N
    exact done ps C oC vs ns k u h tk h1 h2 h3 F N
theorem loopRow2 {x : Str} {body : List Stmt} {Q : Flow → Shared → Prop} {m₀ : Str → Option Value} {all : List (Addr × Obj)} {cc R V : Addr} {occ : Obj} {rv : List Value} {kv : Nat} {full : List Int} {ps0 : Array Value} (l v : Nat → Nat)
    (hh : A.handled = none) (hi : IntsAre rv full) (F : Fr h₀ env.locals s.heap m₀) (N : News h₀ env.locals s.heap all)
    (m1 : (180, tabObj ps0) ∈ all) (m2 : (cc, occ) ∈ all) (m3 : (R, listOf #[] 0) ∈ all) (m4 : (V, listOf rv.toArray kv) ∈ all)
    (turn : ∀ i x' ps C oC vs ns k I h tk o t, i < full.length → full[i]? = some x' → TabOk ps0 rowPos2 rowQual [cc, R, V] ps C oC → IntsAre vs ns → Rw l v (full.take i) ns → (@Ne Nat 180 I) → (@Ne Nat C I) → (@Ne Nat cc I) → (@Ne Nat R I) → (@Ne Nat V I) →
      Fr h₀ env.locals h (fun y => if y = x then some (.int x' t) else m₀ y) → News h₀ env.locals h [(I, o), (180, tabObj ps), (C, oC), (cc, occ), (R, listOf vs.toArray k), (V, listOf rv.toArray kv)] →
      wpAny (model prog w) A (execs body env) (TP h₀ env.locals I o (rowLed cc R occ [(V, listOf rv.toArray kv)]) (fun _ => []) x [] m₀ (rowP2 l v ps0 full cc R V (i + 1)) { s with heap := h, toks := tk } Q) E { s with heap := h, toks := tk })
    (done : ∀ ps ns vs k (u : Str → Option Value) h tk, IntsAre vs ns → Rw l v full ns → Fr h₀ env.locals h (fun y => if y = x then u y else m₀ y) → News h₀ env.locals h [(R, listOf vs.toArray k), (180, tabObj ps)] → Q .next { s with heap := h, toks := tk }) :
    wpAny (model prog w) A (pyIter (.ref V)) (fun it s₂ => LoopAtV prog w A h₀ env x body Q E it s₂) E s := by
  refine loopNI (σ := RowS) (rowLed cc R occ [(V, listOf rv.toArray kv)]) (fun _ => []) [] (rowP2 l v ps0 full cc R V) ⟨ps0, cc, occ, [], 0⟩ hh (fun c => .tail _ (.tail _ (.tail _ (.tail _ (.head _))))) hi F (fun p hp => N p ?_) (fun _ hp => nomatch hp) ⟨.inl rfl, [], .nil, by rw [List.take_zero]; exact Rw.nil l v⟩ ?_ ?_
  · simp only [List.mem_cons, List.not_mem_nil, or_false] at hp
    rcases hp with rfl | rfl | rfl | rfl | rfl
    · exact m1
    · exact m2
    · exact m2
    · exact m3
    · exact m4
  · rintro ⟨ps, C, oC, vs, k⟩ i x' t u I h tk o hi hx ⟨h1, ns, h2, h3⟩ hI F N
    exact turn i x' ps C oC vs ns k I h tk o t hi hx h1 h2 h3 (hI _ (.head _)) (hI _ (.tail _ (.head _))) (hI _ (.tail _ (.tail _ (.head _)))) (hI _ (.tail _ (.tail _ (.tail _ (.head _))))) (hI _ (.tail _ (.tail _ (.tail _ (.tail _ (.head _)))))) F N
  · rintro ⟨ps, C, oC, vs, k⟩ u h tk ⟨h1, ns, h2, h3⟩ F N
    rw [List.take_length] at h3
    exact done ps ns vs k u h tk h2 h3 F fun p hp => by
      rcases List.mem_cons.mp hp with rfl | hp
      · exact N _ (.tail _ (.tail _ (.tail _ (.head _))))
      · rw [List.mem_singleton.mp hp]; exact N _ (.head _)
end
/-- the table behind the first loop, ready for the second -/
theorem TabOk.next {others : List Addr} {ps : Array Value} {C : Addr} {oC : Obj} (K : TabOk #[] rowPos1 rowQual others ps C oC) :
    TriplesOk ps.toList ∧ codeAmong rowPos2 ps.toList = none ∧ (∀ C : Addr, TriplesOk (ps ++ #[rawInt rowPos2.line, rawInt rowPos2.col, .ref C]).toList) ∧ ∀ C : Addr, codeAmong rowPos2 (ps ++ #[rawInt rowPos2.line, rawInt rowPos2.col, .ref C]).toList = some (.ref C) := by
  rcases K with rfl | ⟨_, _, rfl, _⟩
  · exact ⟨trivial, rfl, fun _ => trivial, fun _ => rfl⟩
  · exact ⟨trivial, rfl, fun _ => trivial, fun _ => rfl⟩
end Mine

namespace Mine
/-! the piles on the heap -/
abbrev Prs := List (Addr × List Value × Nat)
abbrev prsLed (prs : Prs) : List (Addr × Obj) := prs.map fun q => (q.1, listOf q.2.1.toArray q.2.2)
abbrev prsRef (prs : Prs) : List Value := prs.map fun q => .ref q.1
abbrev topsF (mk : Int → Int) (P : Nat → List Int) (n : Nat) : List Int := (List.range n).map (topF mk P)
abbrev ahF (ah : Int → Int) : List Int := (List.range 6).map fun (j : Nat) => ah (j : Int)
structure PrsOk (prs : Prs) (n : Nat) (P : Nat → List Int) : Prop where
  len : prs.length = n
  ia : ∀ i q, prs[i]? = some q → IntsAre q.2.1 (P i)
  nd : (prs.map (·.1)).Nodup
theorem PrsOk.nil {P : Nat → List Int} : PrsOk [] 0 P := ⟨rfl, fun i q h => by simp at h, List.nodup_nil⟩
theorem PrsOk.new {prs : Prs} {n : Nat} {P : Nat → List Int} {D : Addr} {k : Int} {t : Tok} {c : Nat} (h : PrsOk prs n P) (hD : ∀ q ∈ prs, q.1 ≠ D) (he : P n = []) : PrsOk (prs ++ [(D, [.int k t], c)]) (n + 1) (putP P n k) := by
  refine ⟨by rw [List.length_append, h.len]; rfl, fun i q hq => ?_, ?_⟩
  · rcases Nat.lt_or_ge i prs.length with hi | hi
    · rw [List.getElem?_append_left hi] at hq
      unfold putP
      rw [if_neg (by rw [h.len] at hi; omega)]
      exact h.ia i q hq
    · rw [List.getElem?_append_right hi] at hq
      have h0 : i - prs.length = 0 := by
        rcases Nat.eq_zero_or_pos (i - prs.length) with z | z
        · exact z
        · rw [List.getElem?_eq_none (by simp; omega)] at hq; cases hq
      rw [h0] at hq
      have hq := (Option.some.inj hq).symm
      subst hq
      unfold putP
      rw [if_pos (by rw [← h.len]; omega), he]
      exact .cons k t .nil
  · rw [List.map_append, List.nodup_append]
    refine ⟨h.nd, by simp, fun a ha b hb => ?_⟩
    obtain ⟨q, hq, rfl⟩ := List.mem_map.mp ha
    simp only [List.map_cons, List.map_nil, List.mem_singleton] at hb
    rw [hb]; exact hD q hq
theorem PrsOk.put {prs : Prs} {n p : Nat} {P : Nat → List Int} {a : Addr} {vs : List Value} {c : Nat} {k : Int} {t : Tok} (h : PrsOk prs n P) (hp : prs[p]? = some (a, vs, c)) : PrsOk (prs.set p (a, vs ++ [.int k t], c + 1)) n (putP P p k) := by
  have hlt := (List.getElem?_eq_some_iff.mp hp).1
  refine ⟨by rw [List.length_set, h.len], fun i q hq => ?_, ?_⟩
  · unfold putP
    by_cases hi : i = p
    · subst hi
      rw [List.getElem?_set_self hlt] at hq
      have hq := (Option.some.inj hq).symm
      subst hq
      rw [if_pos rfl]
      exact ints_snoc (h.ia i _ hp)
    · rw [List.getElem?_set_ne (Ne.symm hi)] at hq
      rw [if_neg hi]; exact h.ia i q hq
  · rw [List.map_set]
    have : (prs.map (·.1)).set p a = prs.map (·.1) := by
      apply List.ext_getElem?
      intro j
      by_cases hj : p = j
      · subst hj
        rw [List.getElem?_set_self (by rw [List.length_map]; exact hlt), List.getElem?_map, hp]; rfl
      · rw [List.getElem?_set_ne hj]
    rw [this]; exact h.nd
theorem prsRef_set {prs : Prs} {p : Nat} {a : Addr} {vs vs' : List Value} {c c' : Nat} (hp : prs[p]? = some (a, vs, c)) : prsRef (prs.set p (a, vs', c')) = prsRef prs := by
  have hlt := (List.getElem?_eq_some_iff.mp hp).1
  apply List.ext_getElem?
  intro j
  unfold prsRef
  rw [List.getElem?_map, List.getElem?_map]
  by_cases hj : p = j
  · subst hj; rw [List.getElem?_set_self hlt, hp]; rfl
  · rw [List.getElem?_set_ne hj]
/-- one of them at the head, the others behind -/
theorem prs_split {prs : Prs} {p : Nat} {q : Addr × List Value × Nat} (hp : prs[p]? = some q) : ∀ x, x ∈ prsLed prs ↔ x = (q.1, listOf q.2.1.toArray q.2.2) ∨ x ∈ prsLed (prs.eraseIdx p) := fun x => by
  have hlt := (List.getElem?_eq_some_iff.mp hp).1
  have hq := (List.getElem?_eq_some_iff.mp hp).2
  unfold prsLed
  constructor
  · intro hx
    obtain ⟨y, hy, rfl⟩ := List.mem_map.mp hx
    obtain ⟨i, hi, rfl⟩ := List.mem_iff_getElem.mp hy
    by_cases e : i = p
    · subst e; exact .inl (by rw [hq])
    · exact .inr (List.mem_map_of_mem (List.mem_eraseIdx_iff_getElem.mpr ⟨i, hi, e, rfl⟩))
  · rintro (rfl | hx)
    · exact List.mem_map_of_mem (List.mem_of_getElem? hp)
    · obtain ⟨y, hy, rfl⟩ := List.mem_map.mp hx
      exact List.mem_map_of_mem (List.mem_of_mem_eraseIdx hy)
theorem prs_off {prs : Prs} {n p : Nat} {P : Nat → List Int} {q : Addr × List Value × Nat} (h : PrsOk prs n P) (hp : prs[p]? = some q) : ∀ x ∈ prsLed (prs.eraseIdx p), x.1 ≠ q.1 := fun x hx e => by
  obtain ⟨y, hy, rfl⟩ := List.mem_map.mp hx
  obtain ⟨i, hi, hne, rfl⟩ := List.mem_eraseIdx_iff_getElem.mp hy
  have hlt := (List.getElem?_eq_some_iff.mp hp).1
  have hq := (List.getElem?_eq_some_iff.mp hp).2
  have hpw := List.pairwise_iff_getElem.mp h.nd
  have e' : (prs[i]).1 = (prs[p]).1 := by rw [hq]; exact e
  rcases Nat.lt_or_gt_of_ne hne with z | z
  · exact hpw i p (by rw [List.length_map]; exact hi) (by rw [List.length_map]; exact hlt) z (by rw [List.getElem_map, List.getElem_map]; exact e')
  · exact hpw p i (by rw [List.length_map]; exact hlt) (by rw [List.length_map]; exact hi) z (by rw [List.getElem_map, List.getElem_map]; exact e'.symm)
theorem prs_join {prs : Prs} {p : Nat} {a : Addr} {vs vs' : List Value} {c c' : Nat} (hp : prs[p]? = some (a, vs, c)) : ∀ x ∈ prsLed (prs.set p (a, vs', c')), x = (a, listOf vs'.toArray c') ∨ x ∈ prsLed (prs.eraseIdx p) := fun x hx => by
  have hlt := (List.getElem?_eq_some_iff.mp hp).1
  obtain ⟨y, hy, rfl⟩ := List.mem_map.mp hx
  obtain ⟨i, hi, rfl⟩ := List.mem_iff_getElem.mp hy
  rw [List.length_set] at hi
  by_cases e : i = p
  · subst e; left; rw [List.getElem_set_self]
  · right
    rw [List.getElem_set_ne (Ne.symm e)]
    exact List.mem_map_of_mem (List.mem_eraseIdx_iff_getElem.mpr ⟨i, hi, e, rfl⟩)
theorem tops_new {mk : Int → Int} {P : Nat → List Int} {n : Nat} {k : Int} : topsF mk (putP P n k) (n + 1) = topsF mk P n ++ [mk k] := by
  unfold topsF
  rw [List.range_succ, List.map_append]
  congr 1
  · apply List.map_congr_left
    intro i hi
    have := List.mem_range.mp hi
    unfold topF putP; rw [if_neg (by omega)]
  · simp only [List.map_cons, List.map_nil]
    unfold topF putP; rw [if_pos rfl, lastD_snoc]
theorem tops_old {mk : Int → Int} {P : Nat → List Int} {n p : Nat} {k : Int} (hp : p < n) : topsF mk (putP P p k) n = (topsF mk P n).set p (mk k) := by
  unfold topsF
  apply List.ext_getElem?
  intro i
  by_cases hi : i < n
  · by_cases e : p = i
    · subst e
      rw [List.getElem?_set_self (by rw [List.length_map, List.length_range]; exact hi), List.getElem?_map, List.getElem?_range hi]
      show some _ = _
      unfold topF putP; rw [if_pos rfl, lastD_snoc]
    · rw [List.getElem?_set_ne e, List.getElem?_map, List.getElem?_map, List.getElem?_range hi]
      show some _ = some _
      unfold topF putP; rw [if_neg (Ne.symm e)]
  · rw [List.getElem?_eq_none (by rw [List.length_map, List.length_range]; omega), List.getElem?_eq_none (by rw [List.length_set, List.length_map, List.length_range]; omega)]
theorem ah_zero {P : Nat → List Int} {ah : Int → Int} {k : Int} : putA P ah 0 k = ah := by
  funext x; unfold putA; rw [if_neg (by omega)]
theorem ah_set {P : Nat → List Int} {ah : Int → Int} {p : Nat} {k : Int} (hp : 0 < p) (hk : 0 ≤ k ∧ k < 6) : ahF (putA P ah p k) = (ahF ah).set k.toNat ((P (p - 1)).getLastD 0) := by
  unfold ahF
  apply List.ext_getElem?
  intro i
  by_cases hi : i < 6
  · by_cases e : k.toNat = i
    · subst e
      rw [List.getElem?_set_self (by rw [List.length_map, List.length_range]; exact hi), List.getElem?_map, List.getElem?_range hi]
      show some (putA P ah p k ((k.toNat : Nat) : Int)) = _
      unfold putA; rw [if_pos ⟨hp, by omega⟩]
    · rw [List.getElem?_set_ne e, List.getElem?_map, List.getElem?_map, List.getElem?_range hi]
      show some (putA P ah p k ((i : Nat) : Int)) = some (ah (i : Int))
      unfold putA; rw [if_neg (by omega)]
  · rw [List.getElem?_eq_none (by rw [List.length_map, List.length_range]; omega), List.getElem?_eq_none (by rw [List.length_set, List.length_map, List.length_range]; omega)]
theorem BInv.congr {q q' : Nat → Bool} {n : Nat} {lo hi : Int} (h : BInv q n lo hi) (e : ∀ i, i < n → q i = q' i) : BInv q' n lo hi :=
  ⟨h.a, h.b, h.c, fun i hi => by have := h.b; have := h.c; rw [← e i (by omega)]; exact h.l i hi, fun i h1 h2 => by rw [← e i h2]; exact h.r i h1 h2⟩
theorem QMono.congr {q q' : Nat → Bool} {n : Nat} (h : QMono q n) (e : ∀ i, i < n → q i = q' i) : QMono q' n := fun i j hij hj hq => by
  rw [← e i (by omega)]; rw [← e j hj] at hq; exact h i j hij hj hq
theorem tops_at {mk : Int → Int} {P : Nat → List Int} {n i : Nat} (h : i < n) : (topsF mk P n).getD i 0 = topF mk P i := by
  unfold topsF
  rw [List.getD_eq_getElem?_getD, List.getElem?_map, List.getElem?_range h]; rfl
theorem qF_left {mk : Int → Int} {P : Nat → List Int} {n : Nat} {z : Int} : ∀ i, i < n → decide ((topsF mk P n).getD i 0 < z) = qF true mk P z i := fun i hi => by rw [tops_at hi]; rfl
theorem qF_right {mk : Int → Int} {P : Nat → List Int} {n : Nat} {z : Int} : ∀ i, i < n → decide ((topsF mk P n).getD i 0 ≤ z) = qF false mk P z i := fun i hi => by rw [tops_at hi]; rfl
theorem tops_len {mk : Int → Int} {P : Nat → List Int} {n : Nat} : (topsF mk P n).length = n := by unfold topsF; rw [List.length_map, List.length_range]
end Mine

namespace Mine
structure PLS where
  tv : List Value
  tc : Nat
  pc : Nat
  av : List Value
  ac : Nat
  prs : Prs
abbrev plsLed (T PL A : Addr) (c : PLS) : List (Addr × Obj) := (T, listOf c.tv.toArray c.tc) :: (PL, listOf (prsRef c.prs).toArray c.pc) :: (A, listOf c.av.toArray c.ac) :: prsLed c.prs
def plsP (R : Int → Int → Prop) (b : Bool) (mk : Int → Int) (full : List Int) (T PL A : Addr) (i : Nat) (c : PLS) : Prop :=
  (∀ q ∈ c.prs, q.1 ≠ T ∧ q.1 ≠ PL ∧ q.1 ≠ A) ∧ ∃ n P ah, (n ≤ i ∧ ∀ j, (P j).length ≤ i) ∧ PInv R b mk (full.take i) n P ah ∧ IntsAre c.tv (topsF mk P n) ∧ IntsAre c.av (ahF ah) ∧ PrsOk c.prs n P
section
variable {prog : Program} {w : World} {Ar : Around} {E : Value → Shared → Prop} {s : Shared} {h₀ : Heap} {env : Env} {L : Addr}
theorem loopP {x : Str} {body : List Stmt} {Q : Flow → Shared → Prop} {m₀ : Str → Option Value} {l T PL A : Addr} {rv av₀ : List Value} {ac₀ : Nat} {all : List (Addr × Obj)} {full : List Int} {ah₀ : Int → Int} (R : Int → Int → Prop) (b : Bool) (mk : Int → Int)
    (hh : Ar.handled = none) (hl : h₀.IsList l rv.toArray) (hi : IntsAre rv full) (F : Fr h₀ env.locals s.heap m₀) (N : News h₀ env.locals s.heap all)
    (m1 : (T, listOf #[] 0) ∈ all) (m2 : (PL, listOf #[] 0) ∈ all) (m3 : (A, listOf av₀.toArray ac₀) ∈ all) (ha : IntsAre av₀ (ahF ah₀))
    (turn : ∀ i x' t (u : Str → Option Value) I h tk o tv tc pc av ac prs n P ah, i < full.length → full[i]? = some x' → (n ≤ i ∧ ∀ j, (P j).length ≤ i) → PInv R b mk (full.take i) n P ah → IntsAre tv (topsF mk P n) → IntsAre av (ahF ah) → PrsOk prs n P →
      (∀ q ∈ prs, (@Ne Nat q.1 I) ∧ (@Ne Nat q.1 T) ∧ (@Ne Nat q.1 PL) ∧ (@Ne Nat q.1 A)) → (@Ne Nat T I) → (@Ne Nat PL I) → (@Ne Nat A I) →
      Fr h₀ env.locals h (fun y => if y = x then some (.int x' t) else if y = Str.ofString "p" then u y else m₀ y) →
      News h₀ env.locals h ((I, o) :: (T, listOf tv.toArray tc) :: (PL, listOf (prsRef prs).toArray pc) :: (A, listOf av.toArray ac) :: prsLed prs) →
      wpAny (model prog w) Ar (execs body env) (TP h₀ env.locals I o (plsLed T PL A) (fun _ => []) x ["p"] m₀ (plsP R b mk full T PL A (i + 1)) { s with heap := h, toks := tk } Q) E { s with heap := h, toks := tk })
    (done : ∀ (u : Str → Option Value) (h : Heap) (tk : Nat) (tv : List Value) (tc pc : Nat) (av : List Value) (ac : Nat) (prs : Prs) (n : Nat) (P : Nat → List Int) (ah : Int → Int), n ≤ full.length → PInv R b mk full n P ah → IntsAre av (ahF ah) → PrsOk prs n P → (∀ q ∈ prs, (@Ne Nat q.1 T) ∧ (@Ne Nat q.1 PL) ∧ (@Ne Nat q.1 A)) →
      Fr h₀ env.locals h (fun y => if y = x then u y else if y = Str.ofString "p" then u y else m₀ y) → News h₀ env.locals h ((T, listOf tv.toArray tc) :: (PL, listOf (prsRef prs).toArray pc) :: (A, listOf av.toArray ac) :: prsLed prs) → Q .next { s with heap := h, toks := tk }) :
    wpAny (model prog w) Ar (pyIter (.ref l)) (fun it s₂ => LoopAtV prog w Ar h₀ env x body Q E it s₂) E s := by
  have hc : ∀ y : Str, List.contains [Str.ofString "p"] y = true ↔ y = Str.ofString "p" := fun y => by rw [List.contains_iff_mem, List.mem_singleton]
  have fe : ∀ (u : Str → Option Value) (v : Option Value), (fun y => if y = x then v else kstB (fun z => if List.contains [Str.ofString "p"] z then u z else m₀ z) [] y) = fun y => if y = x then v else if y = Str.ofString "p" then u y else m₀ y := fun u v => by
    funext y
    by_cases h1 : y = x
    · rw [if_pos h1, if_pos h1]
    · rw [if_neg h1, if_neg h1]
      show (if List.contains [Str.ofString "p"] y then u y else m₀ y) = _
      by_cases h2 : y = Str.ofString "p"
      · rw [if_pos h2, if_pos ((hc y).mpr h2)]
      · rw [if_neg h2, if_neg fun z => h2 ((hc y).mp z)]
  have fe2 : ∀ (u : Str → Option Value), (fun y => if y = x then u y else kstB (fun z => if List.contains [Str.ofString "p"] z then u z else m₀ z) [] y) = fun y => if y = x then u y else if y = Str.ofString "p" then u y else m₀ y := fun u => by
    funext y
    have := congrFun (fe u (u y)) y
    exact this
  refine loopLI (σ := PLS) (plsLed T PL A) (fun _ => []) ["p"] (plsP R b mk full T PL A) ⟨[], 0, 0, av₀, ac₀, []⟩ hh hl hi F (fun p hp => N p ?_) (fun _ hp => nomatch hp) ⟨fun q hq => (List.not_mem_nil hq).elim, 0, fun _ => [], ah₀, ⟨Nat.le_refl _, fun _ => Nat.le_refl _⟩, by rw [List.take_zero]; exact PInv.nil R b mk ah₀, .nil, ha, PrsOk.nil⟩ ?_ ?_
  · simp only [plsLed, prsLed, prsRef, List.map_nil, List.mem_cons, List.not_mem_nil, or_false] at hp
    rcases hp with rfl | rfl | rfl
    · exact m1
    · exact m2
    · exact m3
  · rintro ⟨tv, tc, pc, av, ac, prs⟩ i x' t u I h tk o hi hx ⟨k1, n, P, ah, k2, k3, k4, k5, k6⟩ hI F N
    refine turn i x' t u I h tk o tv tc pc av ac prs n P ah hi hx k2 k3 k4 k5 k6 (fun q hq => ⟨hI (q.1, listOf q.2.1.toArray q.2.2) (.tail _ (.tail _ (.tail _ (List.mem_map_of_mem (f := fun q : Addr × List Value × Nat => (q.1, listOf q.2.1.toArray q.2.2)) hq)))), k1 q hq⟩) (hI _ (.head _)) (hI _ (.tail _ (.head _))) (hI _ (.tail _ (.tail _ (.head _)))) ?_ N
    rw [← fe]; exact F
  · rintro ⟨tv, tc, pc, av, ac, prs⟩ u h tk ⟨k1, n, P, ah, k2, k3, k4, k5, k6⟩ F N
    rw [List.take_length] at k3
    refine done u h tk tv tc pc av ac prs n P ah k2.1 k3 k5 k6 k1 ?_ N
    rw [← fe2]; exact F
/-- behind the choice of the pile -/
def Post1 (h₀ : Heap) (L : Addr) (m₁ : Str → Option Value) (news : List (Addr × Obj)) (s₁ : Shared) (q : Nat → Bool) (n : Nat) (fl : Flow) (s₂ : Shared) : Prop :=
  fl = .next ∧ ∃ (h' : Heap) (tk : Nat) (p : Nat) (u : Tok), s₂ = { s₁ with heap := h', toks := tk } ∧ Fr h₀ L h' (fun y => if y = Str.ofString "p" then some (.int (p : Int) u) else m₁ y) ∧ News h₀ L h' news ∧ BInv q n p p
theorem Post1.intro {m₁ : Str → Option Value} {news : List (Addr × Obj)} {q : Nat → Bool} {n : Nat} {h' : Heap} {tk : Nat} {z : Int} {u : Tok} (F : Fr h₀ L h' (fun y => if y = Str.ofString "p" then some (.int z u) else m₁ y)) (N : News h₀ L h' news) (I : BInv q n z z) :
    Post1 h₀ L m₁ news s q n .next { s with heap := h', toks := tk } := by
  have hz := I.a
  have e : z = (z.toNat : Int) := by omega
  rw [e] at F I
  exact ⟨rfl, h', tk, z.toNat, u, rfl, F, N, I⟩
theorem cut1 {M : Model} {t : Sem Flow} {Q : Flow → Shared → Prop} {m₁ : Str → Option Value} {news : List (Addr × Obj)} {q : Nat → Bool} {n : Nat} (_F : Fr h₀ L s.heap m₁) (_N : News h₀ L s.heap news)
    (h : wpAny M Ar t (Post1 h₀ L m₁ news s q n) E s)
    (k : ∀ (p : Nat) u h' tk, Fr h₀ L h' (fun y => if y = Str.ofString "p" then some (.int (p : Int) u) else m₁ y) → News h₀ L h' news → BInv q n p p → Q .next { s with heap := h', toks := tk }) : wpAny M Ar t Q E s :=
  wpAny_mono h (by
    rintro fl s' ⟨rfl, h', tk, p, u, rfl, F, N, I⟩
    exact k p u h' tk F N I) fun _ _ e => e
/-- behind the putting down -/
def Post2 (h₀ : Heap) (L I T PL A : Addr) (o : Obj) (av : List Value) (ac : Nat) (m₁ : Str → Option Value) (s₁ : Shared) (tops : List Int) (P : Nat → List Int) (n : Nat) (fl : Flow) (s₂ : Shared) : Prop :=
  fl = .next ∧ ∃ (h' : Heap) (tk : Nat) (tv : List Value) (tc pc : Nat) (prs : Prs), s₂ = { s₁ with heap := h', toks := tk } ∧ Fr h₀ L h' m₁ ∧ News h₀ L h' ((I, o) :: (T, listOf tv.toArray tc) :: (PL, listOf (prsRef prs).toArray pc) :: (A, listOf av.toArray ac) :: prsLed prs) ∧
    IntsAre tv tops ∧ PrsOk prs n P ∧ ∀ q ∈ prs, (@Ne Nat q.1 I) ∧ (@Ne Nat q.1 T) ∧ (@Ne Nat q.1 PL) ∧ (@Ne Nat q.1 A)
theorem cut2 {M : Model} {t : Sem Flow} {Q : Flow → Shared → Prop} {m₁ : Str → Option Value} {I T PL A : Addr} {o o1 o2 : Obj} {av : List Value} {ac : Nat} {r : List (Addr × Obj)} (tops : List Int) (P : Nat → List Int) (n : Nat) (_F : Fr h₀ L s.heap m₁) (_N : News h₀ L s.heap ((I, o) :: (T, o1) :: (PL, o2) :: (A, listOf av.toArray ac) :: r))
    (h : wpAny M Ar t (Post2 h₀ L I T PL A o av ac m₁ s tops P n) E s)
    (k : ∀ (h' : Heap) (tk : Nat) (tv : List Value) (tc pc : Nat) (prs : Prs), Fr h₀ L h' m₁ → News h₀ L h' ((I, o) :: (T, listOf tv.toArray tc) :: (PL, listOf (prsRef prs).toArray pc) :: (A, listOf av.toArray ac) :: prsLed prs) →
      IntsAre tv tops → PrsOk prs n P → (∀ q ∈ prs, (@Ne Nat q.1 I) ∧ (@Ne Nat q.1 T) ∧ (@Ne Nat q.1 PL) ∧ (@Ne Nat q.1 A)) → Q .next { s with heap := h', toks := tk }) : wpAny M Ar t Q E s :=
  wpAny_mono h (by
    rintro fl s' ⟨rfl, h', tk, tv, tc, pc, prs, rfl, F, N, a, b, c⟩
    exact k h' tk tv tc pc prs F N a b c) fun _ _ e => e
theorem prsOff {prs : Prs} {a : Addr} (h : ∀ q ∈ prs, (@Ne Nat q.1 a)) : ∀ x ∈ prsLed prs, x.1 ≠ a := fun x hx => by
  obtain ⟨q, hq, rfl⟩ := List.mem_map.mp hx
  exact h q hq
theorem Post2.intro {I T PL A : Addr} {o : Obj} {av : List Value} {ac : Nat} {m₁ : Str → Option Value} {tops : List Int} {P : Nat → List Int} {n : Nat} {h' : Heap} {tk : Nat} {tv : List Value} {tc pc : Nat} {all : List (Addr × Obj)} (prs : Prs) (F : Fr h₀ L h' m₁) (N : News h₀ L h' all)
    (sub : ∀ x ∈ (I, o) :: (T, listOf tv.toArray tc) :: (PL, listOf (prsRef prs).toArray pc) :: (A, listOf av.toArray ac) :: prsLed prs, x ∈ all) (a : IntsAre tv tops) (b : PrsOk prs n P) (c : ∀ q ∈ prs, (@Ne Nat q.1 I) ∧ (@Ne Nat q.1 T) ∧ (@Ne Nat q.1 PL) ∧ (@Ne Nat q.1 A)) :
    Post2 h₀ L I T PL A o av ac m₁ s tops P n .next { s with heap := h', toks := tk } := ⟨rfl, h', tk, tv, tc, pc, prs, rfl, F, fun x hx => N x (sub x hx), a, b, c⟩
theorem newsSplit {h : Heap} {w1 w2 w3 w4 : Addr × Obj} {prs : Prs} {p : Nat} {q : Addr × List Value × Nat} (N : News h₀ L h (w1 :: w2 :: w3 :: w4 :: prsLed prs)) (hq : prs[p]? = some q) : News h₀ L h ((q.1, listOf q.2.1.toArray q.2.2) :: w1 :: w2 :: w3 :: w4 :: prsLed (prs.eraseIdx p)) := fun x hx => N x (by
  simp only [List.mem_cons] at hx ⊢
  rcases hx with h | h | h | h | h | h
  · exact .inr (.inr (.inr (.inr ((prs_split hq x).mpr (.inl h)))))
  · exact .inl h
  · exact .inr (.inl h)
  · exact .inr (.inr (.inl h))
  · exact .inr (.inr (.inr (.inl h)))
  · exact .inr (.inr (.inr (.inr ((prs_split hq x).mpr (.inr h))))))
theorem lastAt {vs : List Value} {l : List Int} (h : IntsAre vs l) (hne : l ≠ []) : ∃ j t, seqIndex? (-1) vs.length = some j ∧ vs[j]? = some (.int (l.getLastD 0) t) := by
  have hl : 0 < l.length := List.length_pos_iff.mpr hne
  obtain ⟨t, ht⟩ := h.get (l.length - 1) (l.getLastD 0) (by rw [List.getLastD_eq_getLast?, List.getLast?_eq_getElem?, List.getElem?_eq_getElem (by omega)]; rfl)
  refine ⟨l.length - 1, t, ?_, ht⟩
  rw [h.length]
  unfold seqIndex?
  simp only [show (-1 : Int) < 0 by decide, if_true]
  rw [if_pos (by simp only [Bool.and_eq_true, decide_eq_true_eq]; omega)]
  congr 1; omega
theorem lastRef {prs : Prs} {n : Nat} {q : Addr × List Value × Nat} (hl : prs.length = n) (hn : 0 < n) (hq : prs[n - 1]? = some q) : seqIndex? (-1) (prsRef prs).length = some (n - 1) ∧ (prsRef prs)[n - 1]? = some (.ref q.1) := by
  constructor
  · rw [List.length_map, hl]
    unfold seqIndex?
    simp only [show (-1 : Int) < 0 by decide, if_true]
    rw [if_pos (by simp only [Bool.and_eq_true, decide_eq_true_eq]; omega)]
    congr 1; omega
  · rw [List.getElem?_map, hq]; rfl
structure WayS where
  W : Addr
  wv : List Value
  wc : Nat
theorem loopW {x : Str} {body : List Stmt} {Q : Flow → Shared → Prop} {m₀ : Str → Option Value} {r PL A W₀ : Addr} {t₀ u₀ v₀ : Tok} {wv₀ av : List Value} {wc₀ pc ac n : Nat} {all : List (Addr × Obj)} {prs : Prs} {P : Nat → List Int} {h₁ : Int} (R : Int → Int → Prop) (b : Bool) (mk : Int → Int)
    (hh : Ar.handled = none) (hn : 0 < n) (hn6 : n ≤ 6) (hr : IsRange s.heap r 0 ((n : Int) - 1) 1 t₀ u₀ v₀) (F : Fr h₀ env.locals s.heap m₀) (N : News h₀ env.locals s.heap all)
    (m1 : (W₀, listOf wv₀.toArray wc₀) ∈ all) (m2 : (PL, listOf (prsRef prs).toArray pc) ∈ all) (m3 : (A, listOf av.toArray ac) ∈ all) (m4 : ∀ y ∈ prsLed prs, y ∈ all) (hw : m₀ (Str.ofString "way") = some (.ref W₀)) (hi : IntsAre wv₀ [h₁]) (hm : h₁ ∈ P (n - 1))
    (turn : ∀ i h' r' t W wv wc I h tk o, i < n - 1 → IntsAre wv (h' :: r') → WInv R b mk P (n - 1 - i) h' r' → r'.length = i → (@Ne Nat W I) → (@Ne Nat PL I) → (@Ne Nat A I) → (∀ y ∈ prsLed prs, y.1 ≠ I) →
      Fr h₀ env.locals h (fun y => if y = x then some (.int (i : Int) t) else if y = Str.ofString "way" then some (.ref W) else m₀ y) → News h₀ env.locals h ((I, o) :: (W, listOf wv.toArray wc) :: (PL, listOf (prsRef prs).toArray pc) :: (A, listOf av.toArray ac) :: prsLed prs) →
      wpAny (model prog w) Ar (execs body env) (TP h₀ env.locals I o (fun c : WayS => (c.W, listOf c.wv.toArray c.wc) :: (PL, listOf (prsRef prs).toArray pc) :: (A, listOf av.toArray ac) :: prsLed prs) (fun c => [(Str.ofString "way", .ref c.W)]) x [] m₀
        (fun c => ∃ h r, IntsAre c.wv (h :: r) ∧ WInv R b mk P (n - 1 - (i + 1)) h r ∧ r.length = i + 1) { s with heap := h, toks := tk } Q) E { s with heap := h, toks := tk })
    (done : ∀ (h' : Int) (r' : List Int) (W : Addr) (wv : List Value) (wc : Nat) (u : Str → Option Value) (h : Heap) (tk : Nat), IntsAre wv (h' :: r') → WInv R b mk P 0 h' r' → r'.length = n - 1 →
      Fr h₀ env.locals h (fun y => if y = x then u y else if y = Str.ofString "way" then some (.ref W) else m₀ y) → News h₀ env.locals h ((W, listOf wv.toArray wc) :: (PL, listOf (prsRef prs).toArray pc) :: (A, listOf av.toArray ac) :: prsLed prs) → Q .next { s with heap := h, toks := tk }) :
    wpAny (model prog w) Ar (pyIter (.ref r)) (fun it s₂ => LoopAtV prog w Ar h₀ env x body Q E it s₂) E s := by
  refine loopR (σ := WayS) (n := n - 1) (fun c : WayS => (c.W, listOf c.wv.toArray c.wc) :: (PL, listOf (prsRef prs).toArray pc) :: (A, listOf av.toArray ac) :: prsLed prs) (fun c => [(Str.ofString "way", .ref c.W)]) []
    (fun i c => ∃ h r, IntsAre c.wv (h :: r) ∧ WInv R b mk P (n - 1 - i) h r ∧ r.length = i) ⟨W₀, wv₀, wc₀⟩ hh hr (rngSmall (by decide) (by omega)) (by rw [rngSize]; omega) F (fun p hp => N p ?_) (List.forall_mem_cons.mpr ⟨hw, List.forall_mem_nil _⟩) ⟨h₁, [], hi, ⟨hm, List.pairwise_singleton _ _, List.forall_mem_cons.mpr ⟨⟨n - 1, hm⟩, List.forall_mem_nil _⟩⟩, rfl⟩ ?_ ?_
  · simp only [List.mem_cons] at hp
    rcases hp with rfl | rfl | rfl | hp
    · exact m1
    · exact m2
    · exact m3
    · exact m4 p hp
  · rintro ⟨W, wv, wc⟩ i u I h tk o t hi' ⟨h', r', k1, k2, k3⟩ hI F N
    refine turn i h' r' t W wv wc I h tk o hi' k1 k2 k3 (hI _ (.head _)) (hI _ (.tail _ (.head _))) (hI _ (.tail _ (.tail _ (.head _)))) (fun y hy => hI y (.tail _ (.tail _ (.tail _ hy)))) ?_ N
    rw [Int.zero_add] at F
    exact F
  · rintro ⟨W, wv, wc⟩ u h tk ⟨h', r', k1, k2, k3⟩ F N
    rw [Nat.sub_self] at k2
    exact done h' r' W wv wc u h tk k1 k2 k3 F N
theorem putP_len {P : Nat → List Int} {p i : Nat} {x : Int} (h : ∀ j, (P j).length ≤ i) : ∀ j, (putP P p x j).length ≤ i + 1 := fun j => by
  unfold putP
  split
  · rw [List.length_append]; have := h p; simp only [List.length_cons, List.length_nil]; omega
  · exact Nat.le_succ_of_le (h j)
theorem allLt_to {d : Addr} {l : List (Addr × Obj)} (h : AllLt d l) : ∀ p ∈ l, p.1 < d := by
  induction l with
  | nil => intro p hp; exact absurd hp List.not_mem_nil
  | cons a r ih =>
    intro p hp
    rcases List.mem_cons.mp hp with rfl | hp
    · exact h.1
    · exact ih h.2 p hp
theorem post2New {m₁ : Str → Option Value} {I T PL A D : Addr} {o : Obj} {tv av : List Value} {tc pc ac p n : Nat} {prs : Prs} {P : Nat → List Int} {mk : Int → Int} {x : Int} {t tz : Tok} {h5 : Heap} {tk : Nat} (F : Fr h₀ L h5 m₁)
    (N : News h₀ L h5 ((D, listOf [.int x t].toArray 0) :: (I, o) :: (T, listOf (tv ++ [Value.int (mk x) tz]).toArray tc) :: (PL, listOf (prsRef prs ++ [Value.ref D]).toArray pc) :: (A, listOf av.toArray ac) :: prsLed prs))
    (hD : ∀ q ∈ prs, (@Ne Nat q.1 D)) (n1 : @Ne Nat D I) (n2 : @Ne Nat D T) (n3 : @Ne Nat D PL) (n4 : @Ne Nat D A) (hoff : ∀ q ∈ prs, (@Ne Nat q.1 I) ∧ (@Ne Nat q.1 T) ∧ (@Ne Nat q.1 PL) ∧ (@Ne Nat q.1 A)) (htv : IntsAre tv (topsF mk P n)) (hprs : PrsOk prs n P) (a2 : P n = []) (hpn : p = n) :
    Post2 h₀ L I T PL A o av ac m₁ s (topsF mk (putP P p x) (if p = n then n + 1 else n)) (putP P p x) (if p = n then n + 1 else n) .next { s with heap := h5, toks := tk } := by
  subst hpn
  rw [if_pos rfl]
  refine Post2.intro (tv := tv ++ [.int (mk x) tz]) (tc := tc) (pc := pc) (prs ++ [(D, [.int x t], 0)]) F N (fun y hy => ?_) (by rw [tops_new]; exact ints_snoc htv) (hprs.new hD a2) (fun q hq => ?_)
  · simp only [prsLed, prsRef, List.map_append, List.map_cons, List.map_nil, List.mem_cons, List.mem_append, List.not_mem_nil, or_false] at hy ⊢
    rcases hy with h | h | h | h | h | h
    · exact .inr (.inl h)
    · exact .inr (.inr (.inl h))
    · exact .inr (.inr (.inr (.inl h)))
    · exact .inr (.inr (.inr (.inr (.inl h))))
    · exact .inr (.inr (.inr (.inr (.inr h))))
    · exact .inl h
  · rcases List.mem_append.mp hq with q1 | q1
    · exact hoff q q1
    · rw [List.mem_singleton.mp q1]; exact ⟨n1, n2, n3, n4⟩
theorem post2Old {m₁ : Str → Option Value} {I T PL A a : Addr} {o : Obj} {tv av vs : List Value} {tc pc ac c p n : Nat} {prs : Prs} {P : Nat → List Int} {mk : Int → Int} {x : Int} {t tz : Tok} {h5 : Heap} {tk : Nat} (F : Fr h₀ L h5 m₁)
    (N : News h₀ L h5 ((a, listOf (vs ++ [Value.int x t]).toArray (c + 1)) :: (I, o) :: (T, listOf (tv.set (p : Int).toNat (.int (mk x) tz)).toArray tc) :: (PL, listOf (prsRef prs).toArray pc) :: (A, listOf av.toArray ac) :: prsLed (prs.eraseIdx p)))
    (hq : prs[p]? = some (a, vs, c)) (hoff : ∀ q ∈ prs, (@Ne Nat q.1 I) ∧ (@Ne Nat q.1 T) ∧ (@Ne Nat q.1 PL) ∧ (@Ne Nat q.1 A)) (htv : IntsAre tv (topsF mk P n)) (hprs : PrsOk prs n P) (hpn : p < n) :
    Post2 h₀ L I T PL A o av ac m₁ s (topsF mk (putP P p x) (if p = n then n + 1 else n)) (putP P p x) (if p = n then n + 1 else n) .next { s with heap := h5, toks := tk } := by
  rw [if_neg (by omega), tops_old hpn]
  rw [Int.toNat_natCast] at N
  refine Post2.intro (tv := tv.set p (.int (mk x) tz)) (tc := tc) (pc := pc) (prs.set p (a, vs ++ [.int x t], c + 1)) F N (fun y hy => ?_) (intsSet p (mk x) tz htv) (hprs.put hq) (fun q hq' => ?_)
  · rw [prsRef_set hq] at hy
    simp only [List.mem_cons] at hy ⊢
    rcases hy with h | h | h | h | h
    · exact .inr (.inl h)
    · exact .inr (.inr (.inl h))
    · exact .inr (.inr (.inr (.inl h)))
    · exact .inr (.inr (.inr (.inr (.inl h))))
    · rcases prs_join hq y h with h | h
      · exact .inl h
      · exact .inr (.inr (.inr (.inr (.inr h))))
  · rcases List.mem_or_eq_of_mem_set hq' with q1 | q1
    · exact hoff q q1
    · rw [q1]; exact hoff (a, vs, c) (List.mem_of_getElem? hq)
theorem plsEnd {Q : Flow → Shared → Prop} {m₀ m' : Str → Option Value} {R : Int → Int → Prop} {b : Bool} {mk ah : Int → Int} {full : List Int} {I T PL A : Addr} {o : Obj} {tv av : List Value} {tc pc ac p n i : Nat} {prs : Prs} {P : Nat → List Int} {x : Int} {kn : Str} {h' : Heap} {tk : Nat} (F : Fr h₀ L h' m')
    (N : News h₀ L h' ((I, o) :: (T, listOf tv.toArray tc) :: (PL, listOf (prsRef prs).toArray pc) :: (A, listOf av.toArray ac) :: prsLed prs)) (hTI : @Ne Nat T I) (hPI : @Ne Nat PL I) (hAI : @Ne Nat A I)
    (htv : IntsAre tv (topsF mk (putP P p x) (if p = n then n + 1 else n))) (hprs : PrsOk prs (if p = n then n + 1 else n) (putP P p x)) (hoff : ∀ q ∈ prs, (@Ne Nat q.1 I) ∧ (@Ne Nat q.1 T) ∧ (@Ne Nat q.1 PL) ∧ (@Ne Nat q.1 A)) (hav : IntsAre av (ahF (putA P ah p x)))
    (hni : n ≤ i) (hlenP : ∀ j, (P j).length ≤ i) (hP : PInv R b mk (full.take i) n P ah) (hx : full[i]? = some x) (asym : ∀ x y, R x y → ¬ R y x) (hR : full.Pairwise R) (I9 : BInv (qF b mk P (mk x)) n p p)
    (hz : ∀ z : Str, z ≠ kn → z ≠ "p" → m' z = m₀ z) : TP h₀ L I o (plsLed T PL A) (fun _ => []) kn ["p"] m₀ (plsP R b mk full T PL A (i + 1)) s Q .next { s with heap := h', toks := tk } := by
  refine TP.next (σ := PLS) ⟨tv, tc, pc, av, ac, prs⟩ F N (fun p hp => hp) (fun p hp => ?_) (List.forall_mem_nil _) (fun z h1 _ h3 => hz z h1 (nIn h3 (.head _))) ⟨fun q hq => (hoff q hq).2, _, _, _, ⟨?_, putP_len hlenP⟩, ?_, htv, hav, hprs⟩
  · simp only [List.mem_cons] at hp
    rcases hp with rfl | rfl | rfl | hp
    · exact hTI
    · exact hPI
    · exact hAI
    · exact prsOff (fun q hq => (hoff q hq).1) p hp
  · split <;> omega
  · rw [takeOne hx]
    exact hP.step asym (pairTake hR hx) I9
end
end Mine

namespace Mine
/-! the plain law -/
/-- the blanks and tabs of a lead -/
def leadPre (p q a sp : Nat) : List Nat := List.replicate p 32 ++ [9] ++ List.replicate q 32 ++ [9] ++ List.replicate a 9 ++ List.replicate sp 32
/-- how many runs of each length -/
def csG (p q a : Nat) : List Int := (List.range (max p q + 1)).map fun i => (if i = p then 1 else 0) + (if i = q then 1 else 0) + (if i = 0 then (a : Int) else 0)
theorem csG_comm (p q a : Nat) : csG p q a = csG q p a := by
  unfold csG
  rw [Nat.max_comm]
  refine List.map_congr_left fun i _ => ?_
  omega
theorem csG_len (p q a : Nat) : (csG p q a).length = max p q + 1 := by unfold csG; rw [List.length_map, List.length_range]
def wsOk (p q a sp : Nat) : Bool := decide ((wsRun (leadPre p q a sp)).n = ((p + q + a + sp + 2 : Nat) : Int)) && decide ((wsRun (leadPre p q a sp)).b = (sp : Int)) && decide ((wsRun (leadPre p q a sp)).nt = (a : Int) + 2) && decide ((wsRun (leadPre p q a sp)).cs = csG p q a)
theorem ws_all : ∀ p : Fin 3, ∀ q : Fin 3, ∀ a : Fin 5, ∀ sp : Fin 5, wsOk p.1 q.1 a.1 sp.1 = true := by decide +kernel
theorem ws_is {p q a sp : Nat} (hp : p ≤ 2) (hq : q ≤ 2) (ha : a ≤ 4) (hs : sp ≤ 4) : (wsRun (leadPre p q a sp)).n = ((p + q + a + sp + 2 : Nat) : Int) ∧ (wsRun (leadPre p q a sp)).b = (sp : Int) ∧ (wsRun (leadPre p q a sp)).nt = (a : Int) + 2 ∧ (wsRun (leadPre p q a sp)).cs = csG p q a := by
  have h := ws_all ⟨p, by omega⟩ ⟨q, by omega⟩ ⟨a, by omega⟩ ⟨sp, by omega⟩
  simp only [wsOk, Bool.and_eq_true, decide_eq_true_eq] at h
  exact ⟨h.1.1.1, h.1.1.2, h.1.2, h.2⟩
theorem leadPre_len {p q a sp : Nat} (hp : p ≤ 2) (hq : q ≤ 2) (ha : a ≤ 4) (hs : sp ≤ 4) : (leadPre p q a sp).length ≤ 30 := by
  unfold leadPre
  simp only [List.length_append, List.length_replicate, List.length_cons, List.length_nil]
  omega
theorem leadPre_signs (p q a sp : Nat) : ∀ c ∈ leadPre p q a sp, c = 32 ∨ c = 9 := by
  unfold leadPre
  intro c hc
  simp only [List.mem_append, List.mem_replicate, List.mem_singleton] at hc
  omega
theorem leadCps_pre (p q a sp : Nat) : leadCps p q a sp = leadPre p q a sp ++ [120, 9] := rfl
theorem csG_at {p q a i : Nat} (hi : 0 < i) : (csG p q a).getD i 0 = (csG p q 0).getD i 0 := by
  unfold csG
  rw [List.getD_eq_getElem?_getD, List.getD_eq_getElem?_getD, List.getElem?_map, List.getElem?_map]
  by_cases h : i < max p q + 1
  · rw [List.getElem?_range h]
    simp only [Option.map_some, Option.getD_some]
    rw [if_neg (show ¬ i = 0 by omega), if_neg (show ¬ i = 0 by omega)]
  · rw [List.getElem?_eq_none (by rw [List.length_range]; omega)]
    rfl
theorem csG_bd {p q a : Nat} (ha : a ≤ 4) : ∀ y ∈ csG p q a, 0 ≤ y ∧ y ≤ 20 := by
  unfold csG
  intro y hy
  obtain ⟨i, _, rfl⟩ := List.mem_map.mp hy
  constructor <;> (repeat' split) <;> omega
theorem ilG {ts : Int} (h : 1 ≤ ts) {p q a : Nat} : ∀ k, ilF ts (csG p q a) k = ilF ts (csG p q 0) k
  | 0 => rfl
  | k + 1 => by
    unfold ilF
    rw [ilG h k, csG_at (by omega)]
/-- the same for all: what the front adds at a tab size -/
def frontF (p q : Nat) (ts : Int) : Int := ilF ts (csG p q 0) (((max p q + 1 : Nat) : Int) - ts).toNat
theorem indG {ts nt b : Int} (h : 1 ≤ ts) {p q a : Nat} : indF ts nt b (csG p q a) = b + ts * (frontF p q ts + nt) := by
  unfold indF frontF
  rw [ilG h, csG_len]
theorem ind32 {nt b : Int} {p q a : Nat} (hp : p ≤ 2) (hq : q ≤ 2) : indF 32 nt b (csG p q a) = b + 32 * nt := by
  rw [indG (by decide)]
  unfold frontF
  rw [show (((max p q + 1 : Nat) : Int) - 32).toNat = 0 by omega]
  show b + 32 * (0 + nt) = _
  omega
/-- less, said plainly -/
def BelP (a1 s1 a2 s2 : Int) : Prop := a1 + s1 < a2 + s2 ∧ a1 ≤ a2
theorem lessIs {p q a1 s1 a2 s2 : Nat} (ha1 : a1 ≤ 4) (hs1 : s1 ≤ 4) (ha2 : a2 ≤ 4) (hs2 : s2 ≤ 4) :
    LessP ((p + q + a1 + s1 + 2 : Nat) : Int) ((a1 : Int) + 2) (s1 : Int) (csG p q a1) ((p + q + a2 + s2 + 2 : Nat) : Int) ((a2 : Int) + 2) (s2 : Int) (csG p q a2) ↔ BelP a1 s1 a2 s2 := by
  unfold LessP BelP
  simp only [csG_len]
  by_cases hsim : max p q + 1 ≤ 1
  · rw [if_pos ⟨hsim, hsim⟩]
    omega
  · rw [if_neg fun h => hsim h.1]
    unfold lrsF
    simp only [csG_len]
    generalize hM : (if (if (s2 : Int) > ((max p q + 1 : Nat) : Int) - 1 then (s2 : Int) else ((max p q + 1 : Nat) : Int) - 1) > (if (s1 : Int) > ((max p q + 1 : Nat) : Int) - 1 then (s1 : Int) else ((max p q + 1 : Nat) : Int) - 1) then (if (s2 : Int) > ((max p q + 1 : Nat) : Int) - 1 then (s2 : Int) else ((max p q + 1 : Nat) : Int) - 1) else (if (s1 : Int) > ((max p q + 1 : Nat) : Int) - 1 then (s1 : Int) else ((max p q + 1 : Nat) : Int) - 1)) = M
    have hMs : (s2 : Int) ≤ M ∧ 1 ≤ M := by
      clear ha1 hs1 ha2 hs2
      rw [← hM]
      constructor <;> (repeat' split) <;> omega
    clear hM
    constructor
    · rintro ⟨h1, h2⟩
      refine ⟨by omega, ?_⟩
      by_cases hd : (a1 : Int) ≤ a2
      · exact hd
      · have h3 := h2 (M + 1) (by omega) (by omega)
        rw [indG (by omega), indG (by omega)] at h3
        have e : (M + 1) * (frontF p q (M + 1) + ((a1 : Int) + 2)) = (M + 1) * (frontF p q (M + 1) + ((a2 : Int) + 2)) + (M + 1) * ((a1 : Int) - a2) := by rw [← Int.mul_add]; congr 1; omega
        have l : (M + 1) * 1 ≤ (M + 1) * ((a1 : Int) - a2) := Int.mul_le_mul_of_nonneg_left (by omega) (by omega)
        omega
    · rintro ⟨h1, h2⟩
      refine ⟨by omega, fun ts t1 t2 => ?_⟩
      rw [indG (by omega), indG (by omega)]
      have e : ts * (frontF p q ts + ((a2 : Int) + 2)) = ts * (frontF p q ts + ((a1 : Int) + 2)) + ts * ((a2 : Int) - a1) := by rw [← Int.mul_add]; congr 1; omega
      have l : 1 * ((a2 : Int) - a1) ≤ ts * ((a2 : Int) - a1) := Int.mul_le_mul_of_nonneg_right (by omega) (by omega)
      omega
section
variable {co : Nat → Int × Int × Int}
abbrev CoOk (co : Nat → Int × Int × Int) : Prop := ∀ i, i < 6 → (0 ≤ (co i).1 ∧ (co i).1 ≤ 4) ∧ (0 ≤ (co i).2.1 ∧ (co i).2.1 ≤ 4)
abbrev lC (co : Nat → Int × Int × Int) (i : Nat) : Nat := (2 * (co i).1 + (co i).2.1).toNat
abbrev vC (co : Nat → Int × Int × Int) (i : Nat) : Nat := ((co i).1 + (co i).2.1).toNat
abbrev RC (co : Nat → Int × Int × Int) : Int → Int → Prop := RowR (lC co) (vC co)
abbrev mkC (co : Nat → Int × Int × Int) (k : Int) : Int := (co k.toNat).2.1 + 32 * ((co k.toNat).1 + 2)
theorem RC_asym : ∀ x y, RC co x y → ¬ RC co y x := fun x y h k => by
  unfold RC RowR RevR at h k
  generalize vC co x.toNat = a at *
  generalize vC co y.toNat = b at *
  generalize lC co x.toNat = c at *
  generalize lC co y.toNat = d at *
  omega
theorem RC_trans : ∀ x y z, RC co x y → RC co y z → RC co x z := fun x y z h k => by
  unfold RC RowR RevR at *
  generalize vC co x.toNat = a at *
  generalize vC co y.toNat = b at *
  generalize vC co z.toNat = b' at *
  generalize lC co x.toNat = c at *
  generalize lC co y.toNat = d at *
  generalize lC co z.toNat = d' at *
  omega
end

/-! the table and the heights -/
def tabF (co : Nat → Int × Int × Int) (i j : Nat) (z : Nat) : Int := (co j).2.1 - (co i).2.1 + (1 + (z : Int)) * ((co j).1 - (co i).1)
def tabB (co : Nat → Int × Int × Int) (i j : Nat) : Bool := (List.range 5).all fun z => decide (0 < tabF co i j z)
def hF (B : Nat → Nat → Bool) : Nat → Nat → Nat
  | 0, _ => 0
  | t + 1, k => ((List.range 6).filter fun j => B j k).foldr (fun j m => max (hF B t j + 1) m) 0

theorem tabIs {co : Nat → Int × Int × Int} (hb : CoOk co) {i j : Nat} (hi : i < 6) (hj : j < 6) : tabB co i j = true ↔ BelP (co i).1 (co i).2.1 (co j).1 (co j).2.1 := by
  have b1 := hb i hi
  have b2 := hb j hj
  unfold tabB BelP
  rw [List.all_eq_true]
  constructor
  · intro h
    have h0 := of_decide_eq_true (h 0 (by decide))
    have h4 := of_decide_eq_true (h 4 (by decide))
    unfold tabF at h0 h4
    generalize (co i).1 = a1 at *
    generalize (co i).2.1 = s1 at *
    generalize (co j).1 = a2 at *
    generalize (co j).2.1 = s2 at *
    have e0 : (1 + ((0 : Nat) : Int)) = 1 := rfl
    have e4 : (1 + ((4 : Nat) : Int)) = 5 := rfl
    rw [e0] at h0
    rw [e4] at h4
    omega
  · rintro ⟨h1, h2⟩ z hz
    have hz := List.mem_range.mp hz
    refine decide_eq_true ?_
    unfold tabF
    generalize (co i).1 = a1 at *
    generalize (co i).2.1 = s1 at *
    generalize (co j).1 = a2 at *
    generalize (co j).2.1 = s2 at *
    have l : 1 * (a2 - a1) ≤ (1 + (z : Int)) * (a2 - a1) := Int.mul_le_mul_of_nonneg_right (by omega) (by omega)
    omega
section
variable {co : Nat → Int × Int × Int}
abbrev In6 (x : Int) : Prop := 0 ≤ x ∧ x < 6
abbrev bel (co : Nat → Int × Int × Int) (x y : Int) : Bool := tabB co x.toNat y.toNat
theorem RC_total {x y : Int} (h : x ≠ y) : RC co x y ∨ RC co y x := by
  unfold RC RowR RevR
  generalize vC co x.toNat = a at *
  generalize vC co y.toNat = b at *
  generalize lC co x.toNat = c at *
  generalize lC co y.toNat = d at *
  omega
theorem relT {x y : Int} : rel true x y ↔ x < y := by
  unfold rel relB
  simp only [if_true, decide_eq_true_eq]
theorem relF {x y : Int} : rel false x y ↔ x ≤ y := by
  unfold rel relB
  simp only [Bool.false_eq_true, if_false, decide_eq_true_eq]
theorem bel_row (hb : CoOk co) {x y : Int} (hx : In6 x) (hy : In6 y) (h : RC co x y) : bel co x y = true ↔ rel true (mkC co x) (mkC co y) := by
  unfold bel
  rw [tabIs hb (by omega) (by omega), relT]
  have b1 := hb x.toNat (by omega)
  have b2 := hb y.toNat (by omega)
  unfold RC RowR RevR lC vC at h
  unfold BelP mkC
  generalize (co x.toNat).1 = a1 at *
  generalize (co x.toNat).2.1 = s1 at *
  generalize (co y.toNat).1 = a2 at *
  generalize (co y.toNat).2.1 = s2 at *
  omega
theorem bel_rev (hb : CoOk co) {x y : Int} (hx : In6 x) (hy : In6 y) (h : RC co x y) : bel co y x = false := by
  rw [Bool.eq_false_iff]
  unfold bel
  rw [Ne, tabIs hb (by omega) (by omega)]
  have b1 := hb x.toNat (by omega)
  have b2 := hb y.toNat (by omega)
  unfold RC RowR RevR lC vC at h
  unfold BelP
  generalize (co x.toNat).1 = a1 at *
  generalize (co x.toNat).2.1 = s1 at *
  generalize (co y.toNat).1 = a2 at *
  generalize (co y.toNat).2.1 = s2 at *
  omega
theorem bel_irr (hb : CoOk co) {x : Int} (hx : In6 x) : bel co x x = false := by
  rw [Bool.eq_false_iff]
  unfold bel
  rw [Ne, tabIs hb (by omega) (by omega)]
  unfold BelP
  omega
theorem RC_of_bel (hb : CoOk co) {x y : Int} (hx : In6 x) (hy : In6 y) (h : bel co x y = true) : RC co x y := by
  by_cases e : x = y
  · subst e; rw [bel_irr hb hx] at h; cases h
  · rcases RC_total (co := co) e with q | q
    · exact q
    · rw [bel_rev hb hy hx q] at h; cases h
theorem chainOk (hb : CoOk co) {ns : List Int} (hin : ∀ x ∈ ns, In6 x) (h : ns.Pairwise fun x y => RC co x y ∧ rel true (mkC co x) (mkC co y)) :
    ∀ (i : Nat) x y, ns[i]? = some x → ns[i + 1]? = some y → tabB co x.toNat y.toNat = true := fun i x y h1 h2 => by
  obtain ⟨l1, rfl⟩ := List.getElem?_eq_some_iff.mp h1
  obtain ⟨l2, rfl⟩ := List.getElem?_eq_some_iff.mp h2
  have q := List.pairwise_iff_getElem.mp h i (i + 1) l1 l2 (Nat.lt_succ_self i)
  exact (bel_row hb (hin _ (List.getElem_mem l1)) (hin _ (List.getElem_mem l2)) q.1).mpr q.2
theorem crowdOk (hb : CoOk co) {ns : List Int} (hin : ∀ x ∈ ns, In6 x) (h : ns.Pairwise fun x y => RC co x y ∧ ¬ rel true (mkC co x) (mkC co y)) :
    ∀ x ∈ ns, ∀ y ∈ ns, tabB co x.toNat y.toNat = false := fun x hx y hy => by
  obtain ⟨i, l1, rfl⟩ := List.mem_iff_getElem.mp hx
  obtain ⟨j, l2, rfl⟩ := List.mem_iff_getElem.mp hy
  rcases Nat.lt_trichotomy i j with q | q | q
  · have p := List.pairwise_iff_getElem.mp h i j l1 l2 q
    exact Bool.eq_false_iff.mpr fun z => p.2 ((bel_row hb (hin _ hx) (hin _ hy) p.1).mp z)
  · subst q; exact bel_irr hb (hin _ hx)
  · have p := List.pairwise_iff_getElem.mp h j i l2 l1 q
    exact bel_rev hb (hin _ hy) (hin _ hx) p.1
theorem neg_rel {x y : Int} : rel false (-x) (-y) ↔ ¬ rel true x y := by
  rw [relT, relF]; omega
/-- the second row of piles: chains and the crowd -/
theorem chainOk2 (hb : CoOk co) {ns : List Int} (hin : ∀ x ∈ ns, In6 x) (h : ns.Pairwise fun x y => RC co x y ∧ ¬ rel false (-mkC co x) (-mkC co y)) :
    ∀ (i : Nat) x y, ns[i]? = some x → ns[i + 1]? = some y → tabB co x.toNat y.toNat = true :=
  chainOk hb hin (h.imp fun q => ⟨q.1, Classical.byContradiction fun z => q.2 (neg_rel.mpr z)⟩)
theorem crowdOk2 (hb : CoOk co) {ns : List Int} (hin : ∀ x ∈ ns, In6 x) (h : ns.Pairwise fun x y => RC co x y ∧ rel false (-mkC co x) (-mkC co y)) :
    ∀ x ∈ ns, ∀ y ∈ ns, tabB co x.toNat y.toNat = false :=
  crowdOk hb hin (h.imp fun q => ⟨q.1, neg_rel.mp q.2⟩)
theorem foldMax_le {f : Nat → Nat} {M : Nat} : ∀ {l : List Nat}, (∀ j ∈ l, f j + 1 ≤ M) → l.foldr (fun j m => max (f j + 1) m) 0 ≤ M
  | [], _ => Nat.zero_le _
  | a :: r, h => by
    rw [List.foldr_cons]
    exact Nat.max_le.mpr ⟨h a (.head _), foldMax_le fun j hj => h j (.tail _ hj)⟩
theorem le_foldMax {f : Nat → Nat} {j : Nat} : ∀ {l : List Nat}, j ∈ l → f j + 1 ≤ l.foldr (fun j m => max (f j + 1) m) 0
  | a :: r, h => by
    rw [List.foldr_cons]
    rcases List.mem_cons.mp h with rfl | h
    · exact Nat.le_max_left _ _
    · exact Nat.le_trans (le_foldMax h) (Nat.le_max_right _ _)
theorem heightsIs (hb : CoOk co) {full : List Int} {n : Nat} {P : Nat → List Int} {ah : Int → Int} (h : PInv (RC co) true (mkC co) full n P ah) (hf : ∀ x, x ∈ full ↔ In6 x) :
    ∀ t i x, x ∈ P i → hF (tabB co) t x.toNat = min i t
  | 0, i, x, _ => by rw [Nat.min_zero]; rfl
  | t + 1, i, x, hx => by
    have x6 := (hf x).mp (h.d1 i x hx)
    unfold hF
    apply Nat.le_antisymm
    · refine foldMax_le fun j hj => ?_
      have hj := List.mem_filter.mp hj
      have j6 : In6 (j : Int) := by have := List.mem_range.mp hj.1; exact ⟨by omega, by omega⟩
      have hB : bel co (j : Int) x = true := by unfold bel; rw [Int.toNat_natCast]; exact hj.2
      have hR := RC_of_bel hb j6 x6 hB
      obtain ⟨i', hi'⟩ := h.d2 _ ((hf _).mpr j6)
      have lt := h.f i' i _ _ hi' hx hR ((bel_row hb j6 x6 hR).mp hB)
      have ih := heightsIs hb h hf t i' _ hi'
      rw [Int.toNat_natCast] at ih
      rw [ih]; omega
    · rcases Nat.eq_zero_or_pos i with z | z
      · subst z; rw [Nat.zero_min]; exact Nat.zero_le _
      · obtain ⟨i', rfl⟩ : ∃ k, i = k + 1 := ⟨i - 1, by omega⟩
        obtain ⟨h1, h2, h3⟩ := h.e i' x hx
        have a6 := (hf _).mp (h.d1 _ _ h1)
        have ih := heightsIs hb h hf t i' _ h1
        have hB := (bel_row hb a6 x6 h2).mpr h3
        have := le_foldMax (f := hF (tabB co) t) (j := (ah x).toNat) (l := (List.range 6).filter fun j => tabB co j x.toNat) (List.mem_filter.mpr ⟨List.mem_range.mpr (by omega), hB⟩)
        rw [ih] at this
        omega
end
end Mine

namespace Mine
/-- what has come to the ledger's tail: all that was there; none at the addresses of the written part -/
structure Grow (as : List Addr) (rest rest' : List (Addr × Obj)) : Prop where
  up : ∀ y ∈ rest, y ∈ rest'
  off : ∀ y ∈ rest', ∀ a ∈ as, (@Ne Nat y.1 a)
section
variable {as : List Addr} {rest rest' tl : List (Addr × Obj)} {d : Addr} {o : Obj}
theorem Grow.nil : Grow as [] [] := ⟨fun _ h => h, fun _ h => (List.not_mem_nil h).elim⟩
theorem Grow.refl (g : Grow as rest rest') : Grow as rest' rest' := ⟨fun _ h => h, g.off⟩
theorem Grow.base (g : Grow as rest rest') : Grow as [] rest' := ⟨fun _ h => (List.not_mem_nil h).elim, g.off⟩
theorem Grow.cons (g : Grow as rest rest') (h : ∀ a ∈ as, (@Ne Nat d a)) : Grow as rest ((d, o) :: rest') :=
  ⟨fun y hy => .tail _ (g.up y hy), fun y hy => by
    rcases List.mem_cons.mp hy with rfl | hy
    · exact h
    · exact g.off y hy⟩
theorem Grow.app (g : Grow as rest rest') (h : ∀ p ∈ tl, ∀ a ∈ as, (@Ne Nat p.1 a)) : Grow as rest (tl ++ rest') :=
  ⟨fun y hy => List.mem_append_right _ (g.up y hy), fun y hy => by
    rcases List.mem_append.mp hy with q | q
    · exact h y q
    · exact g.off y q⟩
theorem Grow.more (g : Grow as rest rest') (h : ∀ y ∈ rest', (@Ne Nat y.1 d)) : Grow (d :: as) rest rest' :=
  ⟨g.up, fun y hy a ha => by
    rcases List.mem_cons.mp ha with rfl | ha
    · exact h y hy
    · exact g.off y hy a ha⟩
theorem Grow.less {as' : List Addr} (g : Grow as rest rest') (h : ∀ a ∈ as', a ∈ as) : Grow as' rest rest' := ⟨g.up, fun y hy a ha => g.off y hy a (h a ha)⟩
theorem Grow.trans {r0 : List (Addr × Obj)} (f : Grow as r0 rest) (g : Grow as rest rest') : Grow as r0 rest' := ⟨fun y hy => g.up y (f.up y hy), g.off⟩
end
theorem off1_mem {D : Addr} {l : List (Addr × Obj)} : LCg.Off1 D l → ∀ p ∈ l, (@Ne Nat p.1 D) := by
  induction l with
  | nil => exact fun _ p hp => (List.not_mem_nil hp).elim
  | cons a r ih =>
    intro h p hp
    rcases List.mem_cons.mp hp with e | hp
    · rw [e]; exact h.1
    · exact ih h.2 p hp
theorem allLt_ne {d : Addr} {l : List (Addr × Obj)} (h : AllLt d l) : ∀ p ∈ l, (@Ne Nat p.1 d) := fun p hp => Nat.ne_of_lt (allLt_to h p hp)
/-- the told colours -/
def ToldAt (co : Nat → Int × Int × Int) (i : Nat) (ys : List Value) (rest : List (Addr × Obj)) : Prop :=
  ys.length = i ∧ ∀ j, j < i → ∃ a t1 t2, ys[j]? = some (.ref a) ∧ (a, listOf #[.float (fl16 (lC co j)) t1, .float (fl8 (vC co j)) t2] 0) ∈ rest
theorem ToldAt.nil {co : Nat → Int × Int × Int} : ToldAt co 0 [] [] := ⟨rfl, fun j h => absurd h (Nat.not_lt_zero j)⟩
theorem ToldAt.snoc {co : Nat → Int × Int × Int} {i : Nat} {ys : List Value} {rest : List (Addr × Obj)} {D : Addr} {x y : UInt64} {t1 t2 : Tok} (h : ToldAt co i ys rest) (e1 : x = fl16 (lC co i)) (e2 : y = fl8 (vC co i)) :
    ToldAt co (i + 1) (ys ++ [.ref D]) ((D, listOf #[.float x t1, .float y t2] 0) :: rest) := by
  refine ⟨by rw [List.length_append, h.1]; rfl, fun j hj => ?_⟩
  by_cases e : j = i
  · subst e
    exact ⟨D, t1, t2, by rw [List.getElem?_append_right (Nat.le_of_eq h.1), h.1, Nat.sub_self]; rfl, by rw [← e1, ← e2]; exact .head _⟩
  · obtain ⟨a, u1, u2, q1, q2⟩ := h.2 j (by omega)
    exact ⟨a, u1, u2, by rw [List.getElem?_append_left (by rw [h.1]; omega)]; exact q1, .tail _ q2⟩
theorem ToldAt.up {co : Nat → Int × Int × Int} {i : Nat} {ys : List Value} {rest rest' : List (Addr × Obj)} (h : ToldAt co i ys rest) (k : ∀ y ∈ rest, y ∈ rest') : ToldAt co i ys rest' :=
  ⟨h.1, fun j hj => let ⟨a, t1, t2, q1, q2⟩ := h.2 j hj; ⟨a, t1, t2, q1, k _ q2⟩⟩
def ToldJ (co : Nat → Int × Int × Int) (lit : List (Addr × Obj)) (i : Nat) (ys : List Value) (nw : List (Addr × Obj)) : Prop :=
  ∃ rest, nw = lit ++ rest ∧ Grow (lit.map (·.1)) [] rest ∧ ToldAt co i ys rest
theorem ToldJ.nil {co : Nat → Int × Int × Int} {lit : List (Addr × Obj)} : ToldJ co lit 0 [] lit := ⟨[], (List.append_nil _).symm, Grow.nil, ToldAt.nil⟩
abbrev ColAt (h : Heap) (cv : List Value) (co : Nat → Int × Int × Int) : Prop := ∀ i, i < 6 → ∃ c t1 t2 t3, cv[i]? = some (.ref c) ∧ h.IsList c #[.int (co i).1 t1, .int (co i).2.1 t2, .int (co i).2.2 t3]
abbrev CoHue (co : Nat → Int × Int × Int) : Prop := ∀ i, i < 6 → 0 ≤ (co i).2.2 ∧ (co i).2.2 < max 1 (6 * (co i).2.1)
/-! the leads -/
/-- the object x is the j-th lead -/
def LdAt (co : Nat → Int × Int × Int) (p q : Nat) (j : Nat) (h : Heap) (x : Addr) : Prop :=
  ∃ raw, LeadAt h x raw ((p + q + (co j).1.toNat + (co j).2.1.toNat + 2 : Nat) : Int) (((co j).1.toNat : Int) + 2) (csG p q (co j).1.toNat) ((co j).2.1.toNat : Int)
def LeadsAt (co : Nat → Int × Int × Int) (p q : Nat) (i : Nat) (vs : List Value) (rest : List (Addr × Obj)) : Prop :=
  vs.length = i ∧ ∀ j, j < i → ∃ x, vs[j]? = some (.ref x) ∧ ∀ h : Heap, (∀ y ∈ rest, h.get? y.1 = some y.2) → LdAt co p q j h x
section
variable {co : Nat → Int × Int × Int} {p q : Nat}
theorem LeadsAt.nil {rest : List (Addr × Obj)} : LeadsAt co p q 0 [] rest := ⟨rfl, fun j h => absurd h (Nat.not_lt_zero j)⟩
theorem LeadsAt.up {i : Nat} {vs : List Value} {rest rest' : List (Addr × Obj)} (h : LeadsAt co p q i vs rest) (k : ∀ y ∈ rest, y ∈ rest') : LeadsAt co p q i vs rest' :=
  ⟨h.1, fun j hj => let ⟨x, q1, q2⟩ := h.2 j hj; ⟨x, q1, fun h' hh => q2 h' fun y hy => hh y (k y hy)⟩⟩
theorem LeadsAt.snoc {i : Nat} {vs : List Value} {rest tl : List (Addr × Obj)} {x : Addr} (h : LeadsAt co p q i vs rest) (k : ∀ h' : Heap, (∀ y ∈ tl, h'.get? y.1 = some y.2) → LdAt co p q i h' x) :
    LeadsAt co p q (i + 1) (vs ++ [.ref x]) (tl ++ rest) := by
  refine ⟨by rw [List.length_append, h.1]; rfl, fun j hj => ?_⟩
  by_cases e : j = i
  · subst e
    exact ⟨x, by rw [List.getElem?_append_right (Nat.le_of_eq h.1), h.1, Nat.sub_self]; rfl, fun h' hh => k h' fun y hy => hh y (List.mem_append_left _ hy)⟩
  · obtain ⟨a, q1, q2⟩ := h.2 j (by omega)
    exact ⟨a, by rw [List.getElem?_append_left (by rw [h.1]; omega)]; exact q1, fun h' hh => q2 h' fun y hy => hh y (List.mem_append_right _ hy)⟩
end
/-- the lead that Whitespace gives, front as drawn or turned round -/
theorem ldOf {co : Nat → Int × Int × Int} {p q p' q' : Int} {j : Nat} {h : Heap} {x : Addr} {raw : Value} (hp : 0 ≤ p ∧ p ≤ 2) (hq : 0 ≤ q ∧ q ≤ 2) (hb : CoOk co) (hj : j < 6) (e : (p' = p ∧ q' = q) ∨ (p' = q ∧ q' = p))
    (L : LeadAt h x raw (wsRun (leadPre p'.toNat q'.toNat (co j).1.toNat (co j).2.1.toNat)).n (wsRun (leadPre p'.toNat q'.toNat (co j).1.toNat (co j).2.1.toNat)).nt (wsRun (leadPre p'.toNat q'.toNat (co j).1.toNat (co j).2.1.toNat)).cs (wsRun (leadPre p'.toNat q'.toNat (co j).1.toNat (co j).2.1.toNat)).b) :
    LdAt co p.toNat q.toNat j h x := by
  have b := hb j hj
  have r := ws_is (p := p'.toNat) (q := q'.toNat) (a := (co j).1.toNat) (sp := (co j).2.1.toNat) (by omega) (by omega) (by omega) (by omega)
  rw [r.1, r.2.1, r.2.2.1, r.2.2.2] at L
  refine ⟨raw, ?_⟩
  rcases e with ⟨e1, e2⟩ | ⟨e1, e2⟩
  · rw [e1, e2] at L; exact L
  · rw [e1, e2, csG_comm, Nat.add_comm q.toNat p.toNat] at L; exact L
structure LdS where
  vs : List Value
  n : Nat
  rest : List (Addr × Obj)
def LdP (lit rest0 : List (Addr × Obj)) (p q : Nat) (co : Nat → Int × Int × Int) (LL : Addr) (i : Nat) (c : LdS) : Prop :=
  Grow (LL :: lit.map (·.1)) rest0 c.rest ∧ LeadsAt co p q i c.vs c.rest
section
variable {prog : Program} {w : World} {A : Around} {E : Value → Shared → Prop} {s : Shared} {h₀ : Heap} {env : Env}
theorem loopLeads {x : Str} {body : List Stmt} {Q : Flow → Shared → Prop} {r : Addr} {t₀ u₀ v₀ : Tok} {m₀ : Str → Option Value} {lit rest0 : List (Addr × Obj)} {LL : Addr} (p q : Nat) (co : Nat → Int × Int × Int)
    (hh : A.handled = none) (hr : IsRange s.heap r 0 6 1 t₀ u₀ v₀) (F : Fr h₀ env.locals s.heap m₀) (N : News h₀ env.locals s.heap ((LL, listOf #[] 0) :: (lit ++ rest0))) (hg : Grow (LL :: lit.map (·.1)) [] rest0)
    (turn : ∀ i vs n rest (u : Str → Option Value) I h tk o t, i < 6 → Grow (LL :: lit.map (·.1)) rest0 rest → LeadsAt co p q i vs rest → (@Ne Nat LL I) → (∀ z ∈ lit, (@Ne Nat z.1 I)) → (∀ y ∈ rest, (@Ne Nat y.1 I)) →
      Fr h₀ env.locals h (fun y => if y = x then some (.int (i : Int) t) else if y = Str.ofString "turned" then u y else m₀ y) → News h₀ env.locals h ((I, o) :: (LL, listOf vs.toArray n) :: (lit ++ rest)) →
      wpAny (model prog w) A (execs body env) (TP h₀ env.locals I o (fun c : LdS => (LL, listOf c.vs.toArray c.n) :: (lit ++ c.rest)) (fun _ => []) x ["turned"] m₀ (LdP lit rest0 p q co LL (i + 1)) { s with heap := h, toks := tk } Q) E { s with heap := h, toks := tk })
    (done : ∀ vs n rest (u : Str → Option Value) h tk, Grow (LL :: lit.map (·.1)) rest0 rest → LeadsAt co p q 6 vs rest →
      Fr h₀ env.locals h (fun y => if y = x then u y else if y = Str.ofString "turned" then u y else m₀ y) → News h₀ env.locals h ((LL, listOf vs.toArray n) :: (lit ++ rest)) → Q .next { s with heap := h, toks := tk }) :
    wpAny (model prog w) A (pyIter (.ref r)) (fun it s₂ => LoopAtV prog w A h₀ env x body Q E it s₂) E s := by
  have hc : ∀ y : Str, List.contains [Str.ofString "turned"] y = true ↔ y = Str.ofString "turned" := fun y => by rw [List.contains_iff_mem, List.mem_singleton]
  have fe : ∀ (u : Str → Option Value) (y : Str), (kstB (fun z => if List.contains [Str.ofString "turned"] z then u z else m₀ z) [] y) = if y = Str.ofString "turned" then u y else m₀ y := fun u y => by
    show (if List.contains [Str.ofString "turned"] y then u y else m₀ y) = _
    by_cases h2 : y = Str.ofString "turned"
    · rw [if_pos h2, if_pos ((hc y).mpr h2)]
    · rw [if_neg h2, if_neg fun z => h2 ((hc y).mp z)]
  refine loopR (σ := LdS) (n := 6) (fun c : LdS => (LL, listOf c.vs.toArray c.n) :: (lit ++ c.rest)) (fun _ => []) ["turned"] (LdP lit rest0 p q co LL) ⟨[], 0, rest0⟩ hh hr (by decide) (by rfl) F N (fun _ hp => nomatch hp) ⟨hg.refl, LeadsAt.nil⟩ ?_ ?_
  · rintro ⟨vs, n, rest⟩ i u I h tk o t hi ⟨h1, h2⟩ hI F N
    refine turn i vs n rest u I h tk o t hi h1 h2 (hI _ (.head _)) (fun z hz => hI z (.tail _ (List.mem_append_left _ hz))) (fun z hz => hI z (.tail _ (List.mem_append_right _ hz))) ?_ N
    rw [Int.zero_add] at F
    rw [show (fun y => if y = x then some (Value.int (i : Int) t) else if y = Str.ofString "turned" then u y else m₀ y) = fun y => if y = x then some (Value.int (i : Int) t) else kstB (fun z => if List.contains [Str.ofString "turned"] z then u z else m₀ z) [] y from funext fun y => by rw [fe]]
    exact F
  · rintro ⟨vs, n, rest⟩ u h tk ⟨h1, h2⟩ F N
    refine done vs n rest u h tk h1 h2 ?_ N
    rw [show (fun y => if y = x then u y else if y = Str.ofString "turned" then u y else m₀ y) = fun y => if y = x then u y else kstB (fun z => if List.contains [Str.ofString "turned"] z then u z else m₀ z) [] y from funext fun y => by rw [fe]]
    exact F
end
section
variable {h₀ h : Heap} {L : Addr} {x a b c d e f g : Addr × Obj} {tl rest : List (Addr × Obj)}
theorem reordE (N : News h₀ L h (tl ++ (a :: b :: c :: d :: e :: f :: g :: rest))) : News h₀ L h (a :: b :: c :: d :: e :: f :: g :: (tl ++ rest)) := fun p hp => N p (by
  simp only [List.mem_cons, List.mem_append] at hp ⊢
  rcases hp with h | h | h | h | h | h | h | h | h <;> simp only [h, true_or, or_true])
theorem reordO (N : News h₀ L h (tl ++ (x :: a :: b :: c :: d :: e :: f :: g :: rest))) : News h₀ L h (a :: b :: c :: d :: e :: f :: g :: (tl ++ rest)) := fun p hp => N p (by
  simp only [List.mem_cons, List.mem_append] at hp ⊢
  rcases hp with h | h | h | h | h | h | h | h | h <;> simp only [h, true_or, or_true])
theorem offE (o : ∀ p ∈ tl, ∀ q ∈ a :: b :: c :: d :: e :: f :: g :: rest, p.1 ≠ q.1) : ∀ p ∈ tl, ∀ y ∈ [a.1, b.1, c.1, d.1, e.1, f.1, g.1], (@Ne Nat p.1 y) := fun p hp y hy => by
  simp only [List.mem_cons, List.not_mem_nil, or_false] at hy
  rcases hy with h | h | h | h | h | h | h <;> rw [h] <;> exact o p hp _ (by simp only [List.mem_cons, true_or, or_true])
theorem offO (o : ∀ p ∈ tl, ∀ q ∈ x :: a :: b :: c :: d :: e :: f :: g :: rest, p.1 ≠ q.1) : ∀ p ∈ tl, ∀ y ∈ [a.1, b.1, c.1, d.1, e.1, f.1, g.1], (@Ne Nat p.1 y) := offE fun p hp q hq => o p hp q (.tail _ hq)
end
theorem leadHtx {p q a sp : Int} (hp : 0 ≤ p ∧ p ≤ 2) (hq : 0 ≤ q ∧ q ≤ 2) (ha : 0 ≤ a ∧ a ≤ 4) (hs : 0 ≤ sp ∧ sp ≤ 4) : (leadStr p q a sp).cps = (leadPre p.toNat q.toNat a.toNat sp.toNat ++ [120, 9]).toArray := by
  rw [← leadCps_pre, ← (st_ok hp hq ha hs).2.2.2, Array.toArray_toList]
theorem leadLen {p q a sp : Int} (hp : 0 ≤ p ∧ p ≤ 2) (hq : 0 ≤ q ∧ q ≤ 2) (ha : 0 ≤ a ∧ a ≤ 4) (hs : 0 ≤ sp ∧ sp ≤ 4) : (leadPre p.toNat q.toNat a.toNat sp.toNat).length ≤ 30 := leadPre_len (by omega) (by omega) (by omega) (by omega)
theorem revTwo {rv : List Value} {p q : Int} (h : IntsAre rv [p, q].reverse) : ∃ t1 t2, rv = [.int q t1, .int p t2] := by
  cases h with
  | cons _ t1 r =>
    cases r with
    | cons _ t2 r =>
      cases r
      exact ⟨t1, t2, rfl⟩
theorem ToldAt.get {co : Nat → Int × Int × Int} {i : Nat} {ys : List Value} {rest : List (Addr × Obj)} (h : ToldAt co i ys rest) {j : Nat} (hj : j < i) : ∃ a t1 t2, ys[j]? = some (.ref a) ∧ (a, listOf #[.float (fl16 (lC co j)) t1, .float (fl8 (vC co j)) t2] 0) ∈ rest := h.2 j hj
theorem LeadsAt.len {co : Nat → Int × Int × Int} {p q i : Nat} {vs : List Value} {rest : List (Addr × Obj)} (h : LeadsAt co p q i vs rest) : vs.length = i := h.1
theorem LeadsAt.get {co : Nat → Int × Int × Int} {p q i : Nat} {vs : List Value} {rest : List (Addr × Obj)} (h : LeadsAt co p q i vs rest) {j : Nat} (hj : j < i) : ∃ x, vs[j]? = some (.ref x) ∧ ∀ h : Heap, (∀ y ∈ rest, h.get? y.1 = some y.2) → LdAt co p q j h x := h.2 j hj
/-! an assignment of a comprehension whose name is a cell -/
section
variable {prog : Program} {w : World} {A : Around} {E : Value → Shared → Prop} {s : Shared} {h₀ : Heap} {L : Addr} {m : Str → Option Value} {env : Env}
def CompSrcCA (prog : Program) (w : World) (A : Around) (h₀ : Heap) (L : Addr) (m : Str → Option Value) (env : Env) (elt : Expr) (x : Str) (scope : Scope) (cl : List (Str × Addr)) (y : Str) (Q : Flow → Shared → Prop) (xv : Value) (s₁ : Shared) : Prop :=
  ∃ (news : List (Addr × Obj)) (J : Nat → List Value → List (Addr × Obj) → Prop), A.handled = none ∧ Fr h₀ L s₁.heap m ∧ News h₀ L s₁.heap news ∧ J 0 [] news ∧
    ∃ ax its, xv = .ref ax ∧ LCg.SrcAt h₀ ax its news ∧ its.size ≤ sizeLine ∧
    ∀ g, TurnC prog w A h₀ L m env elt x scope cl { s₁ with heap := g } (LCg.SrcAt h₀ ax its) (fun i v => its[i]? = some v) J its.size ∧
      ∀ D h tk ys news', J its.size ys news' → Fr h₀ L h (fun z => if z = y then some (.ref D) else m z) → News h₀ L h ((D, LCg.lst ys) :: news') → (∀ p ∈ news', p.1 ≠ D) → Q .next { s₁ with heap := h, toks := tk }
theorem Assign_ListComp_C {elt iter : Expr} {x y : Str} {px py : Pos} {scope : Scope} {cl : List (Str × Addr)} {pos spos : Pos} {Q : Flow → Shared → Prop} (F₀ : Fr h₀ L s.heap m) (hLe : env.locals = L)
    (hsw : swapsWith (.ListComp elt [⟨.Name x px, iter, [], 0⟩] scope pos) (some (.Name y py)) spos.line env = pure true)
    (hclos : closureFor scope env = pure cl) (hone : ∀ n, cellsFrom n scope.names cl = (x, n) :: cl) (hpush : ∀ h, pushCells h scope.names = h.push { cls := .type "cell", data := .cell none }) (hkind : scope.kind = .function)
    (hnames : ∀ z ∈ scope.names, z.2 = .local → scope.names.lookup z.1 = some .local) (hx : ∀ cl C, (compEnvC scope cl C env).kindOf x = some .cell)
    (hy : env.kindOf y = some .local) (hp : (env.scope.kind == .class || (env.scope.kind == .module && env.locals != env.globals)) = false)
    (h : wpAny (model prog w) A (eval iter env) (CompSrcCA prog w A h₀ L m env elt x scope cl y Q) E s)
    (hs : ∀ x, foldedSetIterable iter env x = pure x := by intro _; rfl) :
    wpAny (model prog w) A (exec (.Assign [.Name y py] (.ListComp elt [⟨.Name x px, iter, [], 0⟩] scope pos) spos) env) Q E s := by
  subst hLe
  rw [exec_Assign_Name_used _ _ _ _ hsw]
  refine wpAny_bind (wpAny_standAt (wpAny_bind ?_))
  show wpAny _ A (do let _ ← comprehension (.ListComp elt [⟨.Name x px, iter, [], 0⟩] scope pos) scope env _ (newList []) false (eval iter env) (some (assign (.Name y py) env))) _ _ s
  refine wpAny_bind (wpAny_mono (wpAny_comprehension_free (use := some (assign (.Name y py) env)) (Q := fun _ s' => Q .next s') rfl hs hclos hkind hnames
    (wpAny_mono h (fun xv s₁ h₁ => ?_) fun _ _ e => e)) (fun _ s' hq => wpAny_pure (wpAny_pure hq)) fun _ _ e => e)
  obtain ⟨news, J, hh, F, N, hJ, ax, its, rfl, hS, hsz, R⟩ := h₁
  have hl := hS.list F.keep N
  have hlt : ax < s₁.heap.objs.size := by obtain ⟨_, e, _⟩ := hl; exact Heap.lt_size e
  refine wpAny_pyIter_list hl ?_
  have up : ∀ b o, s₁.heap.get? b = some o → (s₁.heap.push { cls := .type "list_iterator", data := .fields #[.ref ax, .int 0 0] }).get? b = some o := fun b o e => Heap.get?_push_of_some _ e
  refine block_C (Walks.list hh s₁.heap.objs.size ax (Nat.ne_of_lt hlt) its) hsz (fun i h st => by obtain ⟨o, e, _⟩ := st.1; exact ⟨o, e⟩) LCg.list_st hone hpush hkind hx ⟨⟨_, Heap.get?_push_size _ rfl, rfl, rfl⟩, hl.push _⟩ (fun b hb => ?_)
    (F.keeps up) (N.grown up) (Nat.ne_of_lt F.ns.lt) (next_is_new F) (fun p hp => Nat.ne_of_lt (Heap.lt_size (N p hp).1)) hS hJ (R _).1 ?_
  · show b < (s₁.heap.push _).objs.size
    rw [Heap.size_push]
    rcases List.mem_cons.mp hb with rfl | hb
    · exact Nat.lt_succ_self _
    · rw [List.mem_singleton.mp hb]; exact Nat.lt_succ_of_lt hlt
  · intro D C h' tk m' ys news' F' N' o1 hn hC₀ hD₀ hCL hDL hCD offC fin
    show wpAny _ A (assign (.Name y py) env (.ref D)) _ _ _
    refine wpAny_assign_Name (wpAny_storeName_local hy F'.ns (fun h₂ hn₂ hs₂ => ?_) hp)
    have hL₀ : h₀.get? env.locals = none := Heap.get?_none_of_le F'.above
    have F₂ : Fr h₀ env.locals h₂ (fun z => if z = y then some (.ref D) else m z) := ⟨hn₂, fun b o e => hs₂.extBut b o (fun q => by rw [q, hL₀] at e; cases e) (F'.keep b o e), F'.above⟩
    refine ⟨m', hn.sameBut hs₂ hCL, fun h'' hs'' => (R h'').2 D h'' _ ys news' fin (F₂.change hs'' hCL hC₀) (fun p hp => ?_) o1⟩
    have z : h₂.get? p.1 = some p.2 := hs₂.extBut _ _ (N' p hp).2.1 (N' p hp).1
    refine ⟨hs''.extBut _ _ ?_ z, (N' p hp).2⟩
    rcases List.mem_cons.mp hp with rfl | hp
    · exact Ne.symm hCD
    · exact offC p hp
theorem CompSrcCA.ledger {elt : Expr} {x : Str} {scope : Scope} {cl : List (Str × Addr)} {y : Str} {Q : Flow → Shared → Prop} {ax : Addr} {its : Array Value} {k : Nat} {news : List (Addr × Obj)} {s₁ : Shared} (J : Nat → List Value → List (Addr × Obj) → Prop)
    (hh : A.handled = none) (F : Fr h₀ L s₁.heap m) (N : News h₀ L s₁.heap news) (hm : (ax, listOf its k) ∈ news) (hsz : its.size ≤ sizeLine) (hJ : J 0 [] news)
    (turn : ∀ g, TurnC prog w A h₀ L m env elt x scope cl { s₁ with heap := g } (LCg.SrcAt h₀ ax its) (fun i v => its[i]? = some v) J its.size)
    (fin : ∀ D h tk ys news', J its.size ys news' → Fr h₀ L h (fun z => if z = y then some (.ref D) else m z) → News h₀ L h ((D, LCg.lst ys) :: news') → (∀ p ∈ news', p.1 ≠ D) → Q .next { s₁ with heap := h, toks := tk }) :
    CompSrcCA prog w A h₀ L m env elt x scope cl y Q (.ref ax) s₁ := ⟨news, J, hh, F, N, hJ, ax, its, rfl, .inr ⟨_, hm, rfl, _, rfl⟩, hsz, fun g => ⟨turn g, fin⟩⟩
end
/-- the rows of the table that less tells -/
def BelowJ (lit rest0 : List (Addr × Obj)) (B : Nat → Nat → Bool) (i : Nat) (rows : List Value) (nw : List (Addr × Obj)) : Prop :=
  ∃ r2, nw = lit ++ r2 ∧ Grow (lit.map (·.1)) rest0 r2 ∧ rows.length = i ∧ ∀ j, j < i → ∃ (a : Addr) (n : Nat), rows[j]? = some (.ref a) ∧ (a, listOf (boolRow B j 6).toArray n) ∈ r2
theorem BelowJ.nil {lit rest0 : List (Addr × Obj)} {B : Nat → Nat → Bool} (g : Grow (lit.map (·.1)) [] rest0) : BelowJ lit rest0 B 0 [] (lit ++ rest0) := ⟨rest0, rfl, g.refl, rfl, fun j hj => absurd hj (Nat.not_lt_zero j)⟩
theorem BelowJ.snoc {lit rest0 r2 : List (Addr × Obj)} {B : Nat → Nat → Bool} {i : Nat} {rows : List Value} {D : Addr} {n : Nat} (g : Grow (lit.map (·.1)) rest0 r2) (h1 : rows.length = i) (h2 : ∀ j, j < i → ∃ (a : Addr) (n : Nat), rows[j]? = some (.ref a) ∧ (a, listOf (boolRow B j 6).toArray n) ∈ r2)
    (hD : ∀ a ∈ lit.map (·.1), (@Ne Nat D a)) : BelowJ lit rest0 B (i + 1) (rows ++ [.ref D]) (lit ++ ((D, listOf (boolRow B i 6).toArray n) :: r2)) := by
  refine ⟨_, rfl, g.cons hD, by rw [List.length_append, h1]; rfl, fun j hj => ?_⟩
  by_cases e : j = i
  · subst e
    exact ⟨D, n, by rw [List.getElem?_append_right (Nat.le_of_eq h1), h1, Nat.sub_self]; rfl, .head _⟩
  · obtain ⟨a, k, q1, q2⟩ := h2 j (by omega)
    exact ⟨a, k, by rw [List.getElem?_append_left (by rw [h1]; omega)]; exact q1, .tail _ q2⟩
/-! less's table and the reckoned one, compared -/
theorem lessTab {co : Nat → Int × Int × Int} (hb : CoOk co) {p q i j : Nat} (hi : i < 6) (hj : j < 6) {v : Bool}
    (h : v = true ↔ LessP ((p + q + (co i).1.toNat + (co i).2.1.toNat + 2 : Nat) : Int) (((co i).1.toNat : Int) + 2) ((co i).2.1.toNat : Int) (csG p q (co i).1.toNat) ((p + q + (co j).1.toNat + (co j).2.1.toNat + 2 : Nat) : Int) (((co j).1.toNat : Int) + 2) ((co j).2.1.toNat : Int) (csG p q (co j).1.toNat)) : v = tabB co i j := by
  have b1 := hb i hi
  have b2 := hb j hj
  rw [Bool.eq_iff_iff, h, lessIs (by omega) (by omega) (by omega) (by omega), tabIs hb hi hj, Int.toNat_of_nonneg b1.1.1, Int.toNat_of_nonneg b1.2.1, Int.toNat_of_nonneg b2.1.1, Int.toNat_of_nonneg b2.2.1]
abbrev rowD (B : Nat → Nat → Bool) (i : Nat) : PyData := .list ((List.range 6).map fun j => PyData.bool (B i j))
abbrev matD (B : Nat → Nat → Bool) : PyData := .list ((List.range' 0 6).map (rowD B))
theorem readsBools {h : Heap} {f : Nat → Bool} : ∀ l : List Nat, ∃ as, ReadsAll h (l.map fun j => Value.bool (f j)) (l.map fun j => PyData.bool (f j)) as
  | [] => ⟨_, .nil⟩
  | _ :: r => let ⟨_, q⟩ := readsBools r; ⟨_, .cons (.bool _) q⟩
theorem readsRow {h : Heap} {B : Nat → Nat → Bool} {i a k : Nat} (e : h.get? a = some (listOf (boolRow B i 6).toArray k)) : ∃ as, Reads h (.ref a) (rowD B i) as := by
  obtain ⟨as, q⟩ := readsBools (h := h) (f := fun j => B i j) (List.range 6)
  exact ⟨_, reads_list_at e rfl rfl (by simpa [boolRow] using q)⟩
theorem readsRows {h : Heap} {B : Nat → Nat → Bool} : ∀ (rows : List Value) (off : Nat), (∀ i, i < rows.length → ∃ (a : Addr) (k : Nat), rows[i]? = some (.ref a) ∧ h.get? a = some (listOf (boolRow B (off + i) 6).toArray k)) → ∃ as, ReadsAll h rows ((List.range' off rows.length).map (rowD B)) as
  | [], _, _ => ⟨_, .nil⟩
  | v :: r, off, hr => by
    obtain ⟨a, k, e1, e2⟩ := hr 0 (Nat.zero_lt_succ _)
    have e1 : v = .ref a := Option.some.inj e1
    subst e1
    obtain ⟨as, q1⟩ := readsRow (B := B) (i := off) e2
    obtain ⟨bs, q2⟩ := readsRows r (off + 1) fun i hi => by
      obtain ⟨a, k, e1, e2⟩ := hr (i + 1) (Nat.succ_lt_succ hi)
      exact ⟨a, k, e1, by rw [show off + 1 + i = off + (i + 1) by omega]; exact e2⟩
    rw [List.length_cons, List.range'_succ, List.map_cons]
    exact ⟨_, .cons q1 q2⟩
theorem matShaped {B : Nat → Nat → Bool} : SeqAt.shaped (matD B) = true := by
  unfold SeqAt.shaped
  refine Bool.and_eq_true_iff.mpr ⟨rfl, decide_eq_true ?_⟩
  have : (matD B).depth = 2 := rfl
  rw [this]; decide
abbrev RowsIn (B : Nat → Nat → Bool) (rows : List Value) (news : List (Addr × Obj)) : Prop := rows.length = 6 ∧ ∀ i, i < 6 → ∃ (a : Addr) (n : Nat), rows[i]? = some (.ref a) ∧ (a, listOf (boolRow B i 6).toArray n) ∈ news
theorem readsMat {h : Heap} {B : Nat → Nat → Bool} {a k : Nat} {rows : List Value} (e : h.get? a = some (listOf rows.toArray k)) (h6 : rows.length = 6) (hr : ∀ i, i < 6 → ∃ (a : Addr) (n : Nat), rows[i]? = some (.ref a) ∧ h.get? a = some (listOf (boolRow B i 6).toArray n)) : ∃ as, Reads h (.ref a) (matD B) as := by
  obtain ⟨as, q⟩ := readsRows (B := B) rows 0 fun i hi => by rw [Nat.zero_add]; exact hr i (by omega)
  rw [h6] at q
  exact ⟨_, reads_list_at e rfl rfl (by simpa using q)⟩
section
variable {prog : Program} {w : World} {A : Around} {E : Value → Shared → Prop} {s : Shared} {h₀ : Heap} {L a b : Addr} {news : List (Addr × Obj)} {B : Nat → Nat → Bool} {xs ys : List Value} {k n : Nat} {Q : Value → Shared → Prop}
theorem matNe (N : News h₀ L s.heap news) (ma : (a, listOf xs.toArray k) ∈ news) (mb : (b, listOf ys.toArray n) ∈ news) (ra : RowsIn B xs news) (rb : RowsIn B ys news) (hu : A.units + 64 < cLine) (h : Q (.bool false) s) : wpAny (model prog w) A (compareOp .NotEq (.ref a) (.ref b)) Q E s := by
  obtain ⟨as, q1⟩ := readsMat (N _ ma).1 ra.1 fun i hi => let ⟨x, m, e1, e2⟩ := ra.2 i hi; ⟨x, m, e1, (N _ e2).1⟩
  obtain ⟨bs, q2⟩ := readsMat (N _ mb).1 rb.1 fun i hi => let ⟨x, m, e1, e2⟩ := rb.2 i hi; ⟨x, m, e1, (N _ e2).1⟩
  refine ne_dataH q1 q2 matShaped matShaped hu ?_
  rw [PySem.SeqAt.eqv_refl _ (Bool.and_eq_true_iff.mp matShaped).1]
  exact h
theorem matOf (N : News h₀ L s.heap news) (ma : (a, listOf xs.toArray k) ∈ news) (ra : RowsIn B xs news) : Mat s.heap a B :=
  ⟨xs, newsL N ma, ra.1, fun i hi => let ⟨x, _, e1, e2⟩ := ra.2 i hi; ⟨x, e1, newsL N e2⟩⟩
end
theorem ldB {co : Nat → Int × Int × Int} (hb : CoOk co) {i : Nat} (hi : i < 6) {p q : Int} (hp : 0 ≤ p ∧ p ≤ 2) (hq : 0 ≤ q ∧ q ≤ 2) :
    (csG p.toNat q.toNat (co i).1.toNat).length ≤ 3 ∧ (∀ y ∈ csG p.toNat q.toNat (co i).1.toNat, 0 ≤ y ∧ y ≤ 20) ∧ (0 ≤ ((co i).1.toNat : Int) + 2 ∧ ((co i).1.toNat : Int) + 2 ≤ 20) ∧ (0 ≤ ((co i).2.1.toNat : Int) ∧ ((co i).2.1.toNat : Int) ≤ 4) := by
  have b := hb i hi
  refine ⟨by rw [csG_len]; omega, csG_bd (by omega), by omega, by omega⟩
theorem lev32 {co : Nat → Int × Int × Int} (hb : CoOk co) {i : Nat} (hi : i < 6) {p q : Int} (hp : 0 ≤ p ∧ p ≤ 2) (hq : 0 ≤ q ∧ q ≤ 2) : indF 32 (((co i).1.toNat : Int) + 2) ((co i).2.1.toNat : Int) (csG p.toNat q.toNat (co i).1.toNat) = mkC co (i : Int) := by
  have b := hb i hi
  rw [ind32 (by omega) (by omega)]
  unfold mkC
  rw [Int.toNat_natCast]
  omega
theorem ColAt.keeps {h h' : Heap} {cv : List Value} {co : Nat → Int × Int × Int} (k : Kp h h') (c : ColAt h cv co) : ColAt h' cv co := fun i hi => let ⟨a, t1, t2, t3, e, l⟩ := c i hi; ⟨a, t1, t2, t3, e, Kp.list k l⟩
/-- a lead as the walk wants it -/
theorem leadInst {h : Heap} {x : Addr} {raw : Value} {n nt b : Int} {cs : List Int} (L : LeadAt h x raw n nt cs b) : ∃ dx tn t1 t2 hr hn hnt hno hsi k1 k2 k3 k4 k5, InstAt h x (instObj 133 dx) 133 (some (dictOf [⟨hr, .str (Str.ofString "raw") k1, raw⟩, ⟨hn, .str (Str.ofString "n") k2, .int n t1⟩, ⟨hnt, .str (Str.ofString "nt") k3, .int nt t2⟩, ⟨hno, .str (Str.ofString "norm") k4, .ref tn⟩, ⟨hsi, .str (Str.ofString "is_simple") k5, .bool (decide (cs.length ≤ 1))⟩] 5)) := by
  obtain ⟨dx, tn, tc, vs, t1, t2, t3, hr, hn, hnt, hno, hsi, k1, k2, k3, k4, k5, a, b, c, d, e⟩ := L
  exact ⟨dx, tn, t1, t2, hr, hn, hnt, hno, hsi, k1, k2, k3, k4, k5, a, rfl, rfl, b⟩
end Mine

namespace Mine
/-! a for over range(n) whose name is a cell -/
theorem loopCellR {prog : Program} {w : World} {A : Around} {E : Value → Shared → Prop} {s : Shared} {env : Env} {h₀ : Heap} {x : Str} {px : Pos} {body : List Stmt} {Q : Flow → Shared → Prop}
    {r cc : Addr} {t₀ u₀ v₀ : Tok} {n : Nat} {m₀ : Str → Option Value} {oc₀ : Obj} {w₀ : Option Value} {led : List (Addr × Obj)}
    (hk : env.scope.kind = .function) (hx : env.kindOf x = some .cell) (hc : env.cells.lookup x = some cc)
    (hh : A.handled = none) (hr : IsRange s.heap r 0 (n : Int) 1 t₀ u₀ v₀) (hsm : Builtin.Range.small 0 (n : Int) 1 = true)
    (F : Fr h₀ env.locals s.heap m₀) (N : News h₀ env.locals s.heap ((cc, oc₀) :: led)) (hd : oc₀.data = .cell w₀) (hoff : ∀ p ∈ led, p.1 ≠ cc)
    (turn : ∀ i I h tk o oc t, i < n → (∀ p ∈ led, p.1 ≠ I ∧ p.1 ≠ cc) → oc.data = .cell (some (.int (i : Int) t)) → I ≠ cc → Fr h₀ env.locals h m₀ → News h₀ env.locals h ((I, o) :: (cc, oc) :: led) →
      wpAny (model prog w) A (execs body env) (TPC h₀ env.locals I o cc (fun _ : Unit => led) m₀ (fun _ => True) { s with heap := h, toks := tk } Q) (fun _ _ => False) { s with heap := h, toks := tk })
    (done : ∀ oc v h tk, Fr h₀ env.locals h m₀ → News h₀ env.locals h ((cc, oc) :: led) → oc.data = .cell v → Q .next { s with heap := h, toks := tk }) :
    wpAny (model prog w) A (pyIter (.ref r)) (fun it s₂ => codeAny (model prog w) A (.forLoop (.Name x px) it body [] env) (fun r s' => match r with | .ok f => Q f s' | .error e => cameBackBy (model prog w) A env E e s') s₂) E s := by
  have hcc := N (cc, oc₀) (.head _)
  have hIc : s.heap.objs.size ≠ cc := fun e => absurd (Heap.lt_size hcc.1) (by rw [← e]; exact Nat.lt_irrefl _)
  have hIL : s.heap.objs.size ≠ env.locals := fun e => absurd F.ns.lt (by rw [← e]; exact Nat.lt_irrefl _)
  have hI0 : h₀.get? s.heap.objs.size = none := none_at_size F
  have hn : Builtin.Range.rangeSize 0 (n : Int) 1 = (n : Int) := by rw [rngSize]; omega
  refine wpAny_pyIter_range hr hsm ?_
  refine codeAny_forLoop
    (fun k s' => ∃ h' tk i oc v, s' = { s with heap := h', toks := tk } ∧ IsRangeIter h' s.heap.objs.size ((i : Nat) : Int) ((n : Int) - (i : Nat)) 1 ∧ Fr h₀ env.locals h' m₀ ∧ News h₀ env.locals h' ((cc, oc) :: led) ∧ oc.data = .cell v ∧ (∀ p ∈ led, p.1 ≠ s.heap.objs.size ∧ p.1 ≠ cc) ∧ i ≤ n ∧ k = n + 1 - i)
    ?_ (n + 1) ⟨_, s.toks, 0, oc₀, w₀, rfl, by rw [hn]; exact Heap.get?_push_size _ rfl, F.push _, fun p hp => ⟨Heap.get?_push_of_some _ (N p hp).1, (N p hp).2⟩, hd, fun p hp => ⟨fun e => absurd (Heap.lt_size (N p (.tail _ hp)).1) (e ▸ Nat.lt_irrefl _), hoff p hp⟩, Nat.zero_le _, rfl⟩
  rintro k s' ⟨h', tk, i, oc, v', rfl, hit, F', N', hd', hoff', hi, rfl⟩
  have keepI : ∀ h₁ : Heap, (∀ b o, b ≠ s.heap.objs.size → h'.get? b = some o → h₁.get? b = some o) → Fr h₀ env.locals h₁ m₀ ∧ News h₀ env.locals h₁ ((cc, oc) :: led) := fun h₁ k =>
    ⟨⟨F'.ns.at' fun o e => k _ o (Ne.symm hIL) e, fun b o e => k b o (fun q => by rw [q, hI0] at e; cases e) (F'.keep b o e), F'.above⟩, fun p hp => ⟨k _ _ (by
      rcases List.mem_cons.mp hp with rfl | hp
      · exact Ne.symm hIc
      · exact (hoff' p hp).1) (N' p hp).1, (N' p hp).2⟩⟩
  by_cases hlt' : i < n
  · refine wpAny_pyNext_range_item hit (by omega) fun h₁ hit₁ hs₁ => ?_
    obtain ⟨F₁, N₁⟩ := keepI h₁ fun b o hb e => hs₁.extBut b o hb e
    have C₁ : h₁.IsCell cc v' := ⟨oc, (N₁ _ (.head _)).1, hd'⟩
    refine wpAny_assign_Name (wpAny_storeName_cell hk hx hc C₁ fun h₂ hv₂ hs₂ => ?_)
    obtain ⟨oc₂, ho₂, hd₂⟩ := hv₂
    have hcL : cc ≠ env.locals := hcc.2.1
    have F₂ : Fr h₀ env.locals h₂ m₀ := ⟨F₁.ns.sameBut hs₂ (Ne.symm hcL), fun b o e => hs₂.extBut b o (fun q => by rw [q, hcc.2.2] at e; cases e) (F₁.keep b o e), F₁.above⟩
    have e1 : (i : Int) + 1 = ((i + 1 : Nat) : Int) := by omega
    have e2 : (n : Int) - (i : Int) - 1 = (n : Int) - ((i + 1 : Nat) : Int) := by omega
    rw [e1, e2] at hit₁
    have hit₂ : IsRangeIter h₂ s.heap.objs.size ((i + 1 : Nat) : Int) ((n : Int) - ((i + 1 : Nat) : Int)) 1 := hs₂.extBut _ _ hIc hit₁
    obtain ⟨oI, hoI, hrI⟩ : ∃ oI, h₂.get? s.heap.objs.size = some oI ∧ ∀ h : Heap, h.get? s.heap.objs.size = some oI → IsRangeIter h s.heap.objs.size ((i + 1 : Nat) : Int) ((n : Int) - ((i + 1 : Nat) : Int)) 1 := ⟨_, hit₂, fun h e => e⟩
    have N₂ : News h₀ env.locals h₂ ((s.heap.objs.size, oI) :: (cc, oc₂) :: led) := fun p hp => by
      rcases List.mem_cons.mp hp with rfl | hp
      · exact ⟨hoI, hIL, hI0⟩
      · rcases List.mem_cons.mp hp with rfl | hp
        · exact ⟨ho₂, hcL, hcc.2.2⟩
        · exact ⟨hs₂.extBut _ _ (hoff' p hp).2 (N₁ p (.tail _ hp)).1, (N₁ p (.tail _ hp)).2⟩
    refine wpAny_mono (turn i _ h₂ _ _ oc₂ _ hlt' hoff' hd₂ hIc F₂ N₂) (fun f s₃ h₃ => ?_) fun _ _ e => e.elim
    have fin : (∃ (c : Unit) (h' : Heap) (tk : Nat) (oc : Obj) (v : Option Value), s₃ = { s with heap := h', toks := tk } ∧ Fr h₀ env.locals h' m₀ ∧ News h₀ env.locals h' ((s.heap.objs.size, oI) :: (cc, oc) :: led) ∧ oc.data = .cell v ∧ (∀ p ∈ led, p.1 ≠ s.heap.objs.size ∧ p.1 ≠ cc) ∧ True) → ∃ k, k < n + 1 - i ∧ ∃ h' tk i oc v, s₃ = { s with heap := h', toks := tk } ∧ IsRangeIter h' s.heap.objs.size ((i : Nat) : Int) ((n : Int) - (i : Nat)) 1 ∧ Fr h₀ env.locals h' m₀ ∧ News h₀ env.locals h' ((cc, oc) :: led) ∧ oc.data = .cell v ∧ (∀ p ∈ led, p.1 ≠ s.heap.objs.size ∧ p.1 ≠ cc) ∧ i ≤ n ∧ k = n + 1 - i := by
      rintro ⟨_, h₃', tk₃, oc₃, v₃, rfl, F₃, N₃, hd₃, hoff₃, _⟩
      exact ⟨n + 1 - (i + 1), by omega, h₃', tk₃, i + 1, oc₃, v₃, rfl, hrI _ (N₃ _ (.head _)).1, F₃, fun p hp => N₃ p (.tail _ hp), hd₃, hoff₃, hlt', rfl⟩
    cases f with
    | ret v => exact h₃
    | brk => exact h₃
    | next => exact fin h₃
    | cont => exact fin h₃
  · have hin : i = n := by omega
    subst hin
    refine wpAny_pyNext_range_end hh hit (by omega) fun h₁ he₁ => wpAny_execs_nil ?_
    obtain ⟨F₁, N₁⟩ := keepI h₁ fun b o hb e => he₁ b o hb e
    exact done oc v' h₁ tk F₁ N₁ hd'

/-! what the piles give -/
theorem permIn {ns : List Int} (h : ns.Perm ((List.range 6).map fun (j : Nat) => (j : Int))) : (∀ x, x ∈ ns ↔ In6 x) ∧ ns.length = 6 := by
  refine ⟨fun x => ?_, by rw [h.length_eq]; rfl⟩
  rw [h.mem_iff, List.mem_map]
  constructor
  · rintro ⟨j, hj, rfl⟩
    have := List.mem_range.mp hj
    exact ⟨by omega, by omega⟩
  · rintro ⟨h1, h2⟩
    exact ⟨x.toNat, List.mem_range.mpr (by omega), by omega⟩
theorem msAt {f : Int → Int} {j : Nat} (hj : j < 6) : ((List.range 6).map fun (k : Nat) => f (k : Int))[j]? = some (f (j : Int)) := by
  rw [List.getElem?_map, List.getElem?_range hj]; rfl
/-- each of the lists that a ledger holds: a chain, a crowd -/
def ItemOk (G : List Int → Prop) (led : List (Addr × Obj)) (v : Value) : Prop := ∃ a vs c ns, v = .ref a ∧ (a, listOf vs.toArray c) ∈ led ∧ IntsAre vs ns ∧ ns.length ≤ 6 ∧ (∀ x ∈ ns, In6 x) ∧ G ns
abbrev ChG (co : Nat → Int × Int × Int) (ns : List Int) : Prop := ∀ (i : Nat) x y, ns[i]? = some x → ns[i + 1]? = some y → tabB co x.toNat y.toNat = true
abbrev CrG (co : Nat → Int × Int × Int) (ns : List Int) : Prop := ∀ x ∈ ns, ∀ y ∈ ns, tabB co x.toNat y.toNat = false
theorem ItemOk.up {G : List Int → Prop} {led led' : List (Addr × Obj)} {v : Value} (h : ItemOk G led v) (k : ∀ y ∈ led, y ∈ led') : ItemOk G led' v :=
  let ⟨a, vs, c, ns, h1, h2, r⟩ := h; ⟨a, vs, c, ns, h1, k _ h2, r⟩
section
variable {R : Int → Int → Prop} {b : Bool} {mk ah : Int → Int} {full : List Int} {n : Nat} {P : Nat → List Int} {prs : Prs} {G : List Int → Prop}
theorem nodup_of {R : Int → Int → Prop} (asym : ∀ x y, R x y → ¬ R y x) {l : List Int} (h : l.Pairwise R) : l.Nodup := by
  refine List.Pairwise.imp (fun {x y} q => ?_) h
  intro e
  rw [e] at q
  exact asym _ _ q q
theorem nodup_len {l : List Int} (h : l.Nodup) (hin : ∀ x ∈ l, In6 x) : l.length ≤ 6 := by
  have := (List.Nodup.length_le_of_subset (l₂ := (List.range 6).map fun (j : Nat) => (j : Int)) h fun x hx => by
    have := hin x hx
    exact List.mem_map.mpr ⟨x.toNat, List.mem_range.mpr (by omega), by omega⟩)
  rwa [List.length_map, List.length_range] at this
theorem pileOk (asym : ∀ x y, R x y → ¬ R y x) (h : PInv R b mk full n P ah) (hp : PrsOk prs n P) (hf : ∀ x, x ∈ full ↔ In6 x) (hG : ∀ i, G (P i)) : ∀ v ∈ prsRef prs, ItemOk G (prsLed prs) v := fun v hv => by
  obtain ⟨q, hq, rfl⟩ := List.mem_map.mp hv
  obtain ⟨i, hi, rfl⟩ := List.mem_iff_getElem.mp hq
  have hin : ∀ x ∈ P i, In6 x := fun x hx => (hf x).mp (h.d1 i x hx)
  exact ⟨_, (prs[i]).2.1, (prs[i]).2.2, P i, rfl, List.mem_map_of_mem hq, hp.ia i _ (List.getElem?_eq_getElem hi), nodup_len (nodup_of asym ((h.c i).imp fun q => q.1)) hin, hin, hG i⟩
end
section
variable {h₀ h : Heap} {L : Addr} {d y p lv rw bl ll t c3 c2 c1 ln d1 y1 p1 ht : Addr × Obj} {pl r : List (Addr × Obj)}
theorem reordP1 (N : News h₀ L h (d :: y :: p :: (pl ++ (lv :: rw :: bl :: ll :: t :: c3 :: c2 :: c1 :: r)))) : News h₀ L h (d :: y :: p :: lv :: rw :: bl :: c3 :: c2 :: (pl ++ r)) := fun x hx => N x (by
  simp only [List.mem_cons, List.mem_append] at hx ⊢
  rcases hx with h | h | h | h | h | h | h | h | h | h <;> simp only [h, true_or, or_true])
theorem reordP2 (N : News h₀ L h (d :: y :: p :: (pl ++ (ln :: d1 :: y1 :: p1 :: lv :: rw :: bl :: c3 :: c2 :: r)))) : News h₀ L h (d :: y :: p :: y1 :: p1 :: bl :: c3 :: c2 :: (pl ++ r)) := fun x hx => N x (by
  simp only [List.mem_cons, List.mem_append] at hx ⊢
  rcases hx with h | h | h | h | h | h | h | h | h | h <;> simp only [h, true_or, or_true])
theorem dropTwo (N : News h₀ L h (ht :: d :: r)) : News h₀ L h (ht :: r) := fun x hx => N x (by
  simp only [List.mem_cons] at hx ⊢
  rcases hx with h | h <;> simp only [h, true_or, or_true])
theorem reordC (N : News h₀ L h (ht :: y :: p :: y1 :: p1 :: bl :: c3 :: c2 :: r)) : News h₀ L h (c3 :: ht :: y :: p :: y1 :: p1 :: bl :: c2 :: r) := fun x hx => N x (by
  simp only [List.mem_cons] at hx ⊢
  rcases hx with h | h | h | h | h | h | h | h | h <;> simp only [h, true_or, or_true])
end
theorem neSym {a b : Nat} (h : @Ne Nat a b) : @Ne Nat b a := Ne.symm h
theorem hgtAt {co : Nat → Int × Int × Int} (hb : CoOk co) {full : List Int} {n i : Nat} {P : Nat → List Int} {ah : Int → Int} {hvs : List Value} (h : PInv (RC co) true (mkC co) full n P ah) (hf : ∀ x, x ∈ full ↔ In6 x) (hh : IntsAre hvs ((List.range 6).map fun k => (hF (tabB co) 5 k : Int))) (hi : i < n) (hn : n ≤ 6) {x : Int} (hx : x ∈ P i) : ∃ t, hvs[x.toNat]? = some (.int (i : Int) t) := by
  have x6 := (hf x).mp (h.d1 i x hx)
  refine hh.get x.toNat (i : Int) ?_
  rw [List.getElem?_map, List.getElem?_range (by omega)]
  show some ((hF (tabB co) 5 x.toNat : Nat) : Int) = _
  rw [heightsIs hb h hf 5 i x hx, Nat.min_eq_left (by omega)]
theorem rangeItem {f : Nat → Int} {vs : List Value} {j : Nat} {v : Value} (h : IntsAre vs ((List.range 6).map f)) (hj : j < 6) (e : vs.toArray[j]? = some v) : ∃ t, v = .int (f j) t := by
  obtain ⟨t, q⟩ := h.get j (f j) (by rw [List.getElem?_map, List.getElem?_range hj]; rfl)
  rw [List.getElem?_toArray, q] at e
  exact ⟨t, (Option.some.inj e).symm⟩
/-- the lists that the two last loops walk -/
theorem itemsOk {G : List Int → Prop} {prs : Prs} {Y c : Nat} {wv : List Value} {way : List Int} {led : List (Addr × Obj)} (h1 : ∀ v ∈ prsRef prs, ItemOk G (prsLed prs) v) (k : ∀ y ∈ prsLed prs, y ∈ led) (m : (Y, listOf wv.toArray c) ∈ led) (hi : IntsAre wv way) (hl : way.length ≤ 6) (hin : ∀ x ∈ way, In6 x) (hG : G way) :
    ∀ v ∈ prsRef prs ++ [.ref Y], ItemOk G led v := fun v hv => by
  rcases List.mem_append.mp hv with q | q
  · exact (h1 v q).up k
  · rw [List.mem_singleton.mp q]
    exact ⟨Y, wv, c, way, rfl, m, hi, hl, hin, hG⟩
section
variable {co : Nat → Int × Int × Int} {full : List Int} {n : Nat} {P : Nat → List Int} {ah : Int → Int} {prs : Prs}
theorem crowdsOk (hb : CoOk co) (h : PInv (RC co) true (mkC co) full n P ah) (hp : PrsOk prs n P) (hf : ∀ x, x ∈ full ↔ In6 x) : ∀ v ∈ prsRef prs, ItemOk (CrG co) (prsLed prs) v :=
  pileOk RC_asym h hp hf fun i => crowdOk hb (fun x hx => (hf x).mp (h.d1 i x hx)) (h.c i)
theorem chainsOk (hb : CoOk co) (h : PInv (RC co) false (fun k => -mkC co k) full n P ah) (hp : PrsOk prs n P) (hf : ∀ x, x ∈ full ↔ In6 x) : ∀ v ∈ prsRef prs, ItemOk (ChG co) (prsLed prs) v :=
  pileOk RC_asym h hp hf fun i => chainOk2 hb (fun x hx => (hf x).mp (h.d1 i x hx)) (h.c i)
theorem wayIn {R : Int → Int → Prop} {b : Bool} {mk : Int → Int} {way : List Int} (h : PInv R b mk full n P ah) (hf : ∀ x, x ∈ full ↔ In6 x) (hw : ∀ x ∈ way, ∃ j, x ∈ P j) : ∀ x ∈ way, In6 x := fun x hx => let ⟨j, hj⟩ := hw x hx; (hf x).mp (h.d1 j x hj)
end
theorem itemsOkN {h₀ h : Heap} {L : Addr} {G : List Int → Prop} {prs : Prs} {Y c : Nat} {wv : List Value} {way : List Int} {led : List (Addr × Obj)} (_N : News h₀ L h led) (h1 : ∀ v ∈ prsRef prs, ItemOk G (prsLed prs) v) (k : ∀ y ∈ prsLed prs, y ∈ led) (m : (Y, listOf wv.toArray c) ∈ led) (hi : IntsAre wv way) (hl : way.length ≤ 6) (hin : ∀ x ∈ way, In6 x) (hG : G way) :
    ∀ v ∈ prsRef prs ++ [.ref Y], ItemOk G led v := itemsOk h1 k m hi hl hin hG
theorem newsTail {h₀ h : Heap} {L : Addr} {a : Addr × Obj} {r : List (Addr × Obj)} (N : News h₀ L h (a :: r)) : News h₀ L h r := fun p hp => N p (.tail _ hp)
section
variable {prog : Program} {w : World} {A : Around} {E : Value → Shared → Prop} {s : Shared} {h₀ : Heap} {env : Env}
/-- over a list of the frame's own, that and all else kept -/
theorem loopNc {x : Str} {body : List Stmt} {Q : Flow → Shared → Prop} {l : Addr} {items : Array Value} {cc : Nat} {m₀ : Str → Option Value} {led : List (Addr × Obj)}
    (hh : A.handled = none) (F : Fr h₀ env.locals s.heap m₀) (N : News h₀ env.locals s.heap ((l, listOf items cc) :: led))
    (turn : ∀ i v I h tk o, i < items.size → items[i]? = some v → (∀ p ∈ (l, listOf items cc) :: led, p.1 ≠ I) → Fr h₀ env.locals h (fun y => if y = x then some v else m₀ y) → News h₀ env.locals h ((I, o) :: (l, listOf items cc) :: led) →
      wpAny (model prog w) A (execs body env) (TP h₀ env.locals I o (fun _ : Unit => (l, listOf items cc) :: led) (fun _ => []) x [] m₀ (fun _ => True) { s with heap := h, toks := tk } Q) E { s with heap := h, toks := tk })
    (done : ∀ (u : Str → Option Value) h tk, Fr h₀ env.locals h (fun y => if y = x then u y else m₀ y) → News h₀ env.locals h led → Q .next { s with heap := h, toks := tk }) :
    wpAny (model prog w) A (pyIter (.ref l)) (fun it s₂ => LoopAtV prog w A h₀ env x body Q E it s₂) E s := by
  refine loopN (σ := Unit) (fun _ => (l, listOf items cc) :: led) (fun _ => []) [] (fun _ _ => True) () hh (fun _ => .head _) F N (fun _ hp => nomatch hp) trivial ?_ ?_
  · intro c i v u I h tk o hi hv _ hI F' N'
    exact turn i v I h tk o hi hv hI F' N'
  · intro c u h tk _ F' N'
    exact done u h tk F' fun p hp => N' p (.tail _ hp)
end
section
variable {h₀ h' : Heap} {L I C c D D' : Addr} {m : Str → Option Value} {s₁ : Shared} {oI oC oc oD o : Obj} {S : List (Addr × Obj) → Prop} {R : Value → List (Addr × Obj) → Prop} {y : Value} {tk : Nat} {lit rest : List (Addr × Obj)}
theorem compEndNew (F : Fr h₀ L h' m) (N : News h₀ L h' ((D', o) :: (I, oI) :: (C, oC) :: (D, oD) :: (lit ++ rest))) (off : ∀ p ∈ lit ++ rest, p.1 ≠ I ∧ p.1 ≠ C ∧ p.1 ≠ D) (hD : ∀ q ∈ (I, oI) :: (C, oC) :: (D, oD) :: (lit ++ rest), D' ≠ q.1)
    (hS : S (lit ++ ((D', o) :: rest))) (r : R y (lit ++ ((D', o) :: rest))) : LCg.CompEnd h₀ L m s₁ I oI C oC D oD S R y { s₁ with heap := h', toks := tk } := by
  refine LCg.CompEnd.intro F N (lit ++ ((D', o) :: rest)) (fun p hp => ?_) (LCg.Off3.of fun p hp => ?_) hS r
  · simp only [List.mem_cons, List.mem_append] at hp ⊢
    rcases hp with h | h | h | h | h | h <;> simp only [h, true_or, or_true]
  · rcases List.mem_append.mp hp with q | q
    · exact off p (List.mem_append_left _ q)
    · rcases List.mem_cons.mp q with e | q
      · rw [e]; exact ⟨hD _ (.head _), hD _ (.tail _ (.head _)), hD _ (.tail _ (.tail _ (.head _)))⟩
      · exact off p (List.mem_append_right _ q)
theorem compEndCNew (F : Fr h₀ L h' m) (N : News h₀ L h' ((D', o) :: (I, oI) :: (C, oC) :: (c, oc) :: (D, oD) :: (lit ++ rest))) (off : Off4 I C c D (lit ++ rest)) (hD : ∀ q ∈ (I, oI) :: (C, oC) :: (c, oc) :: (D, oD) :: (lit ++ rest), q.1 ≠ D')
    (hS : S (lit ++ ((D', o) :: rest))) (r : R y (lit ++ ((D', o) :: rest))) : CompEndC h₀ L m s₁ I C c D oI oC oc oD S R y { s₁ with heap := h', toks := tk } := by
  refine CompEndC.intro (lit ++ ((D', o) :: rest)) F N (fun p hp => ?_) (fun p hp => ?_) hS r
  · simp only [List.mem_cons, List.mem_append] at hp ⊢
    rcases hp with h | h | h | h | h | h | h <;> simp only [h, true_or, or_true]
  · rcases List.mem_append.mp hp with q | q
    · exact off p (List.mem_append_left _ q)
    · rcases List.mem_cons.mp q with e | q
      · rw [e]; exact ⟨(hD _ (.head _)).symm, (hD _ (.tail _ (.head _))).symm, (hD _ (.tail _ (.tail _ (.head _)))).symm, (hD _ (.tail _ (.tail _ (.tail _ (.head _))))).symm⟩
      · exact off p (List.mem_append_right _ q)
theorem freshLit {n : List (Addr × Obj)} (hD : ∀ q ∈ n, D' ≠ q.1) (sub : ∀ q ∈ lit, q ∈ n) : ∀ a ∈ lit.map (·.1), (@Ne Nat D' a) := fun a ha => by
  obtain ⟨q, hq, rfl⟩ := List.mem_map.mp ha
  exact hD q (sub q hq)
end
section
variable {h₀ : Heap} {L : Addr} {s : Shared}
theorem leadsEnd {Q : Flow → Shared → Prop} {m₀ m' : Str → Option Value} {h' : Heap} {tk : Nat} {I LL x : Addr} {o : Obj} {vs : List Value} {n i p q : Nat} {co : Nat → Int × Int × Int} {lit rest0 rest2 tl : List (Addr × Obj)} {kn : Str}
    (F : Fr h₀ L h' m') (N : News h₀ L h' ((I, o) :: (LL, listOf (vs ++ [Value.ref x]).toArray (n + 1)) :: (lit ++ (tl ++ rest2)))) (hLI : @Ne Nat LL I) (hlI : ∀ z ∈ lit, (@Ne Nat z.1 I)) (hrI : ∀ y ∈ rest2, (@Ne Nat y.1 I))
    (o99 : ∀ p ∈ tl, ∀ y ∈ I :: LL :: lit.map (·.1), (@Ne Nat p.1 y)) (hg : Grow (LL :: lit.map (·.1)) rest0 rest2) (hla : LeadsAt co p q i vs rest2) (L99 : ∀ h' : Heap, (∀ y ∈ tl, h'.get? y.1 = some y.2) → LdAt co p q i h' x)
    (hz : ∀ z : Str, z ≠ kn → z ≠ Str.ofString "turned" → m' z = m₀ z) : TP h₀ L I o (fun c : LdS => (LL, listOf c.vs.toArray c.n) :: (lit ++ c.rest)) (fun _ => []) kn ["turned"] m₀ (LdP lit rest0 p q co LL (i + 1)) s Q .next { s with heap := h', toks := tk } := by
  refine TP.next (σ := LdS) ⟨vs ++ [Value.ref x], n + 1, tl ++ rest2⟩ F N (fun p hp => hp) (fun p hp => ?_) (List.forall_mem_nil _) (fun z h1 _ h3 => hz z h1 (nIn h3 (.head _))) ⟨hg.app fun p hp a ha => o99 p hp a (.tail _ ha), hla.snoc L99⟩
  rcases List.mem_cons.mp hp with rfl | hp
  · exact hLI
  · rcases List.mem_append.mp hp with hp | hp
    · exact hlI p hp
    · rcases List.mem_append.mp hp with hp | hp
      · exact o99 p hp I (.head _)
      · exact hrI p hp
end
/-! the law's own body -/
theorem sevenOf {us : List Value} {k : List Int} (h : IntsAre us k) (e : k.length = 7) : ∃ d0 d1 d2 d3 d4 d5 d6 t0 t1 t2 t3 t4 t5 t6, us = [.int d0 t0, .int d1 t1, .int d2 t2, .int d3 t3, .int d4 t4, .int d5 t5, .int d6 t6] := by
  cases h with
  | nil => cases e
  | cons _ _ h =>
  cases h with
  | nil => cases e
  | cons _ _ h =>
  cases h with
  | nil => cases e
  | cons _ _ h =>
  cases h with
  | nil => cases e
  | cons _ _ h =>
  cases h with
  | nil => cases e
  | cons _ _ h =>
  cases h with
  | nil => cases e
  | cons _ _ h =>
  cases h with
  | nil => cases e
  | cons _ _ h =>
  cases h with
  | nil => exact ⟨_, _, _, _, _, _, _, _, _, _, _, _, _, _, rfl⟩
  | cons _ _ h =>
    simp only [List.length_cons] at e
    omega
abbrev ColB (c : Int × Int × Int) : Prop := (0 ≤ c.1 ∧ c.1 ≤ 4) ∧ (0 ≤ c.2.1 ∧ c.2.1 ≤ 4) ∧ 0 ≤ c.2.2 ∧ c.2.2 < max 1 (6 * c.2.1)
def ColAtL (co : Nat → Int × Int × Int) (i : Nat) (ys : List Value) (rest : List (Addr × Obj)) : Prop :=
  ys.length = i ∧ ∀ j, j < i → ColB (co j) ∧ ∃ a t1 t2 t3, ys[j]? = some (.ref a) ∧ (a, listOf #[.int (co j).1 t1, .int (co j).2.1 t2, .int (co j).2.2 t3] 0) ∈ rest
def ColJ (lit : List (Addr × Obj)) (i : Nat) (ys : List Value) (nw : List (Addr × Obj)) : Prop :=
  ∃ rest co, nw = lit ++ rest ∧ Grow (lit.map (·.1)) [] rest ∧ ColAtL co i ys rest
theorem ColJ.nil {lit : List (Addr × Obj)} : ColJ lit 0 [] lit := ⟨[], fun _ => (0, 0, 0), (List.append_nil _).symm, Grow.nil, rfl, fun j h => absurd h (Nat.not_lt_zero j)⟩
theorem ColAtL.snoc {co : Nat → Int × Int × Int} {i : Nat} {ys : List Value} {rest : List (Addr × Obj)} {D : Addr} {a sp h : Int} {t1 t2 t3 : Tok} (H : ColAtL co i ys rest) (b : ColB (a, sp, h)) :
    ColAtL (fun j => if j = i then (a, sp, h) else co j) (i + 1) (ys ++ [.ref D]) ((D, listOf #[.int a t1, .int sp t2, .int h t3] 0) :: rest) := by
  refine ⟨by rw [List.length_append, H.1]; rfl, fun j hj => ?_⟩
  by_cases e : j = i
  · subst e
    simp only [if_true]
    exact ⟨b, D, t1, t2, t3, by rw [List.getElem?_append_right (Nat.le_of_eq H.1), H.1, Nat.sub_self]; rfl, .head _⟩
  · obtain ⟨q0, x, u1, u2, u3, q1, q2⟩ := H.2 j (by omega)
    simp only [if_neg e]
    exact ⟨q0, x, u1, u2, u3, by rw [List.getElem?_append_left (by rw [H.1]; omega)]; exact q1, .tail _ q2⟩
theorem ColAtL.ok {co : Nat → Int × Int × Int} {ys : List Value} {rest : List (Addr × Obj)} (H : ColAtL co 6 ys rest) : CoOk co ∧ CoHue co ∧ ys.length = 6 := ⟨fun i hi => ⟨(H.2 i hi).1.1, (H.2 i hi).1.2.1⟩, fun i hi => (H.2 i hi).1.2.2, H.1⟩
theorem ColAtL.get {co : Nat → Int × Int × Int} {i : Nat} {ys : List Value} {rest : List (Addr × Obj)} (H : ColAtL co i ys rest) {j : Nat} (hj : j < i) : ∃ a t1 t2 t3, ys[j]? = some (.ref a) ∧ (a, listOf #[.int (co j).1 t1, .int (co j).2.1 t2, .int (co j).2.2 t3] 0) ∈ rest := (H.2 j hj).2
theorem fm3 (x : Int) : 0 ≤ x.fmod 3 ∧ x.fmod 3 ≤ 2 := ⟨Int.fmod_nonneg_of_pos x (by decide), Int.le_of_lt_add_one (Int.fmod_lt_of_pos x (by decide))⟩
theorem sixItem {d1 d2 d3 d4 d5 d6 : Int} {t1 t2 t3 t4 t5 t6 : Tok} {i : Nat} {v : Value} (h : (#[Value.int d1 t1, Value.int d2 t2, Value.int d3 t3, Value.int d4 t4, Value.int d5 t5, Value.int d6 t6] : Array Value)[i]? = some v) : ∃ d t, v = .int d t := by
  obtain ⟨x, t, e, _⟩ := intsItem (vs := [Value.int d1 t1, Value.int d2 t2, Value.int d3 t3, Value.int d4 t4, Value.int d5 t5, Value.int d6 t6]) (.cons _ _ (.cons _ _ (.cons _ _ (.cons _ _ (.cons _ _ (.cons _ _ .nil)))))) h
  exact ⟨x, t, e⟩
theorem reordR {h₀ h : Heap} {L : Addr} {rw t180 bl ll t c3 c2 c1 : Addr × Obj} {r : List (Addr × Obj)} (N : News h₀ L h (rw :: t180 :: bl :: ll :: t :: c3 :: c2 :: c1 :: r)) : News h₀ L h (rw :: bl :: ll :: t :: c3 :: c2 :: c1 :: (t180 :: r)) := fun x hx => N x (by
  simp only [List.mem_cons] at hx ⊢
  rcases hx with h | h | h | h | h | h | h | h | h <;> simp only [h, true_or, or_true])
theorem tailRows {B : Nat → Nat → Bool} {rows : List Value} {z : Addr × Obj} {r : List (Addr × Obj)} (h : ∀ j, j < 6 → ∃ (a : Addr) (n : Nat), rows[j]? = some (.ref a) ∧ (a, listOf (boolRow B j 6).toArray n) ∈ r) : ∀ j, j < 6 → ∃ (a : Addr) (n : Nat), rows[j]? = some (.ref a) ∧ (a, listOf (boolRow B j 6).toArray n) ∈ z :: r := fun j hj => let ⟨a, n, e, m⟩ := h j hj; ⟨a, n, e, .tail _ m⟩
end Mine

namespace Mine
theorem filled : hd.heap_39 = hd.heap_39 ∧ PySem.Challenge.rw_pg0282_01.prog = PySem.Challenge.rw_pg0282_01.prog := by
  k_fill
  exact ⟨rfl, rfl⟩

local macro_rules | `(tactic| kun_lst) => `(tactic| (exact Kp.list (Fr.keep (by assumption)) (by assumption)))
local macro_rules | `(tactic| k_inst) => `(tactic| exact instK (by assumption) (Fr.keep (by assumption)))
local macro_rules | `(tactic| kun_tup) => `(tactic| exact Kp.tup (Fr.keep (by assumption)) (by assumption))
local macro_rules | `(tactic| walk_at "exec For Name Name cons nil") => `(tactic| k_dflt (refine' For_invVF (by assumption) ?k1 ?k2 ?_; (case k1 => exact rfl); (case k2 => exact rfl)))
local macro_rules | `(tactic| walk_at $s:str) => `(tactic| k_extra $s)

section
variable {prog : Program} {w : World} {mean : ExcName → Option Value} {mg mb : Str → Option Value} {dp un : Nat} {gd : Option (List Code)} {base : Heap} {outer : List Env} {s : Shared} {Q E : Value → Shared → Prop}

theorem part_ctr {l : Addr} {a sp h c : Int} {ta tb th tc : Tok} (W : Rdy w mean mg mb (ar dp un gd outer) base outer s.heap) (hd' : dp + 10 < recursionLimit)
   (hl : s.heap.IsList l [.int a ta, .int sp tb, .int h th].toArray) (ha : 0 ≤ a ∧ a ≤ 4) (hs : 0 ≤ sp ∧ sp ≤ 4) (hh : 0 ≤ h ∧ h < 24) (hc : 0 ≤ c ∧ c ≤ 2)
   (ret : Ret0 s Q (fun r => ∃ t, r = .int (partF a sp h c) t)) :
   wpAny (model prog w) (ar dp un gd outer) (call (.ref 158) [.ref l, .int c tc]) Q E s := by
  k_with_none
  w_top off
  refine wpAny_call ?_
  k_dflt (first
  | (refine' enterD ?k1 ?k6 ?k7 ?k8 ?k9 ?kB ?_ ?c2 ?c3 ?c4 ?c5
     (case k1 => assumption)
     (case k6 => k_is)
     (case k7 => k_is)
     (case k8 => omega)
     (case k9 => first | exact BindsTo.of_eq rfl | exact kp_binds (Rdy.K (by assumption)) (fun _ => rfl))
     (case kB => exact locs rfl)
     (case c2 => exact rfl)
     (case c3 => exact rfl)
     (case c4 => exact rfl)
     (case c5 => decide)
     intro _ _ _ _ _ _
     (try dsimp only))
  | (refine' enterC ?k1 ?k6 ?k7 ?k8 ?k9 ?kB ?kD ?_ ?c2 ?c3 ?c4
     (case k1 => assumption)
     (case k6 => k_is)
     (case k7 => k_is)
     (case k8 => omega)
     (case k9 => first | exact BindsTo.of_eq rfl | exact kp_binds (Rdy.K (by assumption)) (fun _ => rfl))
     (case kB => exact rfl)
     (case kD => decide +kernel)
     (case c2 => exact rfl)
     (case c3 => exact rfl)
     (case c4 => exact rfl)
     intro _ _ _ _ Nq Yq _ _ _
     k_cells Yq
     (try simp only [List.cons_append, List.nil_append] at Nq)
     (try dsimp only)))
  k_steps
  all_goals (try dsimp only)
  all_goals refine ret0End (s := s) ret (by assumption) ?_
  · exact ⟨ta, by rw [partF, if_pos (show sp = 0 by assumption)]⟩
  · refine ⟨_, congrArg (fun x => Value.int x _) ?_⟩
    rw [partF, if_neg (show sp ≠ 0 by assumption)]

def PostF (x : Str) (h₀ : Heap) (L : Addr) (m : Str → Option Value) (news : List (Addr × Obj)) (s₁ : Shared) (fl : Flow) (s₂ : Shared) : Prop :=
  fl = .next ∧ ∃ (h' : Heap) (tk : Nat) (v : UInt64) (u : Tok), s₂ = { s₁ with heap := h', toks := tk } ∧ Fr h₀ L h' (fun y => if y = x then some (.float v u) else m y) ∧ News h₀ L h' news
theorem PostF.intro {x : Str} {h₀ : Heap} {L : Addr} {m : Str → Option Value} {news : List (Addr × Obj)} {h' : Heap} {tk : Nat} {v : UInt64} {u : Tok} (F : Fr h₀ L h' (fun y => if y = x then some (.float v u) else m y)) (N : News h₀ L h' news) : PostF x h₀ L m news s .next { s with heap := h', toks := tk } := ⟨rfl, h', tk, v, u, rfl, F, N⟩
/-- an if whose branches leave a float in x and nothing else -/
theorem cutF (x : Str) {M : Model} {A : Around} {t : Sem Flow} {Q : Flow → Shared → Prop} {h₀ : Heap} {L : Addr} {m : Str → Option Value} {news : List (Addr × Obj)} {E : Value → Shared → Prop} (_F : Fr h₀ L s.heap m) (_N : News h₀ L s.heap news)
    (h : wpAny M A t (PostF x h₀ L m news s) E s)
    (k : ∀ v u h' tk, Fr h₀ L h' (fun y => if y = x then some (.float v u) else m y) → News h₀ L h' news → Q .next { s with heap := h', toks := tk }) : wpAny M A t Q E s :=
  wpAny_mono h (by
    rintro fl s' ⟨rfl, h', tk, v, u, rfl, F, N⟩
    exact k v u h' tk F N) fun _ _ e => e
theorem hls_ctr {i j k : Nat} {ti tj tk : Tok} (W : Rdy w mean mg mb (ar dp un gd outer) base outer s.heap) (hd' : dp + 10 < recursionLimit)
   (hi : i ≤ 8) (hj : j ≤ 8) (hk : k ≤ 8)
   (ret : Ret s Q (fun tl r => ∃ D x l ta u, r = .ref D ∧ tl = [(D, { cls := .type "tuple", data := .seq #[x, .float l ta, u] })] ∧ l = fl16 (max (max i j) k + min (min i j) k))) :
   wpAny (model prog w) (ar dp un gd outer) (call (.ref 64) [.float (fl8 i) ti, .float (fl8 j) tj, .float (fl8 k) tk]) Q E s := by
  k_with_none
  w_top off
  k_with "call builtin:max" => (refine max3F rfl hi hj hk ?_; intro h' tk' y' k'; have F' := frK (by assumption) k'; have N' := newsK (by assumption) k'; clear k'; (try k_sweep))
  k_with "call builtin:min" => (refine min3F rfl hi hj hk ?_; intro h' tk' y' k'; have F' := frK (by assumption) k'; have N' := newsK (by assumption) k'; clear k'; (try k_sweep))
  k_with "binaryOp Div float float" => (refine divF ?k1 ?_; (case k1 => first
    | decide +kernel
    | exact (nzs (by omega) (by omega) (by assumption)).1
    | exact (nzs (by omega) (by omega) (by assumption)).2.1
    | exact (nzs (by omega) (by omega) (by assumption)).2.2.1))
  k_with "binaryOp Mod float float" => (refine modF ?k1 ?_; (case k1 => decide +kernel))
  k_with "exec If Compare cons cons" =>
    (fail_if_success (with_reducible show wpAny _ _ _ (PostF _ _ _ _ _ _) _ _))
    (rename Fr _ _ _ _ => F9)
    (rename News _ _ _ _ => N9)
    k_dflt (first
      | ((with_reducible show wpAny _ _ (exec (.If (.Compare (.Name (Str.ofString "l") _) _ _ _) _ _ _) _) _ _ _); refine cutF "s" F9 N9 ?_ ?_)
      | ((with_reducible show wpAny _ _ (exec (.If (.Compare (.Name (Str.ofString "r") _) _ _ _) _ _ _) _) _ _ _); refine cutF "h" F9 N9 ?_ ?_))
    rotate_left
    clear F9 N9
    intro v9 u9 h9 tk9 F9 N9
    rotate_left
  refine wpAny_call ?_
  k_dflt (first
  | (refine' enterD ?k1 ?k6 ?k7 ?k8 ?k9 ?kB ?_ ?c2 ?c3 ?c4 ?c5
     (case k1 => assumption)
     (case k6 => k_is)
     (case k7 => k_is)
     (case k8 => omega)
     (case k9 => first | exact BindsTo.of_eq rfl | exact kp_binds (Rdy.K (by assumption)) (fun _ => rfl))
     (case kB => exact locs rfl)
     (case c2 => exact rfl)
     (case c3 => exact rfl)
     (case c4 => exact rfl)
     (case c5 => decide)
     intro _ _ _ _ _ _
     (try dsimp only))
  | (refine' enterC ?k1 ?k6 ?k7 ?k8 ?k9 ?kB ?kD ?_ ?c2 ?c3 ?c4
     (case k1 => assumption)
     (case k6 => k_is)
     (case k7 => k_is)
     (case k8 => omega)
     (case k9 => first | exact BindsTo.of_eq rfl | exact kp_binds (Rdy.K (by assumption)) (fun _ => rfl))
     (case kB => exact rfl)
     (case kD => decide +kernel)
     (case c2 => exact rfl)
     (case c3 => exact rfl)
     (case c4 => exact rfl)
     intro _ _ _ _ Nq Yq _ _ _
     k_cells Yq
     (try simp only [List.cons_append, List.nil_append] at Nq)
     (try dsimp only)))
  k_steps
  all_goals first
  | exact PostF.intro (by assumption) (by assumption)
  | exact retEnd (s := s) ret (by assumption) (by assumption) (fun _ h => h) ⟨_, _, _, _, _, rfl, rfl, lightIs _ (by omega) _ (by omega)⟩

theorem hsv_ctr {i j k : Nat} {ti tj tk : Tok} (W : Rdy w mean mg mb (ar dp un gd outer) base outer s.heap) (hd' : dp + 10 < recursionLimit)
   (hi : i ≤ 8) (hj : j ≤ 8) (hk : k ≤ 8)
   (ret : Ret s Q (fun tl r => ∃ D x u ta, r = .ref D ∧ tl = [(D, { cls := .type "tuple", data := .seq #[x, u, .float (fl8 (max (max i j) k)) ta] })])) :
   wpAny (model prog w) (ar dp un gd outer) (call (.ref 71) [.float (fl8 i) ti, .float (fl8 j) tj, .float (fl8 k) tk]) Q E s := by
  k_with_none
  w_top off
  k_with "call builtin:max" => (refine max3F rfl hi hj hk ?_; intro h' tk' y' k'; have F' := frK (by assumption) k'; have N' := newsK (by assumption) k'; clear k'; (try k_sweep))
  k_with "call builtin:min" => (refine min3F rfl hi hj hk ?_; intro h' tk' y' k'; have F' := frK (by assumption) k'; have N' := newsK (by assumption) k'; clear k'; (try k_sweep))
  k_with "binaryOp Div float float" => (refine divF ?k1 ?_; (case k1 => first
    | decide +kernel
    | exact (nzs (by omega) (by omega) (by assumption)).2.1
    | exact nzM (by assumption) (by omega) (by omega)))
  k_with "binaryOp Mod float float" => (refine modF ?k1 ?_; (case k1 => decide +kernel))
  k_with "exec If Compare cons cons" =>
    (fail_if_success (with_reducible show wpAny _ _ _ (PostF _ _ _ _ _ _) _ _))
    (rename Fr _ _ _ _ => F9)
    (rename News _ _ _ _ => N9)
    k_dflt (first
      | ((with_reducible show wpAny _ _ (exec (.If (.Compare (.Name (Str.ofString "l") _) _ _ _) _ _ _) _) _ _ _); refine cutF "s" F9 N9 ?_ ?_)
      | ((with_reducible show wpAny _ _ (exec (.If (.Compare (.Name (Str.ofString "r") _) _ _ _) _ _ _) _) _ _ _); refine cutF "h" F9 N9 ?_ ?_))
    rotate_left
    clear F9 N9
    intro v9 u9 h9 tk9 F9 N9
    rotate_left
  refine wpAny_call ?_
  k_dflt (first
  | (refine' enterD ?k1 ?k6 ?k7 ?k8 ?k9 ?kB ?_ ?c2 ?c3 ?c4 ?c5
     (case k1 => assumption)
     (case k6 => k_is)
     (case k7 => k_is)
     (case k8 => omega)
     (case k9 => first | exact BindsTo.of_eq rfl | exact kp_binds (Rdy.K (by assumption)) (fun _ => rfl))
     (case kB => exact locs rfl)
     (case c2 => exact rfl)
     (case c3 => exact rfl)
     (case c4 => exact rfl)
     (case c5 => decide)
     intro _ _ _ _ _ _
     (try dsimp only))
  | (refine' enterC ?k1 ?k6 ?k7 ?k8 ?k9 ?kB ?kD ?_ ?c2 ?c3 ?c4
     (case k1 => assumption)
     (case k6 => k_is)
     (case k7 => k_is)
     (case k8 => omega)
     (case k9 => first | exact BindsTo.of_eq rfl | exact kp_binds (Rdy.K (by assumption)) (fun _ => rfl))
     (case kB => exact rfl)
     (case kD => decide +kernel)
     (case c2 => exact rfl)
     (case c3 => exact rfl)
     (case c4 => exact rfl)
     intro _ _ _ _ Nq Yq _ _ _
     k_cells Yq
     (try simp only [List.cons_append, List.nil_append] at Nq)
     (try dsimp only)))
  k_steps
  all_goals first
  | exact PostF.intro (by assumption) (by assumption)
  | exact retEnd (s := s) ret (by assumption) (by assumption) (fun _ h => h) ⟨_, _, _, _, rfl, rfl⟩

theorem told_ctr {l : Addr} {a sp h : Int} {ta tb th : Tok} (W : Rdy w mean mg mb (ar dp un gd outer) base outer s.heap) (hd' : dp + 20 < recursionLimit)
   (hl : s.heap.IsList l [.int a ta, .int sp tb, .int h th].toArray) (ha : 0 ≤ a ∧ a ≤ 4) (hs : 0 ≤ sp ∧ sp ≤ 4) (hh : 0 ≤ h ∧ h < max 1 (6 * sp))
   (ret : Ret s Q (fun tl r => ∃ D x y ta tb, r = .ref D ∧ tl = [(D, listOf #[.float x ta, .float y tb] 0)] ∧ x = fl16 (2 * a + sp).toNat ∧ y = fl8 (a + sp).toNat)) :
   wpAny (model prog w) (ar dp un gd outer) (call (.ref 163) [.ref l]) Q E s := by
  have hh24 : 0 ≤ h ∧ h < 24 := by omega
  k_with_none
  w_top off
  k_with "CompSrc" => (k_dflt (refine LCg.CompSrc.range (n := 3) (by rfl) (by k_asm) (by k_asm) (by assumption) (by first | decide | rfl) (by first | rfl | decide) (by first | size_fits | exact Nat.le_of_ble_eq_true rfl) ?_; intro g'))
  k_with "call ref" => (k_dflt (refine' part_ctr (Rdy.into (by assumption) (by assumption) (by assumption) (by assumption) rfl rfl) (by first | omega | (dsimp only [Around.deeper]; omega)) (Kp.list (Fr.keep (by assumption)) hl) ha hs hh24 (by decide) (ret0Of (by assumption) (by assumption) ?_)); intro r' h' tk' F' N' O'; obtain ⟨tp', hp'⟩ := O'; subst hp'; (try k_sweep))
  k_with "call ref" => (k_dflt (refine' hls_ctr (Rdy.into (by assumption) (by assumption) (by assumption) (by assumption) rfl rfl) (by first | omega | (dsimp only [Around.deeper]; omega)) (partB8 ha hs) (partB8 ha hs) (partB8 ha hs) (retOf (by assumption) (by assumption) ?_)); intro r' h' tk' tl' F' N' d' O'; obtain ⟨D', x', l', ta', u', e1', e2', e3'⟩ := O'; subst e1'; subst e2'; simp only [List.cons_append, List.nil_append] at N'; clear d'; (try k_sweep))
  k_with "call ref" => (k_dflt (refine' hsv_ctr (Rdy.into (by assumption) (by assumption) (by assumption) (by assumption) rfl rfl) (by first | omega | (dsimp only [Around.deeper]; omega)) (partB8 ha hs) (partB8 ha hs) (partB8 ha hs) (retOf (by assumption) (by assumption) ?_)); intro r' h' tk' tl' F' N' d' O'; obtain ⟨D', x', u', ta', e1', e2'⟩ := O'; subst e1'; subst e2'; simp only [List.cons_append, List.nil_append] at N'; clear d'; (try k_sweep))
  k_with "binaryOp Div int int" => (k_dflt (refine' divI8 (partB ha hs) ?_))
  refine wpAny_call ?_
  k_dflt (first
  | (refine' enterD ?k1 ?k6 ?k7 ?k8 ?k9 ?kB ?_ ?c2 ?c3 ?c4 ?c5
     (case k1 => assumption)
     (case k6 => k_is)
     (case k7 => k_is)
     (case k8 => omega)
     (case k9 => first | exact BindsTo.of_eq rfl | exact kp_binds (Rdy.K (by assumption)) (fun _ => rfl))
     (case kB => exact locs rfl)
     (case c2 => exact rfl)
     (case c3 => exact rfl)
     (case c4 => exact rfl)
     (case c5 => decide)
     intro _ _ _ _ _ _
     (try dsimp only))
  | (refine' enterC ?k1 ?k6 ?k7 ?k8 ?k9 ?kB ?kD ?_ ?c2 ?c3 ?c4
     (case k1 => assumption)
     (case k6 => k_is)
     (case k7 => k_is)
     (case k8 => omega)
     (case k9 => first | exact BindsTo.of_eq rfl | exact kp_binds (Rdy.K (by assumption)) (fun _ => rfl))
     (case kB => exact rfl)
     (case kD => decide +kernel)
     (case c2 => exact rfl)
     (case c3 => exact rfl)
     (case c4 => exact rfl)
     intro _ _ _ _ Nq Yq _ _ _
     k_cells Yq
     (try simp only [List.cons_append, List.nil_append] at Nq)
     (try dsimp only)))
  k_steps
  rename_i Fz Nz lz
  have q1 := e3'.trans (congrArg fl16 (toldL ha.1 hs hh (by decide) (by decide) (by decide)))
  have q2 := congrArg fl8 (toldV' (a := a) (c0 := 0 + ((0 : Nat) : Int)) (c1 := 0 + ((0 + 1 : Nat) : Int)) (c2 := 0 + ((0 + 1 + 1 : Nat) : Int)) hs hh (by decide) (by decide) (by decide))
  refine retEnd (s := s) (tl := [_]) ret Fz Nz (fun p hp => List.mem_cons.mpr (.inl (List.mem_singleton.mp hp))) ?_
  exact ⟨_, _, _, _, _, rfl, rfl, q1, q2⟩

theorem text_ctr {l : Addr} {p q a sp : Int} {tp tq t1 t2 : Tok} (W : Rdy w mean mg mb (ar dp un gd outer) base outer s.heap) (hd' : dp + 10 < recursionLimit)
   (hl : s.heap.IsList l [.int p tp, .int q tq].toArray) (hp : 0 ≤ p ∧ p ≤ 2) (hq : 0 ≤ q ∧ q ≤ 2) (ha : 0 ≤ a ∧ a ≤ 4) (hs : 0 ≤ sp ∧ sp ≤ 4)
   (ret : Ret0 s Q (fun r => ∃ t, r = .str (leadStr p q a sp) t)) :
   wpAny (model prog w) (ar dp un gd outer) (call (.ref 168) [.ref l, .float (fl16 (2 * a + sp).toNat) t1, .float (fl8 (a + sp).toNat) t2]) Q E s := by
  k_with_none
  w_top off
  k_with "CompSrc" =>
    k_dflt (refine LCg.CompSrc.base (by rfl) (by k_asm) (by k_asm) hl (by decide) ?_; intro g')
  k_with "call builtin:str.join cons nil" =>
    rename_i Fz Nz oz
    k_dflt (refine SC.join (l := [(bl p, _), (bl q, _)]) (newsL Nz (.head _)) rfl (bl_ok hp hq) ?_)
    intro t9 k9
  k_with "call type:int" =>
    k_dflt (first | refine intF rfl (tx1_ok ha hs) ?_ | refine intF rfl (tx2_ok ha hs) ?_)
  have hst := st_ok hp hq ha hs
  k_with "binaryOp Add str str" =>
    k_dflt (first
      | refine add_str (fun t9 k9 => ?_) (catFit hst.1 rfl)
      | refine add_str (fun t9 k9 => ?_) (catFit hst.2.1 rfl)
      | refine add_str (fun t9 k9 => ?_) (catFit hst.2.2.1 rfl))
  refine wpAny_call ?_
  k_dflt (first
  | (refine' enterD ?k1 ?k6 ?k7 ?k8 ?k9 ?kB ?_ ?c2 ?c3 ?c4 ?c5
     (case k1 => assumption)
     (case k6 => k_is)
     (case k7 => k_is)
     (case k8 => omega)
     (case k9 => first | exact BindsTo.of_eq rfl | exact kp_binds (Rdy.K (by assumption)) (fun _ => rfl))
     (case kB => exact locs rfl)
     (case c2 => exact rfl)
     (case c3 => exact rfl)
     (case c4 => exact rfl)
     (case c5 => decide)
     intro _ _ _ _ _ _
     (try dsimp only))
  | (refine' enterC ?k1 ?k6 ?k7 ?k8 ?k9 ?kB ?kD ?_ ?c2 ?c3 ?c4
     (case k1 => assumption)
     (case k6 => k_is)
     (case k7 => k_is)
     (case k8 => omega)
     (case k9 => first | exact BindsTo.of_eq rfl | exact kp_binds (Rdy.K (by assumption)) (fun _ => rfl))
     (case kB => exact rfl)
     (case kD => decide +kernel)
     (case c2 => exact rfl)
     (case c3 => exact rfl)
     (case c4 => exact rfl)
     intro _ _ _ _ Nq Yq _ _ _
     k_cells Yq
     (try simp only [List.cons_append, List.nil_append] at Nq)
     (try dsimp only)))
  k_steps
  exact ret0End (s := s) ret (by assumption) ⟨_, rfl⟩

theorem draws_ctr {l : Addr} {vs : List Value} {ns : List Int} (W : Rdy w mean mg mb (ar dp un gd outer) base outer s.heap) (hd' : dp + 10 < recursionLimit)
   (hl : s.heap.IsList l vs.toArray) (hi : IntsAre vs ns) (hlen : ns.length ≤ 63)
   (ret : Ret s Q (fun tl r => ∃ D us n k, r = .ref D ∧ tl = [(D, listOf us.toArray n)] ∧ IntsAre us k ∧ k.length = 7)) :
   wpAny (model prog w) (ar dp un gd outer) (call (.ref 144) [.ref l]) Q E s := by
  k_with_none
  w_top off
  k_with "pyIter ref" => 
    k_dflt (refine' loopR (σ := List Value × Nat) (n := (if (ns.length : Int) < 63 then (ns.length : Int) else 63).toNat) (fun c => [(_, listOf c.1.toArray c.2)]) (fun _ => []) ["i"] (fun _ c => ∃ k, IntsAre c.1 k ∧ k.length = 7) (_, _) rfl (by assumption) (rngSmall (by omega) (by split <;> omega)) (by rw [rngSize, Int.sub_zero]) (by assumption) (by assumption) (fun _ hp => nomatch hp) ?hj ?turn ?done)
    case hj => exact ⟨[7, 115, 82, 266, 7, 520, 188], .cons _ _ (.cons _ _ (.cons _ _ (.cons _ _ (.cons _ _ (.cons _ _ (.cons _ _ .nil)))))), rfl⟩
    case' turn =>
      rintro ⟨us, n⟩ i u I h tk o t hi9 ⟨k, hk1, hk2⟩ hI9 F9 N9
      dsimp only at hk1 hk2 hI9 N9
      have hus : us.length = 7 := hk1.length.trans hk2
    case' done =>
      rintro ⟨us, n⟩ u h tk ⟨k, hk1, hk2⟩ F9 N9
      dsimp only at hk1 hk2 N9
  k_with "setItem ref int int" => 
    k_dflt (refine' setK (by assumption) (by assumption) (fm7 _).1 (by have := fm7 (0 + (i : Int)); rw [hus]; exact this.2) (by rw [hus]; decide) (Upd.tail (hI9 _ (.head _)).symm (Upd.head (List.forall_mem_nil _))) ?_)
    intro h' F' N'
    (try k_sweep)
  refine wpAny_call ?_
  k_dflt (first
  | (refine' enterD ?k1 ?k6 ?k7 ?k8 ?k9 ?kB ?_ ?c2 ?c3 ?c4 ?c5
     (case k1 => assumption)
     (case k6 => k_is)
     (case k7 => k_is)
     (case k8 => omega)
     (case k9 => first | exact BindsTo.of_eq rfl | exact kp_binds (Rdy.K (by assumption)) (fun _ => rfl))
     (case kB => exact locs rfl)
     (case c2 => exact rfl)
     (case c3 => exact rfl)
     (case c4 => exact rfl)
     (case c5 => decide)
     intro _ _ _ _ _ _
     (try dsimp only))
  | (refine' enterC ?k1 ?k6 ?k7 ?k8 ?k9 ?kB ?kD ?_ ?c2 ?c3 ?c4
     (case k1 => assumption)
     (case k6 => k_is)
     (case k7 => k_is)
     (case k8 => omega)
     (case k9 => first | exact BindsTo.of_eq rfl | exact kp_binds (Rdy.K (by assumption)) (fun _ => rfl))
     (case kB => exact rfl)
     (case kD => decide +kernel)
     (case c2 => exact rfl)
     (case c3 => exact rfl)
     (case c4 => exact rfl)
     intro _ _ _ _ Nq Yq _ _ _
     k_cells Yq
     (try simp only [List.cons_append, List.nil_append] at Nq)
     (try dsimp only)))
  k_steps
  · dsimp only
    exact retEnd (s := s) ret (by assumption) (by assumption) (fun p hp => hp) ⟨_, _, _, _, rfl, rfl, hk1, hk2⟩
  · exact TP.next (_, _) F' N' (fun p hp => hp) (List.forall_mem_cons.mpr ⟨hI9 (_, listOf us.toArray n) (.head _), List.forall_mem_nil _⟩) (List.forall_mem_nil _) (fun z h1 h2 h3 => kOff h1 h2 h3) ⟨_, intsSet _ _ _ hk1, by rw [List.length_set]; exact hk2⟩

theorem colour_ctr {d : Int} {t : Tok} (W : Rdy w mean mg mb (ar dp un gd outer) base outer s.heap) (hd' : dp + 10 < recursionLimit)
   (ret : Ret s Q (fun tl r => ∃ D a sp h ta tb th, r = .ref D ∧ tl = [(D, listOf #[.int a ta, .int sp tb, .int h th] 0)] ∧ (0 ≤ a ∧ a ≤ 4) ∧ (0 ≤ sp ∧ sp ≤ 4) ∧ 0 ≤ h ∧ h < max 1 (6 * sp))) :
   wpAny (model prog w) (ar dp un gd outer) (call (.ref 151) [.int d t]) Q E s := by
  k_with_none
  w_top off
  refine wpAny_call ?_
  k_dflt (first
  | (refine' enterD ?k1 ?k6 ?k7 ?k8 ?k9 ?kB ?_ ?c2 ?c3 ?c4 ?c5
     (case k1 => assumption)
     (case k6 => k_is)
     (case k7 => k_is)
     (case k8 => omega)
     (case k9 => first | exact BindsTo.of_eq rfl | exact kp_binds (Rdy.K (by assumption)) (fun _ => rfl))
     (case kB => exact locs rfl)
     (case c2 => exact rfl)
     (case c3 => exact rfl)
     (case c4 => exact rfl)
     (case c5 => decide)
     intro _ _ _ _ _ _
     (try dsimp only))
  | (refine' enterC ?k1 ?k6 ?k7 ?k8 ?k9 ?kB ?kD ?_ ?c2 ?c3 ?c4
     (case k1 => assumption)
     (case k6 => k_is)
     (case k7 => k_is)
     (case k8 => omega)
     (case k9 => first | exact BindsTo.of_eq rfl | exact kp_binds (Rdy.K (by assumption)) (fun _ => rfl))
     (case kB => exact rfl)
     (case kD => decide +kernel)
     (case c2 => exact rfl)
     (case c3 => exact rfl)
     (case c4 => exact rfl)
     intro _ _ _ _ Nq Yq _ _ _
     k_cells Yq
     (try simp only [List.cons_append, List.nil_append] at Nq)
     (try dsimp only)))
  k_steps
  exact retEnd (s := s) ret (by assumption) (by assumption) (fun p hp => hp) ⟨_, _, _, _, _, _, _, rfl, rfl, colourB1 d, colourB1 _, colourB2 _ _⟩

theorem lrs_ctr {x : Addr} {raw : Value} {n nt b : Int} {cs : List Int} (W : Rdy w mean mg mb (ar dp un gd outer) base outer s.heap) (hd' : dp + 10 < recursionLimit)
   (hx : LeadAt s.heap x raw n nt cs b) (hlen : cs.length ≤ 3)
   (ret : Ret0 s Q (fun r => ∃ t, r = .int (lrsF cs b) t)) :
   wpAny (model prog w) (ar dp un gd outer) (call (.ref 95) [.ref x]) Q E s := by
  obtain ⟨dx, tn, tc, vs, t1, t2, t3, hr, hn, hnt, hno, hsi, k1, k2, k3, k4, k5, hx1, hx2, hx3, hx4, hx5⟩ := hx
  have hI : InstAt s.heap x (instObj 133 dx) 133 (some _) := ⟨hx1, rfl, rfl, hx2⟩
  k_with_none
  w_top off
  k_with "call builtin:len cons nil" => k_dflt (refine lenT (Kp.tup (Fr.keep (by assumption)) hx4) hx5 (by omega) ?_)
  refine wpAny_call ?_
  k_dflt (first
  | (refine' enterD ?k1 ?k6 ?k7 ?k8 ?k9 ?kB ?_ ?c2 ?c3 ?c4 ?c5
     (case k1 => assumption)
     (case k6 => k_is)
     (case k7 => k_is)
     (case k8 => omega)
     (case k9 => first | exact BindsTo.of_eq rfl | exact kp_binds (Rdy.K (by assumption)) (fun _ => rfl))
     (case kB => exact locs rfl)
     (case c2 => exact rfl)
     (case c3 => exact rfl)
     (case c4 => exact rfl)
     (case c5 => decide)
     intro _ _ _ _ _ _
     (try dsimp only))
  | (refine' enterC ?k1 ?k6 ?k7 ?k8 ?k9 ?kB ?kD ?_ ?c2 ?c3 ?c4
     (case k1 => assumption)
     (case k6 => k_is)
     (case k7 => k_is)
     (case k8 => omega)
     (case k9 => first | exact BindsTo.of_eq rfl | exact kp_binds (Rdy.K (by assumption)) (fun _ => rfl))
     (case kB => exact rfl)
     (case kD => decide +kernel)
     (case c2 => exact rfl)
     (case c3 => exact rfl)
     (case c4 => exact rfl)
     intro _ _ _ _ Nq Yq _ _ _
     k_cells Yq
     (try simp only [List.cons_append, List.nil_append] at Nq)
     (try dsimp only)))
  k_steps
  exact ret0End (s := s) ret (by assumption) ⟨_, rfl⟩

theorem ind_ctr {x : Addr} {raw : Value} {n nt b ts : Int} {cs : List Int} {tt : Tok} (W : Rdy w mean mg mb (ar dp un gd outer) base outer s.heap) (hd' : dp + 10 < recursionLimit)
   (hx : LeadAt s.heap x raw n nt cs b) (hlen : cs.length ≤ 3) (hts : 1 ≤ ts ∧ ts ≤ 32) (hcb : ∀ y ∈ cs, 0 ≤ y ∧ y ≤ 20) (hnt : 0 ≤ nt ∧ nt ≤ 20)
   (ret : Ret0 s Q (fun r => ∃ t, r = .int (indF ts nt b cs) t)) :
   wpAny (model prog w) (ar dp un gd outer) (call (.ref 102) [.ref x, .int ts tt]) Q E s := by
  obtain ⟨dx, tn, tc, vs, t1, t2, t3, hr, hn, hnt', hno, hsi, k1, k2, k3, k4, k5, hx1, hx2, hx3, hx4, hx5⟩ := hx
  have hI : InstAt s.heap x (instObj 133 dx) 133 (some _) := ⟨hx1, rfl, rfl, hx2⟩
  k_with_none
  w_top off
  k_with "call builtin:len cons nil" => k_dflt (refine lenT (Kp.tup (Fr.keep (by assumption)) hx4) hx5 (by omega) ?_)
  k_with "pyIter ref" =>
    k_dflt (refine' loopR (σ := Int × Tok) (n := ((cs.length : Int) - ts).toNat) (fun _ => []) (fun c => [(Str.ofString "il", .int c.1 c.2)]) [] (fun i c => c.1 = ilF ts cs i ∧ 0 ≤ c.1 ∧ c.1 ≤ 60 * i) (0, _) rfl (by assumption) (rngSmall (by omega) (by omega)) (by rw [rngSize]) (by assumption) (by assumption) (List.forall_mem_cons.mpr ⟨rfl, List.forall_mem_nil _⟩) ⟨rfl, Int.le_refl 0, Int.le_refl 0⟩ ?_ ?_)
    rintro ⟨il, til⟩ i u I h tk o t hi9 ⟨hil, hil0, hil1⟩ hI9 F9 N9
    dsimp only at hil hil0 hil1 F9
    have hk9 : 0 ≤ ts + (i : Int) ∧ ts + (i : Int) < cs.length := by omega
    have hm9 := hcb _ (getDm (ns := cs) (j := (ts + (i : Int)).toNat) (by omega))
    rotate_left
    rintro ⟨il, til⟩ u h tk ⟨hil, hil0, hil1⟩ F9 N9
    dsimp only at hil hil0 hil1 F9
    rotate_left
  refine wpAny_call ?_
  k_dflt (first
  | (refine' enterD ?k1 ?k6 ?k7 ?k8 ?k9 ?kB ?_ ?c2 ?c3 ?c4 ?c5
     (case k1 => assumption)
     (case k6 => k_is)
     (case k7 => k_is)
     (case k8 => omega)
     (case k9 => first | exact BindsTo.of_eq rfl | exact kp_binds (Rdy.K (by assumption)) (fun _ => rfl))
     (case kB => exact locs rfl)
     (case c2 => exact rfl)
     (case c3 => exact rfl)
     (case c4 => exact rfl)
     (case c5 => decide)
     intro _ _ _ _ _ _
     (try dsimp only))
  | (refine' enterC ?k1 ?k6 ?k7 ?k8 ?k9 ?kB ?kD ?_ ?c2 ?c3 ?c4
     (case k1 => assumption)
     (case k6 => k_is)
     (case k7 => k_is)
     (case k8 => omega)
     (case k9 => first | exact BindsTo.of_eq rfl | exact kp_binds (Rdy.K (by assumption)) (fun _ => rfl))
     (case kB => exact rfl)
     (case kD => decide +kernel)
     (case c2 => exact rfl)
     (case c3 => exact rfl)
     (case c4 => exact rfl)
     intro _ _ _ _ Nq Yq _ _ _
     k_cells Yq
     (try simp only [List.cons_append, List.nil_append] at Nq)
     (try dsimp only)))
  k_steps
  · have hst := ilStep (ts := ts) (i := i) hts.1 (by omega) hm9
    refine TP.next (σ := Int × Tok) (Led := fun _ => []) (ps := fun c => [(Str.ofString "il", .int c.1 c.2)]) (P := fun c => c.1 = ilF ts cs (i + 1) ∧ 0 ≤ c.1 ∧ c.1 ≤ 60 * ((i + 1 : Nat) : Int)) (il + (ts + (i : Int)).fdiv ts * cs.getD (ts + (i : Int)).toNat 0, _) (by assumption) (by assumption) (fun p hp => hp) (List.forall_mem_nil _) (List.forall_mem_cons.mpr ⟨rfl, List.forall_mem_nil _⟩) ?_ ⟨by rw [hil]; rfl, by dsimp only; omega, by dsimp only; omega⟩
    intro z h1 h2 h3
    have e1 : z ≠ Str.ofString "il" := h2 (Str.ofString "il", _) (.head _)
    exact ifN e1 (ifN h1 (kOffB (List.forall_mem_cons.mpr ⟨e1, List.forall_mem_nil _⟩) h3))
  · dsimp only
    exact ret0End (s := s) ret (by assumption) ⟨_, by rw [hil]; rfl⟩

theorem less_ctr {x1 x2 : Addr} {r1 r2 : Value} {n1 nt1 b1 n2 nt2 b2 : Int} {cs1 cs2 : List Int} (W : Rdy w mean mg mb (ar dp un gd outer) base outer s.heap) (hd' : dp + 20 < recursionLimit)
   (hx1 : LeadAt s.heap x1 r1 n1 nt1 cs1 b1) (hx2 : LeadAt s.heap x2 r2 n2 nt2 cs2 b2) (hlen1 : cs1.length ≤ 3) (hlen2 : cs2.length ≤ 3) (hcb1 : ∀ y ∈ cs1, 0 ≤ y ∧ y ≤ 20) (hcb2 : ∀ y ∈ cs2, 0 ≤ y ∧ y ≤ 20)
   (hnt1 : 0 ≤ nt1 ∧ nt1 ≤ 20) (hnt2 : 0 ≤ nt2 ∧ nt2 ≤ 20) (hb1 : 0 ≤ b1 ∧ b1 ≤ 4) (hb2 : 0 ≤ b2 ∧ b2 ≤ 4)
   (ret : Ret0 s Q (LessOut (LessP n1 nt1 b1 cs1 n2 nt2 b2 cs2))) :
   wpAny (model prog w) (ar dp un gd outer) (call (.ref 123) [.ref x1, .ref x2]) Q E s := by
  have hL1 := hx1
  have hL2 := hx2
  obtain ⟨dx, tn, tc, vs, t1, t2, t3, hr, hn, hnt, hno, hsi, k1, k2, k3, k4, k5, ha1, ha2, ha3, ha4, ha5⟩ := hx1
  obtain ⟨dx', tn', tc', vs', t1', t2', t3', hr', hn', hnt', hno', hsi', k1', k2', k3', k4', k5', ha1', ha2', ha3', ha4', ha5'⟩ := hx2
  have hI : InstAt s.heap x1 (instObj 133 dx) 133 (some _) := ⟨ha1, rfl, rfl, ha2⟩
  have hI' : InstAt s.heap x2 (instObj 133 dx') 133 (some _) := ⟨ha1', rfl, rfl, ha2'⟩
  clear ha1 ha2 ha3 ha4 ha5 ha1' ha2' ha3' ha4' ha5'
  have hl1 := lrsB hlen1 hb1
  have hl2 := lrsB hlen2 hb2
  k_with_none
  w_top off
  k_with "call ref" =>
    k_dflt (first
      | refine lrs_ctr (x := x1) (Rdy.into (by assumption) (by assumption) (by assumption) (by assumption) rfl rfl) (by first | omega | (dsimp only [Around.deeper]; omega)) (hL1.keeps (Fr.keep (by assumption))) hlen1 (ret0Of (by assumption) (by assumption) ?_)
      | refine lrs_ctr (x := x2) (Rdy.into (by assumption) (by assumption) (by assumption) (by assumption) rfl rfl) (by first | omega | (dsimp only [Around.deeper]; omega)) (hL2.keeps (Fr.keep (by assumption))) hlen2 (ret0Of (by assumption) (by assumption) ?_)
      | refine ind_ctr (x := x1) (Rdy.into (by assumption) (by assumption) (by assumption) (by assumption) rfl rfl) (by first | omega | (dsimp only [Around.deeper]; omega)) (hL1.keeps (Fr.keep (by assumption))) hlen1 hts9 hcb1 hnt1 (ret0Of (by assumption) (by assumption) ?_)
      | refine ind_ctr (x := x2) (Rdy.into (by assumption) (by assumption) (by assumption) (by assumption) rfl rfl) (by first | omega | (dsimp only [Around.deeper]; omega)) (hL2.keeps (Fr.keep (by assumption))) hlen2 hts9 hcb2 hnt2 (ret0Of (by assumption) (by assumption) ?_))
    intro r99 h99 tk99 F9 N9 O9
    obtain ⟨u99, e9⟩ := O9
    subst e9
    try k_sweep
  k_with "call type:range" =>
    k_dflt (refine range2_rows (by assumption) (by assumption) ?_)
    intro hR tR t1R u1R v1R iR FR NR kR
    try k_sweep
  k_with "pyIter ref" =>
    have hN9 : 0 ≤ (if lrsF cs2 b2 > lrsF cs1 b1 then lrsF cs2 b2 else lrsF cs1 b1) ∧ (if lrsF cs2 b2 > lrsF cs1 b1 then lrsF cs2 b2 else lrsF cs1 b1) ≤ 4 := by split <;> omega
    k_dflt (refine' loopR (σ := Unit) (n := ((if lrsF cs2 b2 > lrsF cs1 b1 then lrsF cs2 b2 else lrsF cs1 b1) + 1 + 1 - 2).toNat) (fun _ => []) (fun _ => []) [] (fun i _ => ∀ j : Nat, j < i → indF (2 + (j : Int)) nt1 b1 cs1 < indF (2 + (j : Int)) nt2 b2 cs2) () rfl (by assumption) (rngSmall (by decide) (by omega)) (by rw [rngSize]) (by assumption) (by assumption) (List.forall_mem_nil _) (fun j hj => absurd hj (Nat.not_lt_zero _)) ?_ ?_)
    intro c9 i u I h tk o t hi9 hP9 hI9 F9 N9
    have hts9 : 1 ≤ 2 + (i : Int) ∧ 2 + (i : Int) ≤ 32 := by omega
    rotate_left
    intro c9 u h tk hP9 F9 N9
    rotate_left
  refine wpAny_call ?_
  k_dflt (first
  | (refine' enterD ?k1 ?k6 ?k7 ?k8 ?k9 ?kB ?_ ?c2 ?c3 ?c4 ?c5
     (case k1 => assumption)
     (case k6 => k_is)
     (case k7 => k_is)
     (case k8 => omega)
     (case k9 => first | exact BindsTo.of_eq rfl | exact kp_binds (Rdy.K (by assumption)) (fun _ => rfl))
     (case kB => exact locs rfl)
     (case c2 => exact rfl)
     (case c3 => exact rfl)
     (case c4 => exact rfl)
     (case c5 => decide)
     intro _ _ _ _ _ _
     (try dsimp only))
  | (refine' enterC ?k1 ?k6 ?k7 ?k8 ?k9 ?kB ?kD ?_ ?c2 ?c3 ?c4
     (case k1 => assumption)
     (case k6 => k_is)
     (case k7 => k_is)
     (case k8 => omega)
     (case k9 => first | exact BindsTo.of_eq rfl | exact kp_binds (Rdy.K (by assumption)) (fun _ => rfl))
     (case kB => exact rfl)
     (case kD => decide +kernel)
     (case c2 => exact rfl)
     (case c3 => exact rfl)
     (case c4 => exact rfl)
     intro _ _ _ _ Nq Yq _ _ _
     k_cells Yq
     (try simp only [List.cons_append, List.nil_append] at Nq)
     (try dsimp only)))
  k_steps
  · try dsimp only [TP]
    exact ret0End (s := s) ret (by assumption) (less_no1 (by assumption))
  · try dsimp only [TP]
    exact ret0End (s := s) ret (by assumption) (less_simple (by assumption) (by assumption) (by assumption))
  · try dsimp only [TP]
    exact ret0End (s := s) ret (by assumption) (less_no2 (fun h => absurd h.2 (by assumption)) hi9 (by assumption))
  · refine TP.next (σ := Unit) (Led := fun _ => []) (ps := fun _ => []) (P := fun _ => ∀ j : Nat, j < i + 1 → indF (2 + (j : Int)) nt1 b1 cs1 < indF (2 + (j : Int)) nt2 b2 cs2) () (by assumption) (by assumption) (fun p hp => hp) (List.forall_mem_nil _) (List.forall_mem_nil _) (fun z h1 h2 h3 => kOff h1 h2 h3) (fun j hj => ?_)
    rcases Nat.lt_succ_iff_lt_or_eq.mp hj with h | h
    · exact hP9 j h
    · subst h; exact Int.not_le.mp (by assumption)
  · try dsimp only [TP]
    exact ret0End (s := s) ret (by assumption) (less_yes (by assumption) (fun h => absurd h.2 (by assumption)) hP9)
  · try dsimp only [TP]
    exact ret0End (s := s) ret (by assumption) (less_no2 (fun h => absurd h.1 (by assumption)) hi9 (by assumption))
  · refine TP.next (σ := Unit) (Led := fun _ => []) (ps := fun _ => []) (P := fun _ => ∀ j : Nat, j < i + 1 → indF (2 + (j : Int)) nt1 b1 cs1 < indF (2 + (j : Int)) nt2 b2 cs2) () (by assumption) (by assumption) (fun p hp => hp) (List.forall_mem_nil _) (List.forall_mem_nil _) (fun z h1 h2 h3 => kOff h1 h2 h3) (fun j hj => ?_)
    rcases Nat.lt_succ_iff_lt_or_eq.mp hj with h | h
    · exact hP9 j h
    · subst h; exact Int.not_le.mp (by assumption)
  · try dsimp only [TP]
    exact ret0End (s := s) ret (by assumption) (less_yes (by assumption) (fun h => absurd h.1 (by assumption)) hP9)

theorem bisl_ctr {l : Addr} {vs : List Value} {ns : List Int} {x : Int} {t : Tok} {q : Nat → Bool} (W : Rdy w mean mg mb (ar dp un gd outer) base outer s.heap) (hd' : dp + 10 < recursionLimit)
   (hl : s.heap.IsList l vs.toArray) (hi : IntsAre vs ns) (hlen : ns.length ≤ 6)
   (mono : QMono q ns.length) (hq : ∀ i, q i = decide (ns.getD i 0 < x))
   (ret : Ret0 s Q (BOut q ns.length)) :
   wpAny (model prog w) (ar dp un gd outer) (call (.ref 57) [.ref l, .int x t]) Q E s := by
  k_with_none
  w_top off
  k_with "exec While Compare cons nil" =>
    k_dflt (refine' ksw_while (σ := (Int × Tok) × (Int × Tok)) (fun _ => []) (fun c => [(Str.ofString "lo", .int c.1.1 c.1.2), (Str.ofString "hi", .int c.2.1 c.2.2)]) (fun _ => True) ["mid"] (fun c => BInv q ns.length c.1.1 c.2.1) (fun c => (c.2.1 - c.1.1).toNat)
                    ((_, _), (_, _)) (by assumption) (by assumption) trivial (List.forall_mem_cons.mpr ⟨rfl, List.forall_mem_cons.mpr ⟨rfl, List.forall_mem_nil _⟩⟩) (BInv.start _ _) ?_)
    rintro ⟨⟨lo, tl⟩, hi9, th⟩ u h9 tk9 _ I9 F9 N9
    dsimp only at I9 F9
    have p1 := I9.a
    have p2 := I9.b
    have p3 := I9.c
  refine wpAny_call ?_
  k_dflt (first
  | (refine' enterD ?k1 ?k6 ?k7 ?k8 ?k9 ?kB ?_ ?c2 ?c3 ?c4 ?c5
     (case k1 => assumption)
     (case k6 => k_is)
     (case k7 => k_is)
     (case k8 => omega)
     (case k9 => first | exact BindsTo.of_eq rfl | exact kp_binds (Rdy.K (by assumption)) (fun _ => rfl))
     (case kB => exact locs rfl)
     (case c2 => exact rfl)
     (case c3 => exact rfl)
     (case c4 => exact rfl)
     (case c5 => decide)
     intro _ _ _ _ _ _
     (try dsimp only))
  | (refine' enterC ?k1 ?k6 ?k7 ?k8 ?k9 ?kB ?kD ?_ ?c2 ?c3 ?c4
     (case k1 => assumption)
     (case k6 => k_is)
     (case k7 => k_is)
     (case k8 => omega)
     (case k9 => first | exact BindsTo.of_eq rfl | exact kp_binds (Rdy.K (by assumption)) (fun _ => rfl))
     (case kB => exact rfl)
     (case kD => decide +kernel)
     (case c2 => exact rfl)
     (case c3 => exact rfl)
     (case c4 => exact rfl)
     intro _ _ _ _ Nq Yq _ _ _
     k_cells Yq
     (try simp only [List.cons_append, List.nil_append] at Nq)
     (try dsimp only)))
  k_steps
  · have G := I9.goL mono (by assumption) (by rw [hq]; exact decide_eq_true (by assumption))
    refine ksw_end (((lo + hi9).fdiv 2 + 1, _), (hi9, th)) (by assumption) (by assumption) (List.forall_mem_nil _) trivial (List.forall_mem_cons.mpr ⟨rfl, List.forall_mem_cons.mpr ⟨rfl, List.forall_mem_nil _⟩⟩) ?_ G.1 G.2
    intro z h2 h3
    have e1 : z ≠ Str.ofString "lo" := h2 (Str.ofString "lo", _) (.head _)
    have e2 : z ≠ Str.ofString "hi" := h2 (Str.ofString "hi", _) (.tail _ (.head _))
    exact ifN e1 (ifN (nIn h3 (.head _)) (kOffB (List.forall_mem_cons.mpr ⟨e1, List.forall_mem_cons.mpr ⟨e2, List.forall_mem_nil _⟩⟩) h3))
  · have G := I9.goR mono (by assumption) (by rw [hq]; exact decide_eq_false (by assumption))
    refine ksw_end ((lo, tl), ((lo + hi9).fdiv 2, _)) (by assumption) (by assumption) (List.forall_mem_nil _) trivial (List.forall_mem_cons.mpr ⟨rfl, List.forall_mem_cons.mpr ⟨rfl, List.forall_mem_nil _⟩⟩) ?_ G.1 G.2
    intro z h2 h3
    have e1 : z ≠ Str.ofString "lo" := h2 (Str.ofString "lo", _) (.head _)
    have e2 : z ≠ Str.ofString "hi" := h2 (Str.ofString "hi", _) (.tail _ (.head _))
    exact ifN e2 (ifN (nIn h3 (.head _)) (kOffB (List.forall_mem_cons.mpr ⟨e1, List.forall_mem_cons.mpr ⟨e2, List.forall_mem_nil _⟩⟩) h3))
  · dsimp only
    exact ret0End (s := s) ret F9 (I9.out (by assumption))

theorem bisr_ctr {l : Addr} {vs : List Value} {ns : List Int} {x : Int} {t : Tok} {q : Nat → Bool} (W : Rdy w mean mg mb (ar dp un gd outer) base outer s.heap) (hd' : dp + 10 < recursionLimit)
   (hl : s.heap.IsList l vs.toArray) (hi : IntsAre vs ns) (hlen : ns.length ≤ 6)
   (mono : QMono q ns.length) (hq : ∀ i, q i = decide (ns.getD i 0 ≤ x))
   (ret : Ret0 s Q (BOut q ns.length)) :
   wpAny (model prog w) (ar dp un gd outer) (call (.ref 39) [.ref l, .int x t]) Q E s := by
  k_with_none
  w_top off
  k_with "exec While Compare cons nil" =>
    k_dflt (refine' ksw_while (σ := (Int × Tok) × (Int × Tok)) (fun _ => []) (fun c => [(Str.ofString "lo", .int c.1.1 c.1.2), (Str.ofString "hi", .int c.2.1 c.2.2)]) (fun _ => True) ["mid"] (fun c => BInv q ns.length c.1.1 c.2.1) (fun c => (c.2.1 - c.1.1).toNat)
                    ((_, _), (_, _)) (by assumption) (by assumption) trivial (List.forall_mem_cons.mpr ⟨rfl, List.forall_mem_cons.mpr ⟨rfl, List.forall_mem_nil _⟩⟩) (BInv.start _ _) ?_)
    rintro ⟨⟨lo, tl⟩, hi9, th⟩ u h9 tk9 _ I9 F9 N9
    dsimp only at I9 F9
    have p1 := I9.a
    have p2 := I9.b
    have p3 := I9.c
  refine wpAny_call ?_
  k_dflt (first
  | (refine' enterD ?k1 ?k6 ?k7 ?k8 ?k9 ?kB ?_ ?c2 ?c3 ?c4 ?c5
     (case k1 => assumption)
     (case k6 => k_is)
     (case k7 => k_is)
     (case k8 => omega)
     (case k9 => first | exact BindsTo.of_eq rfl | exact kp_binds (Rdy.K (by assumption)) (fun _ => rfl))
     (case kB => exact locs rfl)
     (case c2 => exact rfl)
     (case c3 => exact rfl)
     (case c4 => exact rfl)
     (case c5 => decide)
     intro _ _ _ _ _ _
     (try dsimp only))
  | (refine' enterC ?k1 ?k6 ?k7 ?k8 ?k9 ?kB ?kD ?_ ?c2 ?c3 ?c4
     (case k1 => assumption)
     (case k6 => k_is)
     (case k7 => k_is)
     (case k8 => omega)
     (case k9 => first | exact BindsTo.of_eq rfl | exact kp_binds (Rdy.K (by assumption)) (fun _ => rfl))
     (case kB => exact rfl)
     (case kD => decide +kernel)
     (case c2 => exact rfl)
     (case c3 => exact rfl)
     (case c4 => exact rfl)
     intro _ _ _ _ Nq Yq _ _ _
     k_cells Yq
     (try simp only [List.cons_append, List.nil_append] at Nq)
     (try dsimp only)))
  k_steps
  · have G := I9.goR mono (by assumption) (by rw [hq]; exact decide_eq_false (Int.not_le.mpr (by assumption)))
    refine ksw_end ((lo, tl), ((lo + hi9).fdiv 2, _)) (by assumption) (by assumption) (List.forall_mem_nil _) trivial (List.forall_mem_cons.mpr ⟨rfl, List.forall_mem_cons.mpr ⟨rfl, List.forall_mem_nil _⟩⟩) ?_ G.1 G.2
    intro z h2 h3
    have e1 : z ≠ Str.ofString "lo" := h2 (Str.ofString "lo", _) (.head _)
    have e2 : z ≠ Str.ofString "hi" := h2 (Str.ofString "hi", _) (.tail _ (.head _))
    exact ifN e2 (ifN (nIn h3 (.head _)) (kOffB (List.forall_mem_cons.mpr ⟨e1, List.forall_mem_cons.mpr ⟨e2, List.forall_mem_nil _⟩⟩) h3))
  · have G := I9.goL mono (by assumption) (by rw [hq]; exact decide_eq_true (Int.not_lt.mp (by assumption)))
    refine ksw_end (((lo + hi9).fdiv 2 + 1, _), (hi9, th)) (by assumption) (by assumption) (List.forall_mem_nil _) trivial (List.forall_mem_cons.mpr ⟨rfl, List.forall_mem_cons.mpr ⟨rfl, List.forall_mem_nil _⟩⟩) ?_ G.1 G.2
    intro z h2 h3
    have e1 : z ≠ Str.ofString "lo" := h2 (Str.ofString "lo", _) (.head _)
    have e2 : z ≠ Str.ofString "hi" := h2 (Str.ofString "hi", _) (.tail _ (.head _))
    exact ifN e1 (ifN (nIn h3 (.head _)) (kOffB (List.forall_mem_cons.mpr ⟨e1, List.forall_mem_cons.mpr ⟨e2, List.forall_mem_nil _⟩⟩) h3))
  · dsimp only
    exact ret0End (s := s) ret F9 (I9.out (by assumption))

theorem bislK_ctr {l : Addr} {vs : List Value} {ns : List Int} {x : UInt64} {t t0 : Tok} {kf : Addr} {val : Int → UInt64} {q : Nat → Bool} (W : Rdy w mean mg mb (ar dp un gd outer) base outer s.heap) (hd' : dp + 20 < recursionLimit)
   (hl : s.heap.IsList l vs.toArray) (hi : IntsAre vs ns) (hlen : ns.length ≤ 6) (hin : ∀ y ∈ ns, 0 ≤ y ∧ y < 6) (K : KeyOk prog w mean mg mb kf val 6 s.heap)
   (mono : QMono q ns.length) (hq : ∀ i, q i = (Float64.cmp (val (ns.getD i 0)) x == some Ordering.lt))
   (ret : Ret0 s Q (BOut q ns.length)) :
   wpAny (model prog w) (ar dp un gd outer) (call (.ref 57) [.ref l, .float x t, .int 0 t0, .none] [(Str.ofString "key", .ref kf)]) Q E s := by
  k_with_none
  w_top off
  k_with "exec While Compare cons nil" =>
    k_dflt (refine' ksw_while (σ := (Int × Tok) × (Int × Tok)) (fun _ => []) (fun c => [(Str.ofString "lo", .int c.1.1 c.1.2), (Str.ofString "hi", .int c.2.1 c.2.2)]) (fun _ => True) ["mid"] (fun c => BInv q ns.length c.1.1 c.2.1) (fun c => (c.2.1 - c.1.1).toNat)
                    ((_, _), (_, _)) (by assumption) (by assumption) trivial (List.forall_mem_cons.mpr ⟨rfl, List.forall_mem_cons.mpr ⟨rfl, List.forall_mem_nil _⟩⟩) (BInv.start _ _) ?_)
    rintro ⟨⟨lo, tl⟩, hi9, th⟩ u h9 tk9 _ I9 F9 N9
    dsimp only at I9 F9
    have p1 := I9.a
    have p2 := I9.b
    have p3 := I9.c
  obtain ⟨fo, fd, hf1, hf2, hkey⟩ := K
  k_with "callWith ref" =>
    k_dflt (refine callWith_F hf2 ?_)
  k_with "And" =>
    k_dflt (refine ⟨F9'.keep _ _ hf1, ?_⟩)
  k_with "call ref" =>
    have hlt9 : lo < hi9 := by assumption
    have hm9 := mid2 p1 hlt9
    have hb9 := hin _ (getDm (j := ((lo + hi9).fdiv 2).toNat) (by omega))
    k_dflt (refine hkey _ _ _ _ _ _ _ _ _ _ (Rdy.into (by assumption) (by assumption) (by assumption) (by assumption) rfl rfl) (Fr.keep (by assumption)) (by first | omega | (dsimp only [Around.deeper]; omega)) hb9.1 hb9.2 (ret0Of (by assumption) (by assumption) ?_))
    clear hlt9
    intro r9 h99 tk99 F9 N9 O9
    obtain ⟨u99, e9⟩ := O9
    subst e9
  refine wpAny_call ?_
  k_dflt (first
  | (refine' enterD ?k1 ?k6 ?k7 ?k8 ?k9 ?kB ?_ ?c2 ?c3 ?c4 ?c5
     (case k1 => assumption)
     (case k6 => k_is)
     (case k7 => k_is)
     (case k8 => omega)
     (case k9 => first | exact BindsTo.of_eq rfl | exact kp_binds (Rdy.K (by assumption)) (fun _ => rfl))
     (case kB => exact locs rfl)
     (case c2 => exact rfl)
     (case c3 => exact rfl)
     (case c4 => exact rfl)
     (case c5 => decide)
     intro _ _ _ _ _ _
     (try dsimp only))
  | (refine' enterC ?k1 ?k6 ?k7 ?k8 ?k9 ?kB ?kD ?_ ?c2 ?c3 ?c4
     (case k1 => assumption)
     (case k6 => k_is)
     (case k7 => k_is)
     (case k8 => omega)
     (case k9 => first | exact BindsTo.of_eq rfl | exact kp_binds (Rdy.K (by assumption)) (fun _ => rfl))
     (case kB => exact rfl)
     (case kD => decide +kernel)
     (case c2 => exact rfl)
     (case c3 => exact rfl)
     (case c4 => exact rfl)
     intro _ _ _ _ Nq Yq _ _ _
     k_cells Yq
     (try simp only [List.cons_append, List.nil_append] at Nq)
     (try dsimp only)))
  k_steps
  · have G := I9.goL mono (by assumption) (by rw [hq]; assumption)
    refine ksw_end (((lo + hi9).fdiv 2 + 1, _), (hi9, th)) (by assumption) (by assumption) (List.forall_mem_nil _) trivial (List.forall_mem_cons.mpr ⟨rfl, List.forall_mem_cons.mpr ⟨rfl, List.forall_mem_nil _⟩⟩) ?_ G.1 G.2
    intro z h2 h3
    have e1 : z ≠ Str.ofString "lo" := h2 (Str.ofString "lo", _) (.head _)
    have e2 : z ≠ Str.ofString "hi" := h2 (Str.ofString "hi", _) (.tail _ (.head _))
    exact ifN e1 (ifN (nIn h3 (.head _)) (kOffB (List.forall_mem_cons.mpr ⟨e1, List.forall_mem_cons.mpr ⟨e2, List.forall_mem_nil _⟩⟩) h3))
  · have G := I9.goR mono (by assumption) (by rw [hq]; assumption)
    refine ksw_end ((lo, tl), ((lo + hi9).fdiv 2, _)) (by assumption) (by assumption) (List.forall_mem_nil _) trivial (List.forall_mem_cons.mpr ⟨rfl, List.forall_mem_cons.mpr ⟨rfl, List.forall_mem_nil _⟩⟩) ?_ G.1 G.2
    intro z h2 h3
    have e1 : z ≠ Str.ofString "lo" := h2 (Str.ofString "lo", _) (.head _)
    have e2 : z ≠ Str.ofString "hi" := h2 (Str.ofString "hi", _) (.tail _ (.head _))
    exact ifN e2 (ifN (nIn h3 (.head _)) (kOffB (List.forall_mem_cons.mpr ⟨e1, List.forall_mem_cons.mpr ⟨e2, List.forall_mem_nil _⟩⟩) h3))
  · dsimp only
    exact ret0End (s := s) ret F9 (I9.out (by assumption))

theorem bisrK_ctr {l : Addr} {vs : List Value} {ns : List Int} {x : UInt64} {t t0 : Tok} {kf : Addr} {val : Int → UInt64} {q : Nat → Bool} (W : Rdy w mean mg mb (ar dp un gd outer) base outer s.heap) (hd' : dp + 20 < recursionLimit)
   (hl : s.heap.IsList l vs.toArray) (hi : IntsAre vs ns) (hlen : ns.length ≤ 6) (hin : ∀ y ∈ ns, 0 ≤ y ∧ y < 6) (K : KeyOk prog w mean mg mb kf val 6 s.heap)
   (mono : QMono q ns.length) (hq : ∀ i, q i = !(Float64.cmp x (val (ns.getD i 0)) == some Ordering.lt))
   (ret : Ret0 s Q (BOut q ns.length)) :
   wpAny (model prog w) (ar dp un gd outer) (call (.ref 39) [.ref l, .float x t, .int 0 t0, .none] [(Str.ofString "key", .ref kf)]) Q E s := by
  k_with_none
  w_top off
  k_with "exec While Compare cons nil" =>
    k_dflt (refine' ksw_while (σ := (Int × Tok) × (Int × Tok)) (fun _ => []) (fun c => [(Str.ofString "lo", .int c.1.1 c.1.2), (Str.ofString "hi", .int c.2.1 c.2.2)]) (fun _ => True) ["mid"] (fun c => BInv q ns.length c.1.1 c.2.1) (fun c => (c.2.1 - c.1.1).toNat)
                    ((_, _), (_, _)) (by assumption) (by assumption) trivial (List.forall_mem_cons.mpr ⟨rfl, List.forall_mem_cons.mpr ⟨rfl, List.forall_mem_nil _⟩⟩) (BInv.start _ _) ?_)
    rintro ⟨⟨lo, tl⟩, hi9, th⟩ u h9 tk9 _ I9 F9 N9
    dsimp only at I9 F9
    have p1 := I9.a
    have p2 := I9.b
    have p3 := I9.c
  obtain ⟨fo, fd, hf1, hf2, hkey⟩ := K
  k_with "callWith ref" =>
    k_dflt (refine callWith_F hf2 ?_)
  k_with "And" =>
    k_dflt (refine ⟨F9'.keep _ _ hf1, ?_⟩)
  k_with "call ref" =>
    have hlt9 : lo < hi9 := by assumption
    have hm9 := mid2 p1 hlt9
    have hb9 := hin _ (getDm (j := ((lo + hi9).fdiv 2).toNat) (by omega))
    k_dflt (refine hkey _ _ _ _ _ _ _ _ _ _ (Rdy.into (by assumption) (by assumption) (by assumption) (by assumption) rfl rfl) (Fr.keep (by assumption)) (by first | omega | (dsimp only [Around.deeper]; omega)) hb9.1 hb9.2 (ret0Of (by assumption) (by assumption) ?_))
    clear hlt9
    intro r9 h99 tk99 F9 N9 O9
    obtain ⟨u99, e9⟩ := O9
    subst e9
  refine wpAny_call ?_
  k_dflt (first
  | (refine' enterD ?k1 ?k6 ?k7 ?k8 ?k9 ?kB ?_ ?c2 ?c3 ?c4 ?c5
     (case k1 => assumption)
     (case k6 => k_is)
     (case k7 => k_is)
     (case k8 => omega)
     (case k9 => first | exact BindsTo.of_eq rfl | exact kp_binds (Rdy.K (by assumption)) (fun _ => rfl))
     (case kB => exact locs rfl)
     (case c2 => exact rfl)
     (case c3 => exact rfl)
     (case c4 => exact rfl)
     (case c5 => decide)
     intro _ _ _ _ _ _
     (try dsimp only))
  | (refine' enterC ?k1 ?k6 ?k7 ?k8 ?k9 ?kB ?kD ?_ ?c2 ?c3 ?c4
     (case k1 => assumption)
     (case k6 => k_is)
     (case k7 => k_is)
     (case k8 => omega)
     (case k9 => first | exact BindsTo.of_eq rfl | exact kp_binds (Rdy.K (by assumption)) (fun _ => rfl))
     (case kB => exact rfl)
     (case kD => decide +kernel)
     (case c2 => exact rfl)
     (case c3 => exact rfl)
     (case c4 => exact rfl)
     intro _ _ _ _ Nq Yq _ _ _
     k_cells Yq
     (try simp only [List.cons_append, List.nil_append] at Nq)
     (try dsimp only)))
  k_steps
  · have G := I9.goR mono (by assumption) (by rw [hq, (by assumption : (Float64.cmp x (val (ns.getD ((lo + hi9).fdiv 2).toNat 0)) == some Ordering.lt) = true)]; rfl)
    refine ksw_end ((lo, tl), ((lo + hi9).fdiv 2, _)) (by assumption) (by assumption) (List.forall_mem_nil _) trivial (List.forall_mem_cons.mpr ⟨rfl, List.forall_mem_cons.mpr ⟨rfl, List.forall_mem_nil _⟩⟩) ?_ G.1 G.2
    intro z h2 h3
    have e1 : z ≠ Str.ofString "lo" := h2 (Str.ofString "lo", _) (.head _)
    have e2 : z ≠ Str.ofString "hi" := h2 (Str.ofString "hi", _) (.tail _ (.head _))
    exact ifN e2 (ifN (nIn h3 (.head _)) (kOffB (List.forall_mem_cons.mpr ⟨e1, List.forall_mem_cons.mpr ⟨e2, List.forall_mem_nil _⟩⟩) h3))
  · have G := I9.goL mono (by assumption) (by rw [hq, (by assumption : (Float64.cmp x (val (ns.getD ((lo + hi9).fdiv 2).toNat 0)) == some Ordering.lt) = false)]; rfl)
    refine ksw_end (((lo + hi9).fdiv 2 + 1, _), (hi9, th)) (by assumption) (by assumption) (List.forall_mem_nil _) trivial (List.forall_mem_cons.mpr ⟨rfl, List.forall_mem_cons.mpr ⟨rfl, List.forall_mem_nil _⟩⟩) ?_ G.1 G.2
    intro z h2 h3
    have e1 : z ≠ Str.ofString "lo" := h2 (Str.ofString "lo", _) (.head _)
    have e2 : z ≠ Str.ofString "hi" := h2 (Str.ofString "hi", _) (.tail _ (.head _))
    exact ifN e1 (ifN (nIn h3 (.head _)) (kOffB (List.forall_mem_cons.mpr ⟨e1, List.forall_mem_cons.mpr ⟨e2, List.forall_mem_nil _⟩⟩) h3))
  · dsimp only
    exact ret0End (s := s) ret F9 (I9.out (by assumption))

theorem KeyOk.mono {kf : Addr} {val : Int → UInt64} {n : Int} {g h : Heap} (K : KeyOk prog w mean mg mb kf val n g) (k : Kp g h) : KeyOk prog w mean mg mb kf val n h := by
  obtain ⟨fo, fd, h1, h2, h3⟩ := K
  exact ⟨fo, fd, k _ _ h1, h2, fun dp un gd base outer s k' t Q E W hk => h3 dp un gd base outer s k' t Q E W (Kp.trans k hk)⟩
theorem insl_ctr {g : Heap} {R kf : Addr} {vs : List Value} {ns : List Int} {c : Nat} {x : Int} {t : Tok} {val : Int → UInt64} {q : Nat → Bool} (W : Rdy w mean mg mb (ar dp un gd outer) base outer g) (G : GL g s.heap [(R, listOf vs.toArray c)]) (hd' : dp + 40 < recursionLimit)
   (hi : IntsAre vs ns) (hlen : ns.length ≤ 5) (hin : ∀ y ∈ ns, 0 ≤ y ∧ y < 6) (hx : 0 ≤ x ∧ x < 6) (K : KeyOk prog w mean mg mb kf val 6 g)
   (mono : QMono q ns.length) (hq : ∀ i, q i = (Float64.cmp (val (ns.getD i 0)) (val x) == some Ordering.lt))
   (ret : RetG g s Q (fun tl r => ∃ (p : Int) (vs' : List Value) (c' : Nat), r = .none ∧ BInv q ns.length p p ∧ IntsAre vs' (ns.take p.toNat ++ x :: ns.drop p.toNat) ∧ tl = [(R, listOf vs'.toArray c')])) :
   wpAny (model prog w) (ar dp un gd outer) (call (.ref 48) [.ref R, .int x t] [(Str.ofString "key", .ref kf)]) Q E s := by
  k_with_none
  w_top off
  have KO := K
  obtain ⟨fo, fd, hf1, hf2, hkey⟩ := K
  k_with "callWith ref" =>
    k_dflt (refine callWith_F hf2 ?_)
  k_with "And" =>
    k_dflt (refine ⟨Fr.keep (by assumption) _ _ hf1, ?_⟩)
  k_with "call ref" =>
    k_dflt (refine bislK_ctr (Rdy.into (by assumption) (by assumption) (by assumption) (by assumption) rfl rfl) (by first | omega | (dsimp only [Around.deeper]; omega)) (newsL (by assumption) (.head _)) hi (Nat.le_succ_of_le hlen) hin (KO.mono (Fr.keep (by assumption))) mono hq (ret0Of (by assumption) (by assumption) ?_))
    intro r9 h99 tk99 F9 N9 O9
    obtain ⟨p9, u99, e9, I9⟩ := O9
    subst e9
  k_with "call ref" =>
    k_dflt (refine hkey _ _ _ _ _ _ _ _ _ _ (Rdy.into (by assumption) (by assumption) (by assumption) (by assumption) rfl rfl) (Fr.keep (by assumption)) (by first | omega | (dsimp only [Around.deeper]; omega)) hx.1 hx.2 (ret0Of (by assumption) (by assumption) ?_))
    intro r9 h99 tk99 F9 N9 O9
    obtain ⟨u99, e9⟩ := O9
    subst e9
  k_with "call builtin:list.insert" =>
    k_here
    have hp9 : 0 ≤ p9 ∧ p9 ≤ (vs.length : Int) := ⟨I9.a, by rw [hi.length]; exact I9.c⟩
    have hl9 : vs.length ≤ 5 := by rw [hi.length]; exact hlen
    k_dflt (refine kl_insert (its := vs.toArray) (l := vs.take p9.toNat ++ .int x t :: vs.drop p9.toNat) (by k_asm) (by k_asm) (fitsIdx ⟨hp9.1, by omega⟩) (insEq hp9) (Upd.head (List.forall_mem_nil _)) (Nat.le_trans hl9 (by decide)) ?_)
    intro h5 F5 N5
  refine wpAny_call ?_
  k_dflt (first
  | (refine' enterDg ?k1 ?kG ?k6 ?k7 ?k8 ?k9 ?kB ?_ ?c2 ?c3 ?c4 ?c5
     (case k1 => assumption)
     (case kG => assumption)
     (case k6 => k_is)
     (case k7 => k_is)
     (case k8 => omega)
     (case k9 => first | exact BindsTo.of_eq rfl | exact kp_binds (Frag.In.keeps (Rdy.K (by assumption)) (GL.k (by assumption))) (fun _ => rfl))
     (case kB => exact locs rfl)
     (case c2 => exact rfl)
     (case c3 => exact rfl)
     (case c4 => exact rfl)
     (case c5 => decide)
     intro _ _ _ _ _ _
     (try dsimp only))
  | (refine' enterCg ?k1 ?kG ?k6 ?k7 ?k8 ?k9 ?kB ?kD ?_ ?c2 ?c3 ?c4
     (case k1 => assumption)
     (case kG => assumption)
     (case k6 => k_is)
     (case k7 => k_is)
     (case k8 => omega)
     (case k9 => first | exact BindsTo.of_eq rfl | exact kp_binds (Frag.In.keeps (Rdy.K (by assumption)) (GL.k (by assumption))) (fun _ => rfl))
     (case kB => exact rfl)
     (case kD => decide +kernel)
     (case c2 => exact rfl)
     (case c3 => exact rfl)
     (case c4 => exact rfl)
     intro _ _ _ _ Nq Yq lq _ _ _
     k_cells Yq
     (try simp only [List.cons_append, List.nil_append] at Nq)
     (try simp only [List.forall_mem_cons, List.forall_mem_nil, and_true, List.not_mem_nil, false_implies, implies_true] at lq)
     (try dsimp only)))
  k_steps
  dsimp only
  exact retGEnd (s := s) ret F5 N5 (fun p hp => hp) ⟨p9, _, _, rfl, I9, intsIns hi, rfl⟩

theorem insr_ctr {g : Heap} {R kf : Addr} {vs : List Value} {ns : List Int} {c : Nat} {x : Int} {t : Tok} {val : Int → UInt64} {q : Nat → Bool} (W : Rdy w mean mg mb (ar dp un gd outer) base outer g) (G : GL g s.heap [(R, listOf vs.toArray c)]) (hd' : dp + 40 < recursionLimit)
   (hi : IntsAre vs ns) (hlen : ns.length ≤ 5) (hin : ∀ y ∈ ns, 0 ≤ y ∧ y < 6) (hx : 0 ≤ x ∧ x < 6) (K : KeyOk prog w mean mg mb kf val 6 g)
   (mono : QMono q ns.length) (hq : ∀ i, q i = !(Float64.cmp (val x) (val (ns.getD i 0)) == some Ordering.lt))
   (ret : RetG g s Q (fun tl r => ∃ (p : Int) (vs' : List Value) (c' : Nat), r = .none ∧ BInv q ns.length p p ∧ IntsAre vs' (ns.take p.toNat ++ x :: ns.drop p.toNat) ∧ tl = [(R, listOf vs'.toArray c')])) :
   wpAny (model prog w) (ar dp un gd outer) (call (.ref 30) [.ref R, .int x t] [(Str.ofString "key", .ref kf)]) Q E s := by
  k_with_none
  w_top off
  have KO := K
  obtain ⟨fo, fd, hf1, hf2, hkey⟩ := K
  k_with "callWith ref" =>
    k_dflt (refine callWith_F hf2 ?_)
  k_with "And" =>
    k_dflt (refine ⟨Fr.keep (by assumption) _ _ hf1, ?_⟩)
  k_with "call ref" =>
    k_dflt (refine bisrK_ctr (Rdy.into (by assumption) (by assumption) (by assumption) (by assumption) rfl rfl) (by first | omega | (dsimp only [Around.deeper]; omega)) (newsL (by assumption) (.head _)) hi (Nat.le_succ_of_le hlen) hin (KO.mono (Fr.keep (by assumption))) mono hq (ret0Of (by assumption) (by assumption) ?_))
    intro r9 h99 tk99 F9 N9 O9
    obtain ⟨p9, u99, e9, I9⟩ := O9
    subst e9
  k_with "call ref" =>
    k_dflt (refine hkey _ _ _ _ _ _ _ _ _ _ (Rdy.into (by assumption) (by assumption) (by assumption) (by assumption) rfl rfl) (Fr.keep (by assumption)) (by first | omega | (dsimp only [Around.deeper]; omega)) hx.1 hx.2 (ret0Of (by assumption) (by assumption) ?_))
    intro r9 h99 tk99 F9 N9 O9
    obtain ⟨u99, e9⟩ := O9
    subst e9
  k_with "call builtin:list.insert" =>
    k_here
    have hp9 : 0 ≤ p9 ∧ p9 ≤ (vs.length : Int) := ⟨I9.a, by rw [hi.length]; exact I9.c⟩
    have hl9 : vs.length ≤ 5 := by rw [hi.length]; exact hlen
    k_dflt (refine kl_insert (its := vs.toArray) (l := vs.take p9.toNat ++ .int x t :: vs.drop p9.toNat) (by k_asm) (by k_asm) (fitsIdx ⟨hp9.1, by omega⟩) (insEq hp9) (Upd.head (List.forall_mem_nil _)) (Nat.le_trans hl9 (by decide)) ?_)
    intro h5 F5 N5
  refine wpAny_call ?_
  k_dflt (first
  | (refine' enterDg ?k1 ?kG ?k6 ?k7 ?k8 ?k9 ?kB ?_ ?c2 ?c3 ?c4 ?c5
     (case k1 => assumption)
     (case kG => assumption)
     (case k6 => k_is)
     (case k7 => k_is)
     (case k8 => omega)
     (case k9 => first | exact BindsTo.of_eq rfl | exact kp_binds (Frag.In.keeps (Rdy.K (by assumption)) (GL.k (by assumption))) (fun _ => rfl))
     (case kB => exact locs rfl)
     (case c2 => exact rfl)
     (case c3 => exact rfl)
     (case c4 => exact rfl)
     (case c5 => decide)
     intro _ _ _ _ _ _
     (try dsimp only))
  | (refine' enterCg ?k1 ?kG ?k6 ?k7 ?k8 ?k9 ?kB ?kD ?_ ?c2 ?c3 ?c4
     (case k1 => assumption)
     (case kG => assumption)
     (case k6 => k_is)
     (case k7 => k_is)
     (case k8 => omega)
     (case k9 => first | exact BindsTo.of_eq rfl | exact kp_binds (Frag.In.keeps (Rdy.K (by assumption)) (GL.k (by assumption))) (fun _ => rfl))
     (case kB => exact rfl)
     (case kD => decide +kernel)
     (case c2 => exact rfl)
     (case c3 => exact rfl)
     (case c4 => exact rfl)
     intro _ _ _ _ Nq Yq lq _ _ _
     k_cells Yq
     (try simp only [List.cons_append, List.nil_append] at Nq)
     (try simp only [List.forall_mem_cons, List.forall_mem_nil, and_true, List.not_mem_nil, false_implies, implies_true] at lq)
     (try dsimp only)))
  k_steps
  dsimp only
  exact retGEnd (s := s) ret F5 N5 (fun p hp => hp) ⟨p9, _, _, rfl, I9, intsIns hi, rfl⟩

theorem key0_ctr {gk : Heap} {f c' cc lt : Addr} {oc : Obj} {tv : List Value} {lv vv : Nat → UInt64} {p0 p1 p2 p3 p4 p5 : Pos} {pm ctv : Value} {qual : Str}
   (hf : gk.get? f = some (kla_obj (Str.ofString "<lambda>") qual { posonlyargs := [], args := [{ arg := Str.ofString "one", annotation := none, pos := p0 }], vararg := none, kwonlyargs := [], kw_defaults := [], kwarg := none, defaults := [] }
     (.Subscript (.Subscript (.Name (Str.ofString "told") p1) (.Name (Str.ofString "one") p2) p3) (.Constant (.int 0) 0 p4) p5)
     { kind := .function, names := [(Str.ofString "one", .local), (Str.ofString "told", .free)], isGenerator := false, isCoroutine := false } [(Str.ofString "told", cc)] pm c' ctv))
   (hc : gk.CodeRec (.ref c') qual) (hcc : gk.get? cc = some oc) (hoc : oc.data = .cell (some (.ref lt))) (hl : gk.IsList lt tv.toArray)
   (hin : ∀ i, i < 6 → ∃ a t1 t2, tv[i]? = some (.ref a) ∧ gk.IsList a [.float (lv i) t1, .float (vv i) t2].toArray) :
   KeyOk prog w mean mg mb f (fun k => lv k.toNat) 6 gk := by
  k_with_none
  w_top off
  refine ⟨_, _, hf, rfl, ?_⟩
  intro dp un gd base outer s k t Q E W hk hd' h0 h6 ret
  refine wpAny_call ?_
  refine enterL (binds := [(Str.ofString "one", .int k t)]) W (hk _ _ hf) (hc.keeps hk) (by omega) (by rfl) (by exact locs rfl) ?_ rfl rfl rfl (by decide)
  intro h₁ F N B X T
  try dsimp only
  obtain ⟨a, t1, t2, hi1, hi2⟩ := hin k.toNat (by omega)
  k_with "eval Name" =>
    k_dflt (refine wpAny_Name (wpAny_loadName_free (c := cc) rfl rfl rfl ⟨oc, Fr.keep F _ _ (hk _ _ hcc), hoc⟩ ?_ (by decide)) (by decide))
  k_with "subscriptTail Name Name ref int" =>
    k_dflt (refine subK (Kp.list (Fr.keep F) (Kp.list hk hl)) h0 (by omega) hi1 ?_)
  k_with "subscriptTail" =>
    k_dflt (refine subK (vs := [_, _]) (Kp.list (Fr.keep F) (Kp.list hk hi2)) (by decide) (by decide) rfl ?_)
  k_steps
  exact ret0End (s := s) ret F ⟨_, rfl⟩
theorem key1_ctr {gk : Heap} {f c' cc lt : Addr} {oc : Obj} {tv : List Value} {lv vv : Nat → UInt64} {p0 p1 p2 p3 p4 p5 : Pos} {pm ctv : Value} {qual : Str}
   (hf : gk.get? f = some (kla_obj (Str.ofString "<lambda>") qual { posonlyargs := [], args := [{ arg := Str.ofString "one", annotation := none, pos := p0 }], vararg := none, kwonlyargs := [], kw_defaults := [], kwarg := none, defaults := [] }
     (.Subscript (.Subscript (.Name (Str.ofString "told") p1) (.Name (Str.ofString "one") p2) p3) (.Constant (.int 1) 0 p4) p5)
     { kind := .function, names := [(Str.ofString "one", .local), (Str.ofString "told", .free)], isGenerator := false, isCoroutine := false } [(Str.ofString "told", cc)] pm c' ctv))
   (hc : gk.CodeRec (.ref c') qual) (hcc : gk.get? cc = some oc) (hoc : oc.data = .cell (some (.ref lt))) (hl : gk.IsList lt tv.toArray)
   (hin : ∀ i, i < 6 → ∃ a t1 t2, tv[i]? = some (.ref a) ∧ gk.IsList a [.float (lv i) t1, .float (vv i) t2].toArray) :
   KeyOk prog w mean mg mb f (fun k => vv k.toNat) 6 gk := by
  k_with_none
  w_top off
  refine ⟨_, _, hf, rfl, ?_⟩
  intro dp un gd base outer s k t Q E W hk hd' h0 h6 ret
  refine wpAny_call ?_
  refine enterL (binds := [(Str.ofString "one", .int k t)]) W (hk _ _ hf) (hc.keeps hk) (by omega) (by rfl) (by exact locs rfl) ?_ rfl rfl rfl (by decide)
  intro h₁ F N B X T
  try dsimp only
  obtain ⟨a, t1, t2, hi1, hi2⟩ := hin k.toNat (by omega)
  k_with "eval Name" =>
    k_dflt (refine wpAny_Name (wpAny_loadName_free (c := cc) rfl rfl rfl ⟨oc, Fr.keep F _ _ (hk _ _ hcc), hoc⟩ ?_ (by decide)) (by decide))
  k_with "subscriptTail Name Name ref int" =>
    k_dflt (refine subK (Kp.list (Fr.keep F) (Kp.list hk hl)) h0 (by omega) hi1 ?_)
  k_with "subscriptTail" =>
    k_dflt (refine subK (vs := [_, _]) (Kp.list (Fr.keep F) (Kp.list hk hi2)) (by decide) (by decide) rfl ?_)
  k_steps
  exact ret0End (s := s) ret F ⟨_, rfl⟩

theorem row_ins1 {env : Env} {h₀ : Heap} {L f cc c' R lt : Addr} {m : Str → Option Value} {news : List (Addr × Obj)} {oc occ : Obj} {fs : Array Value} {ft : Tok} {tv vs : List Value} {ns : List Int} {c i : Nat} {t : Tok} {l v : Nat → Nat} {p0 p1 p2 p3 p4 p5 : Pos} {pm ctv : Value} {qual : Str}
   (hk : env.scope.kind = .function) (hf : env.frame = some L) (B : Below (ar dp un gd outer) base outer h₀) (X : (hd.heap_39 w.params).In h₀) (T : Top topProg LS mean mg mb h₀) (F : Fr h₀ L s.heap m) (N : News h₀ L s.heap ((R, listOf vs.toArray c) :: news))
   (hd' : dp + 50 < recursionLimit)
   (mf : (f, kla_obj (Str.ofString "<lambda>") qual { posonlyargs := [], args := [{ arg := Str.ofString "one", annotation := none, pos := p0 }], vararg := none, kwonlyargs := [], kw_defaults := [], kwarg := none, defaults := [] }
     (.Subscript (.Subscript (.Name (Str.ofString "told") p1) (.Name (Str.ofString "one") p2) p3) (.Constant (.int 0) 0 p4) p5)
     { kind := .function, names := [(Str.ofString "one", .local), (Str.ofString "told", .free)], isGenerator := false, isCoroutine := false } [(Str.ofString "told", cc)] pm c' ctv) ∈ news)
   (mc : (c', oc) ∈ news) (hfs : oc.data = .fields fs) (hft : fs[1]? = some (.str qual ft)) (mcc : (cc, occ) ∈ news) (hocc : occ.data = .cell (some (.ref lt))) (hR : ∀ q ∈ news, q.1 ≠ R)
   (hl : h₀.IsList lt tv.toArray) (hin : ∀ i, i < 6 → ∃ a t1 t2, tv[i]? = some (.ref a) ∧ h₀.IsList a [.float (fl16 (l i)) t1, .float (fl8 (v i)) t2].toArray) (hlb : ∀ i, i < 6 → l i ≤ 12 ∧ v i ≤ 8)
   (hi : IntsAre vs ns) (hr : Ris l i ns) (hi6 : i < 6)
   (ret : ∀ vs' c'' h' tk', Fr h₀ L h' m → News h₀ L h' ((R, listOf vs'.toArray c'') :: news) → (∃ ns', IntsAre vs' ns' ∧ Ris l (i + 1) ns') → Q .none { s with heap := h', toks := tk' }) :
   wpAny (model prog w) ((ar dp un gd outer).deeper env) (call (.ref 48) [.ref R, .int (i : Int) t] [(Str.ofString "key", .ref f)]) Q E s := by
  obtain ⟨g, W, G, kk, ret9⟩ := lessOf (hid := [(R, listOf vs.toArray c)]) (news := news) B X T F N (fun p hp => by rw [List.mem_singleton.mp hp]; exact .head _) (fun p hp => .tail _ hp) (fun p hp q hq => by rw [List.mem_singleton.mp hp]; exact hR q hq) hf hk
  have up : ∀ p ∈ news, g.get? p.1 = some p.2 := fun p hp => kk _ _ (N p (.tail _ hp)).1 fun q hq => by rw [List.mem_singleton.mp hq]; exact (hR p hp).symm
  have h0g : Kp h₀ g := fun b o e => kk b o (F.keep b o e) fun q hq q1 => by
    rw [List.mem_singleton.mp hq] at q1
    have := (N _ (.head _)).2.2
    rw [show (R, listOf vs.toArray c).1 = b from q1, e] at this; cases this
  have KO := key0_ctr (prog := prog) (w := w) (mean := mean) (mg := mg) (mb := mb) (lv := fun i => fl16 (l i)) (vv := fun i => fl8 (v i)) (up _ mf) ⟨_, _, _, _, rfl, up _ mc, hfs, hft⟩ (up _ mcc) hocc (Kp.list h0g hl) (fun i hi => by
    obtain ⟨a, t1, t2, q1, q2⟩ := hin i hi
    exact ⟨a, t1, t2, q1, Kp.list h0g q2⟩)
  have hm : ∀ j, ((ns.getD j 0).toNat < 6) := fun j => by
    by_cases hj : j < ns.length
    · have := hr.mem (ns.getD j 0) (by rw [getD_get hj]; exact List.getElem_mem _)
      omega
    · rw [List.getD_eq_getElem?_getD, List.getElem?_eq_none (Nat.le_of_not_lt hj)]; decide
  refine insl_ctr (q := fun j => decide (l (ns.getD j 0).toNat < l i)) W G (by dsimp only [Around.deeper]; omega) hi (by rw [hr.len]; omega) (fun y hy => by have := hr.mem y hy; omega) ⟨by omega, by omega⟩ KO hr.mono (fun j => ?_) (ret9 _ _ ?_)
  · show _ = (Float64.cmp (fl16 (l (ns.getD j 0).toNat)) (fl16 (l ((i : Int)).toNat)) == some Ordering.lt)
    rw [Int.toNat_natCast, fl16_ltB (hlb _ (hm j)).1 (hlb _ hi6).1]
  · rintro r h' tk' tl F' N' _ ⟨p, vs', c'', rfl, I, hi', rfl⟩
    exact ret vs' c'' h' tk' F' N' ⟨_, hi', hr.ins I⟩
theorem row_ins2 {env : Env} {h₀ : Heap} {L f cc c' R lt : Addr} {m : Str → Option Value} {news : List (Addr × Obj)} {oc occ : Obj} {fs : Array Value} {ft : Tok} {tv vs : List Value} {ns : List Int} {c : Nat} {x : Int} {pre : List Int} {t : Tok} {l v : Nat → Nat} {p0 p1 p2 p3 p4 p5 : Pos} {pm ctv : Value} {qual : Str}
   (hk : env.scope.kind = .function) (hf : env.frame = some L) (B : Below (ar dp un gd outer) base outer h₀) (X : (hd.heap_39 w.params).In h₀) (T : Top topProg LS mean mg mb h₀) (F : Fr h₀ L s.heap m) (N : News h₀ L s.heap ((R, listOf vs.toArray c) :: news))
   (hd' : dp + 50 < recursionLimit)
   (mf : (f, kla_obj (Str.ofString "<lambda>") qual { posonlyargs := [], args := [{ arg := Str.ofString "one", annotation := none, pos := p0 }], vararg := none, kwonlyargs := [], kw_defaults := [], kwarg := none, defaults := [] }
     (.Subscript (.Subscript (.Name (Str.ofString "told") p1) (.Name (Str.ofString "one") p2) p3) (.Constant (.int 1) 0 p4) p5)
     { kind := .function, names := [(Str.ofString "one", .local), (Str.ofString "told", .free)], isGenerator := false, isCoroutine := false } [(Str.ofString "told", cc)] pm c' ctv) ∈ news)
   (mc : (c', oc) ∈ news) (hfs : oc.data = .fields fs) (hft : fs[1]? = some (.str qual ft)) (mcc : (cc, occ) ∈ news) (hocc : occ.data = .cell (some (.ref lt))) (hR : ∀ q ∈ news, q.1 ≠ R)
   (hl : h₀.IsList lt tv.toArray) (hin : ∀ i, i < 6 → ∃ a t1 t2, tv[i]? = some (.ref a) ∧ h₀.IsList a [.float (fl16 (l i)) t1, .float (fl8 (v i)) t2].toArray) (hlb : ∀ i, i < 6 → l i ≤ 12 ∧ v i ≤ 8)
   (hi : IntsAre vs ns) (hr : Rw l v pre ns) (hx6 : 0 ≤ x ∧ x < 6) (hpre : ∀ y ∈ pre, 0 ≤ y ∧ y < 6) (hpl : pre.length ≤ 5) (hxr : ∀ y ∈ pre, RevR l y x)
   (ret : ∀ vs' c'' h' tk', Fr h₀ L h' m → News h₀ L h' ((R, listOf vs'.toArray c'') :: news) → (∃ ns', IntsAre vs' ns' ∧ Rw l v (pre ++ [x]) ns') → Q .none { s with heap := h', toks := tk' }) :
   wpAny (model prog w) ((ar dp un gd outer).deeper env) (call (.ref 30) [.ref R, .int x t] [(Str.ofString "key", .ref f)]) Q E s := by
  obtain ⟨g, W, G, kk, ret9⟩ := lessOf (hid := [(R, listOf vs.toArray c)]) (news := news) B X T F N (fun p hp => by rw [List.mem_singleton.mp hp]; exact .head _) (fun p hp => .tail _ hp) (fun p hp q hq => by rw [List.mem_singleton.mp hp]; exact hR q hq) hf hk
  have up : ∀ p ∈ news, g.get? p.1 = some p.2 := fun p hp => kk _ _ (N p (.tail _ hp)).1 fun q hq => by rw [List.mem_singleton.mp hq]; exact (hR p hp).symm
  have h0g : Kp h₀ g := fun b o e => kk b o (F.keep b o e) fun q hq q1 => by
    rw [List.mem_singleton.mp hq] at q1
    have := (N _ (.head _)).2.2
    rw [show (R, listOf vs.toArray c).1 = b from q1, e] at this; cases this
  have KO := key1_ctr (prog := prog) (w := w) (mean := mean) (mg := mg) (mb := mb) (lv := fun i => fl16 (l i)) (vv := fun i => fl8 (v i)) (up _ mf) ⟨_, _, _, _, rfl, up _ mc, hfs, hft⟩ (up _ mcc) hocc (Kp.list h0g hl) (fun i hi => by
    obtain ⟨a, t1, t2, q1, q2⟩ := hin i hi
    exact ⟨a, t1, t2, q1, Kp.list h0g q2⟩)
  have hmem : ∀ y ∈ ns, 0 ≤ y ∧ y < 6 := fun y hy => hpre y (hr.perm.mem_iff.mp hy)
  have hm : ∀ j, ((ns.getD j 0).toNat < 6) := fun j => by
    by_cases hj : j < ns.length
    · have := hmem (ns.getD j 0) (by rw [getD_get hj]; exact List.getElem_mem _)
      omega
    · rw [List.getD_eq_getElem?_getD, List.getElem?_eq_none (Nat.le_of_not_lt hj)]; decide
  refine insr_ctr (q := fun j => !decide (v x.toNat < v (ns.getD j 0).toNat)) W G (by dsimp only [Around.deeper]; omega) hi (by rw [hr.perm.length_eq]; exact hpl) hmem hx6 KO hr.mono (fun j => ?_) (ret9 _ _ ?_)
  · show _ = !(Float64.cmp (fl8 (v x.toNat)) (fl8 (v (ns.getD j 0).toNat)) == some Ordering.lt)
    rw [fl8_ltB (hlb _ (by omega)).2 (hlb _ (hm j)).2]
  · rintro r h' tk' tl F' N' _ ⟨p, vs', c'', rfl, I, hi', rfl⟩
    exact ret vs' c'' h' tk' F' N' ⟨_, hi', hr.ins hxr I⟩

theorem row_ctr {g : Heap} {lt : Addr} {tv : List Value} {l v : Nat → Nat} (W : Rdy w mean mg mb (ar dp un gd outer) base outer g) (G : GL g s.heap [(180, tabObj #[])]) (hd' : dp + 70 < recursionLimit)
   (hl : g.IsList lt tv.toArray) (hin : ∀ i, i < 6 → ∃ a t1 t2, tv[i]? = some (.ref a) ∧ g.IsList a [.float (fl16 (l i)) t1, .float (fl8 (v i)) t2].toArray) (hlb : ∀ i, i < 6 → l i ≤ 12 ∧ v i ≤ 8)
   (ret : RetG g s Q (fun tl r => ∃ (D : Addr) (vs : List Value) (n : Nat) (ns : List Int) (ps : Array Value), r = .ref D ∧ tl = [(D, listOf vs.toArray n), (180, tabObj ps)] ∧ IntsAre vs ns ∧ ns.Perm ((List.range 6).map fun (j : Nat) => (j : Int)) ∧ ns.Pairwise (RowR l v))) :
   wpAny (model prog w) (ar dp un gd outer) (call (.ref 185) [.ref lt]) Q E s := by
  k_with_none
  w_top off
  have HD : CodeHd g 184 180 := codeHd_of_K (c := 184) (P := 180) W.K (by kernel_rfl)
  k_with "pyIter ref" =>
    k_dflt (refine loopRow1 l rfl (by assumption) (by assumption) (by assumption) (.tail _ (.tail _ (.head _))) (.tail _ (.head _)) (.head _) ?_ ?_)
    intro i ps C oC vs ns k I h tk o t hi hT hvs hris h180I hCI hccI hRI F9 N9
    rotate_left
    intro ps C oC vs ns k u h tk hT hvs hris F9 N9
    rotate_left
  k_with "eval Lambda" =>
    k_dflt (refine kla_eval rfl ?_)
    k_dflt (refine kla_row (ps0 := #[]) (more := []) F9 N9 (by assumption) HD rfl h180I hCI (by k_ne) (by k_ne) hRI (by k_ne) (List.forall_mem_nil _) (List.forall_mem_nil _) trivial rfl (fun _ => trivial) (fun _ => rfl) hT rfl ?_)
    intro f' c' oc' vs' t' ct' h' tk' F9 N9 d1 d2 hR9 n1 n2 n3
  k_with "call ref" =>
    k_dflt (refine row_ins1 rfl rfl (by assumption) (by assumption) (by assumption) F9 N9 (by omega) (.head _) (.tail _ (.tail _ (.head _))) d1 d2 (.tail _ (.tail _ (.tail _ (.head _)))) (by assumption) hR9 hl hin hlb hvs hris hi ?_)
    intro vs'' k'' h' tk' F9 N9 hex
  k_with "subscriptTail Name Slice ref ref" =>
    k_here
    k_dflt (refine krv_ints (vs := vs) (ns := ns) (by k_asm) (by k_asm) (newsL (by assumption) (by k_mem)) (IsPart.int _ _) hvs ?_ (by with_unfolding_all rfl) (by kmk_pure) (by rw [List.size_toArray, hvs.length, hris.len]; decide))
    intro D' rv h' F' N' l1 hrv hrl
    (try k_lt l1)
    (try k_sweep)
  k_with "pyIter ref" =>
    k_dflt (refine loopRow2 l v rfl hrv (by assumption) (by assumption) (.tail _ (.tail _ (.head _))) (.tail _ (.tail _ (.tail _ (.tail _ (.head _))))) (.tail _ (.head _)) (.head _) ?_ ?_)
    intro i x' ps2 C2 oC2 vs2 ns2 k2 I h tk o t hi hx hT2 hvs2 hrw h180I hCI hccI hRI hVI F9 N9
    have hm6 : ∀ y ∈ ns.reverse, 0 ≤ y ∧ y < 6 := fun y hy => by
      have := hris.mem y (List.mem_reverse.mp hy)
      omega
    have hx6 := hm6 x' (List.mem_of_getElem? hx)
    have hpre : ∀ y ∈ ns.reverse.take i, 0 ≤ y ∧ y < 6 := fun y hy => hm6 y (List.mem_of_mem_take hy)
    have hpl : (ns.reverse.take i).length ≤ 5 := by rw [List.length_take]; rw [hrl, hris.len] at hi; omega
    have hxr := pairTake hris.rev hx
    rotate_left
    intro ps9 ns2 vs2 k2 u2 h tk hvs2 hrw F9 N9
    rotate_left
  k_with "eval Lambda" =>
    have hTn := hT.next
    k_dflt (refine kla_eval rfl ?_)
    k_dflt (refine kla_row (ps0 := ps) (more := [(D', _)]) F9 N9 (by assumption) HD rfl h180I hCI (by k_ne) (by k_ne) hRI (by k_ne) (List.forall_mem_cons.mpr ⟨by k_ne, List.forall_mem_nil _⟩) (List.forall_mem_cons.mpr ⟨by k_ne, List.forall_mem_nil _⟩) hTn.1 hTn.2.1 hTn.2.2.1 hTn.2.2.2 hT2 rfl ?_)
    intro f' c' oc' vs' t' ct' h' tk' F9 N9 d1 d2 hR9 n1 n2 n3
  k_with "call ref" =>
    k_dflt (refine row_ins2 rfl rfl (by assumption) (by assumption) (by assumption) F9 N9 (by omega) (.head _) (.tail _ (.tail _ (.head _))) d1 d2 (.tail _ (.tail _ (.tail _ (.head _)))) (by assumption) hR9 hl hin hlb hvs2 hrw hx6 hpre hpl hxr ?_)
    intro vs'' k'' h' tk' F9 N9 hex
  refine wpAny_call ?_
  k_dflt (first
  | (refine' enterDg ?k1 ?kG ?k6 ?k7 ?k8 ?k9 ?kB ?_ ?c2 ?c3 ?c4 ?c5
     (case k1 => assumption)
     (case kG => assumption)
     (case k6 => k_is)
     (case k7 => k_is)
     (case k8 => omega)
     (case k9 => first | exact BindsTo.of_eq rfl | exact kp_binds (Frag.In.keeps (Rdy.K (by assumption)) (GL.k (by assumption))) (fun _ => rfl))
     (case kB => exact locs rfl)
     (case c2 => exact rfl)
     (case c3 => exact rfl)
     (case c4 => exact rfl)
     (case c5 => decide)
     intro _ _ _ _ _ _
     (try dsimp only))
  | (refine' enterCg ?k1 ?kG ?k6 ?k7 ?k8 ?k9 ?kB ?kD ?_ ?c2 ?c3 ?c4
     (case k1 => assumption)
     (case kG => assumption)
     (case k6 => k_is)
     (case k7 => k_is)
     (case k8 => omega)
     (case k9 => first | exact BindsTo.of_eq rfl | exact kp_binds (Frag.In.keeps (Rdy.K (by assumption)) (GL.k (by assumption))) (fun _ => rfl))
     (case kB => exact rfl)
     (case kD => decide +kernel)
     (case c2 => exact rfl)
     (case c3 => exact rfl)
     (case c4 => exact rfl)
     intro _ _ _ _ Nq Yq lq _ _ _
     k_cells Yq
     (try simp only [List.cons_append, List.nil_append] at Nq)
     (try simp only [List.forall_mem_cons, List.forall_mem_nil, and_true, List.not_mem_nil, false_implies, implies_true] at lq)
     (try dsimp only)))
  k_steps
  · refine TP.next (σ := RowS) (ps := fun _ => []) ⟨#[] ++ #[rawInt rowPos1.line, rawInt rowPos1.col, .ref c'], c', oc', vs'', k''⟩ F9 N9 (fun p hp => ?_) (fun p hp => ?_) (List.forall_mem_nil _) (fun z h1 _ _ => if_neg h1) ⟨.inr ⟨vs', t', rfl, n1, n2, d1, d2⟩, hex⟩
    · simp only [List.mem_cons, List.not_mem_nil, or_false] at hp
      rcases hp with rfl | rfl | rfl | rfl | rfl
      · exact .tail _ (.tail _ (.tail _ (.tail _ (.tail _ (.head _)))))
      · exact .tail _ (.tail _ (.head _))
      · exact .tail _ (.tail _ (.tail _ (.head _)))
      · exact .tail _ (.tail _ (.tail _ (.tail _ (.head _))))
      · exact .head _
    · simp only [List.mem_cons, List.not_mem_nil, or_false] at hp
      rcases hp with rfl | rfl | rfl | rfl
      · exact h180I
      · exact n3
      · exact hccI
      · exact hRI
  · rw [← takeOne hx] at hex
    refine TP.next (σ := RowS) (ps := fun _ => []) ⟨ps ++ #[rawInt rowPos2.line, rawInt rowPos2.col, .ref c'], c', oc', vs'', k''⟩ F9 N9 (fun p hp => ?_) (fun p hp => ?_) (List.forall_mem_nil _) (fun z h1 _ _ => if_neg h1) ⟨.inr ⟨vs', t', rfl, n1, n2, d1, d2⟩, hex⟩
    · simp only [List.mem_cons, List.not_mem_nil, or_false] at hp
      rcases hp with rfl | rfl | rfl | rfl | rfl | rfl
      · exact .tail _ (.tail _ (.tail _ (.tail _ (.tail _ (.head _)))))
      · exact .tail _ (.tail _ (.head _))
      · exact .tail _ (.tail _ (.tail _ (.head _)))
      · exact .tail _ (.tail _ (.tail _ (.tail _ (.head _))))
      · exact .head _
      · exact .tail _ (.tail _ (.tail _ (.tail _ (.tail _ (.tail _ (.head _))))))
    · simp only [List.mem_cons, List.not_mem_nil, or_false] at hp
      rcases hp with rfl | rfl | rfl | rfl | rfl
      · exact h180I
      · exact n3
      · exact hccI
      · exact hRI
      · exact hVI
  · dsimp only
    refine retGEnd (s := s) (tl := [_, _]) ret F9 N9 (fun p hp => hp) ⟨_, vs2, k2, ns2, ps9, rfl, rfl, hvs2, hrw.perm.trans ((List.reverse_perm ns).trans hris.perm), hrw.ord⟩

theorem boolRow_snoc {B : Nat → Nat → Bool} {i j : Nat} {b : Bool} (e : b = B i j) : boolRow B i j ++ [.bool b] = boolRow B i (j + 1) := by
  unfold boolRow
  rw [List.range_succ, List.map_append, e]; rfl
theorem tabB_of {co : Nat → Int × Int × Int} {i j : Nat} {M : Int} (m : M ∈ (List.range 5).map (tabF co i j)) (le : ∀ a ∈ (List.range 5).map (tabF co i j), M ≤ a) : decide (0 < M) = tabB co i j := by
  unfold tabB
  rw [Bool.eq_iff_iff, decide_eq_true_eq, List.all_eq_true]
  constructor
  · intro h z hz
    have := le _ (List.mem_map_of_mem hz)
    exact decide_eq_true (by omega)
  · intro h
    obtain ⟨z, hz, rfl⟩ := List.mem_map.mp m
    exact of_decide_eq_true (h z hz)
theorem table_ctr {l : Addr} {cs : List Value} {co : Nat → Int × Int × Int} (W : Rdy w mean mg mb (ar dp un gd outer) base outer s.heap) (hd' : dp + 10 < recursionLimit)
   (hl : s.heap.IsList l cs.toArray) (hcl : cs.length = 6) (hco : ∀ i, i < 6 → ∃ c t1 t2 t3, cs[i]? = some (.ref c) ∧ s.heap.IsList c #[.int (co i).1 t1, .int (co i).2.1 t2, .int (co i).2.2 t3])
   (hb : ∀ i, i < 6 → (0 ≤ (co i).1 ∧ (co i).1 ≤ 4) ∧ (0 ≤ (co i).2.1 ∧ (co i).2.1 ≤ 4))
   (ret : Ret s Q (fun tl r => ∃ (T : Addr) (rows : List Value) (rest : List (Addr × Obj)) (k : Nat), r = .ref T ∧ tl = (T, listOf rows.toArray k) :: rest ∧ rows.length = 6 ∧ ∀ i, i < 6 → ∃ (a : Addr) (n : Nat), rows[i]? = some (.ref a) ∧ (a, listOf (boolRow (tabB co) i 6).toArray n) ∈ rest)) :
   wpAny (model prog w) (ar dp un gd outer) (call (.ref 173) [.ref l]) Q E s := by
  have hsz6 : cs.toArray.size = 6 := by rw [List.size_toArray]; exact hcl
  k_with_none
  w_top off
  k_with "exec For Name Name cons nil" => (k_dflt (refine wpAny_For ?_))
  k_with "pyIter ref" =>
    k_dflt (refine loopCellT (fun i rows rest => ∀ j, j < i → ∃ a n, rows[j]? = some (.ref a) ∧ (a, listOf (boolRow (tabB co) j 6).toArray n) ∈ rest) rfl rfl rfl rfl hl (by assumption) (newsSwap (by assumption)) (by assumption) (by k_ne) (fun j hj => absurd hj (Nat.not_lt_zero j)) ?_ ?_)
    intro rest rows kk i v I h tk o oc hi hv hrl hP hoff hdc hIc hTI hTc F9 N9
    rw [hsz6] at hi
    obtain ⟨ci, t1, t2, t3, hci, hli⟩ := hco i hi
    rw [List.getElem?_toArray, hci] at hv
    have hv := (Option.some.inj hv).symm
    subst hv
    rotate_left
    intro rest rows kk oc v h tk hrl hP F9 N9 hdc hoff
    rw [hsz6] at hrl hP
    rotate_left
  k_with "call builtin:list.append" =>
    k_dflt (refine append_K (by k_asm) (by k_asm) (Upd.tail (off9 _ (.tail _ (.tail _ (.head _)))).symm (Upd.tail hTI.symm (Upd.tail hTc.symm (Upd.head fun p hp => (hoff p hp).2.2)))) ?_ (by rw [List.size_toArray, hrl]; exact Nat.le_trans (Nat.le_of_lt hi) (by decide)))
    intro h5 F5 N5
  k_with "eval ListComp Compare cons" =>
    k_dflt (refine ListComp_C (F₀ := by k_asm) (by with_unfolding_all rfl) (fun _ => by rfl) (fun _ => by rfl) (by rfl) (by decide) (fun _ _ => by rfl) ?_)
  k_with "CompSrcC" =>
    k_dflt (refine CompSrcC.baseP (fun j ys => ys = boolRow (tabB co) i j) rfl (by k_asm) (by k_asm) hl (by rw [hsz6]; decide) rfl (fun g => ?_) ?_)
    intro j v2 I2 C2 c2 D2 oI2 oC2 oc2 ys2 h2 tk2 E2 hj hv2 hJ2 hd2 F9 N9 off9 ne9 hS9
    rw [hsz6] at hj
    obtain ⟨cj, u1, u2, u3, hcj, hlj⟩ := hco j hj
    rw [List.getElem?_toArray, hcj] at hv2
    have hv2 := (Option.some.inj hv2).symm
    subst hv2
    subst hJ2
    rotate_left
    intro D2 h2 tk2 ys2 hJ2 F9 N9 off9
    rw [hsz6] at hJ2
    subst hJ2
    rotate_left
  k_with "CompSrc" =>
    k_dflt (refine LCg.CompSrc.range (n := 5) (by rfl) (by k_asm) (by k_asm) (by assumption) (by first | decide | rfl) (by first | rfl | decide) (by first | size_fits | exact Nat.le_of_ble_eq_true rfl) ?_; intro g'; refine compInvP (fun z zs => IntsAre zs ((List.range z).map (tabF co i j))) .nil ?_ ?_)
    intro z v3 I3 oI3 C3 oC3 D3 m3 zs h3 tk3 E3 hz hv3 hJ3 hC3 hx3 F9 N9 off3 ne3
    obtain ⟨t3, hv3⟩ := hv3
    subst hv3
    rotate_left
    intro zs hJ3
    have hJ3 : IntsAre zs ((List.range 5).map (tabF co i j)) := hJ3
    rotate_left
  k_with "subscriptTail Name Name ref int" =>
    k_dflt (first
      | refine subK (vs := [_, _, _]) (Kp.list (Fr.keep F9) hlj) (by decide) (by decide) rfl ?_
      | refine subK (vs := [_, _, _]) (Kp.list (Fr.keep F9) hli) (by decide) (by decide) rfl ?_)
  k_with "call builtin:min" =>
    k_dflt (refine kso_min (by k_asm) (by k_asm) (newsL (by assumption) (.head _)) hJ3 (by rw [List.length_map, List.length_range]; decide) rfl ?_)
    intro h4 M4 t4 tk4 F9 N9 m4 le4
  refine wpAny_call ?_
  k_dflt (first
  | (refine' enterD ?k1 ?k6 ?k7 ?k8 ?k9 ?kB ?_ ?c2 ?c3 ?c4 ?c5
     (case k1 => assumption)
     (case k6 => k_is)
     (case k7 => k_is)
     (case k8 => omega)
     (case k9 => first | exact BindsTo.of_eq rfl | exact kp_binds (Rdy.K (by assumption)) (fun _ => rfl))
     (case kB => exact locs rfl)
     (case c2 => exact rfl)
     (case c3 => exact rfl)
     (case c4 => exact rfl)
     (case c5 => decide)
     intro _ _ _ _ _ _
     (try dsimp only))
  | (refine' enterC ?k1 ?k6 ?k7 ?k8 ?k9 ?kB ?kD ?_ ?c2 ?c3 ?c4
     (case k1 => assumption)
     (case k6 => k_is)
     (case k7 => k_is)
     (case k8 => omega)
     (case k9 => first | exact BindsTo.of_eq rfl | exact kp_binds (Rdy.K (by assumption)) (fun _ => rfl))
     (case kB => exact rfl)
     (case kD => decide +kernel)
     (case c2 => exact rfl)
     (case c3 => exact rfl)
     (case c4 => exact rfl)
     intro _ _ _ _ Nq Yq _ _ _
     k_cells Yq
     (try simp only [List.cons_append, List.nil_append] at Nq)
     (try dsimp only)))
  k_steps
  · refine LCg.CompEnd.intro F9 N9 _ (fun p hp => hp) off3 trivial ⟨rfl, ?_⟩
    rw [List.range_succ, List.map_append]
    exact ints_snoc hJ3
  · refine CompEndC.intro _ F9 N9 (fun p hp => .tail _ hp) off9 hS9 ⟨rfl, ?_⟩
    exact boolRow_snoc (tabB_of m4 le4)
  · rw [List.push_toArray] at N5
    refine TPC.next (σ := List (Addr × Obj) × List Value × Nat) ((D2, LCg.lst (boolRow (tabB co) i 6)) :: rest, rows ++ [.ref D2], kk + 1) F5 N5 (fun p hp => ?_) hdc (fun p hp => ?_) ⟨by rw [List.length_append, hrl]; rfl, fun p hp => ?_, fun j hj => ?_⟩
    · simp only [List.mem_cons] at hp ⊢
      rcases hp with h | h | h | h | h <;> simp only [h, true_or, or_true]
    · rcases List.mem_cons.mp hp with rfl | hp
      · exact ⟨hTI, hTc⟩
      · rcases List.mem_cons.mp hp with rfl | hp
        · exact ⟨(off9 _ (.head _)).symm, (off9 _ (.tail _ (.head _))).symm⟩
        · exact ⟨(hoff p hp).1, (hoff p hp).2.1⟩
    · rcases List.mem_cons.mp hp with rfl | hp
      · exact (off9 _ (.tail _ (.tail _ (.head _)))).symm
      · exact (hoff p hp).2.2
    · rcases Nat.lt_succ_iff_lt_or_eq.mp hj with h | h
      · obtain ⟨a, n, h1, h2⟩ := hP j h
        exact ⟨a, n, by rw [List.getElem?_append_left (by omega)]; exact h1, .tail _ h2⟩
      · subst h
        exact ⟨_, _, by rw [List.getElem?_append_right (by omega), hrl, Nat.sub_self]; rfl, .head _⟩
  · dsimp only
    refine retEnd (s := s) ret F9 N9 (fun p hp => .tail _ hp) ⟨_, rows, rest, kk, rfl, rfl, hrl, hP⟩

theorem hF_step {B : Nat → Nat → Bool} {i k : Nat} {M : Int} (m : M ∈ [0] ++ ((List.range 6).filter fun j => B j k).map fun j => (hF B i j : Int) + 1) (le : ∀ a, a ∈ [0] ++ (((List.range 6).filter fun j => B j k).map fun j => (hF B i j : Int) + 1) → a ≤ M) : M = (hF B (i + 1) k : Int) := by
  have key : ∀ l : List Nat, (∀ a : Int, a ∈ [0] ++ (l.map fun j => (hF B i j : Int) + 1) → a ≤ ((l.foldr (fun j m => max (hF B i j + 1) m) 0 : Nat) : Int)) ∧ ((l.foldr (fun j m => max (hF B i j + 1) m) 0 : Nat) : Int) ∈ [0] ++ l.map fun j => (hF B i j : Int) + 1 := by
    intro l
    induction l with
    | nil => exact ⟨fun a ha => by simp at ha; subst ha; exact Int.le_refl _, by simp⟩
    | cons j r ih =>
      rw [List.foldr_cons]
      refine ⟨fun a ha => ?_, ?_⟩
      · simp only [List.map_cons, List.singleton_append, List.mem_cons] at ha
        rcases ha with h | h | h
        · omega
        · omega
        · have := ih.1 a (by simp only [List.singleton_append, List.mem_cons]; exact .inr h)
          omega
      · by_cases h : hF B i j + 1 ≤ r.foldr (fun j m => max (hF B i j + 1) m) 0
        · rw [Nat.max_eq_right h]
          have := ih.2
          simp only [List.map_cons, List.singleton_append, List.mem_cons] at this ⊢
          exact this.elim .inl fun q => .inr (.inr q)
        · rw [Nat.max_eq_left (by omega)]
          simp only [List.map_cons, List.singleton_append, List.mem_cons]
          exact .inr (.inl (by omega))
  have q := key ((List.range 6).filter fun j => B j k)
  exact Int.le_antisymm (q.1 M m) (le _ q.2)
theorem filt_t {B : Nat → Nat → Bool} {j k : Nat} {f : Nat → Int} (h : B j k = true) : ((List.range (j + 1)).filter fun j => B j k).map f = ((List.range j).filter fun j => B j k).map f ++ [f j] := by
  rw [List.range_succ, List.filter_append, List.map_append, show [j].filter (fun j => B j k) = [j] from by simp [h]]; rfl
theorem filt_f {B : Nat → Nat → Bool} {j k : Nat} {f : Nat → Int} (h : B j k = false) : ((List.range (j + 1)).filter fun j => B j k).map f = ((List.range j).filter fun j => B j k).map f := by
  rw [List.range_succ, List.filter_append, show [j].filter (fun j => B j k) = [] from by simp [h], List.append_nil]
theorem hts_len {B : Nat → Nat → Bool} {k : Nat} {f : Nat → Int} : ([0] : List Int).length + (((List.range 6).filter fun j => B j k).map f).length ≤ sizeLine := by
  have := List.length_filter_le (fun j => B j k) (List.range 6)
  rw [List.length_range] at this
  rw [List.length_map]
  exact Nat.le_trans (Nat.add_le_add_left this 1) (by decide)
theorem heights_ctr {lb : Addr} {B : Nat → Nat → Bool} (W : Rdy w mean mg mb (ar dp un gd outer) base outer s.heap) (hd' : dp + 10 < recursionLimit)
   (hl : Mat s.heap lb B)
   (ret : Ret s Q (fun tl r => ∃ (D : Addr) (vs : List Value) (n : Nat), r = .ref D ∧ tl = [(D, listOf vs.toArray n)] ∧ IntsAre vs ((List.range 6).map fun k => (hF B 5 k : Int)))) :
   wpAny (model prog w) (ar dp un gd outer) (call (.ref 178) [.ref lb]) Q E s := by
  obtain ⟨rs, hrs, hrl, hrow⟩ := hl
  k_with_none
  w_top off
  k_with "pyIter ref" =>
    k_dflt (refine loopRH (n := 5) (fun i vs => IntsAre vs ((List.range 6).map fun k => (hF B i k : Int))) rfl (by assumption) (by decide) (by rfl) (by assumption) (by assumption) (by assumption) (by k_ne) (by k_ne) (by assumption) ?_ ?_)
    intro i vs n9 D och I h tk o t hi hvs hchI hctI hDI hDch hDct hdat F9 N9
    rotate_left
    intro vs n9 D och u h tk hvs hdat F9 N9
    rotate_left
  k_with "eval ListComp Call cons" =>
    k_dflt (refine ListComp_C (F₀ := by k_asm) (by with_unfolding_all rfl) (fun _ => by rfl) (fun _ => by rfl) (by rfl) (by decide) (fun _ _ => by rfl) ?_)
  k_with "CompSrcC" =>
    k_dflt (refine CompSrcC.rangeP (n := 6) (fun j ys => IntsAre ys ((List.range j).map fun k => (hF B (i + 1) k : Int))) rfl (by k_asm) (by k_asm) (by assumption) (by decide) (by rfl) (by decide) .nil (fun g => ?_) ?_)
    intro kk v2 I2 C2 c2 D2 oI2 oC2 oc2 ys2 h2 tk2 E2 hkk hv2 hJ2 hd2 F9 N9 off9 ne9 hS9
    obtain ⟨t2, hv2⟩ := hv2
    subst hv2
    have ek : ((0 : Int) + (kk : Int)).toNat = kk := by omega
    rotate_left
    intro D2 h2 tk2 ys2 hJ2 F9 N9 off9
    have q1 : (@Ne Nat I D2) := off9 _ (.head _)
    have q2 : (@Ne Nat _ D2) := off9 _ (.tail _ (.head _))
    have q3 : (@Ne Nat _ D2) := off9 _ (.tail _ (.tail _ (.head _)))
    have q4 : (@Ne Nat D D2) := off9 _ (.tail _ (.tail _ (.tail _ (.head _))))
    rotate_left
  k_with "eval ListComp BinOp cons" =>
    k_dflt (refine LCt.ListComp_T (F₀ := by k_asm) (by with_unfolding_all rfl) (by decide) (by rfl) (by decide) (by rfl) ?_)
  k_with "CompSrcT" =>
    k_dflt (refine LCt.CompSrcT.range (n := 6) (by rfl) (by k_asm) (by k_asm) (by assumption) (by decide) (by rfl) (by decide) ?_; intro g'; refine compInvTP (fun j ys => IntsAre ys (((List.range j).filter fun j => B j kk).map fun j => (hF B i j : Int) + 1)) .nil ?_ ?_)
    intro jj v3 I3 oI3 C3 oC3 D3 m3 zs h3 tk3 E3 hjj hv3 hJ3 hC3 hx3 F9 N9 off3 ne3
    obtain ⟨t3, hv3⟩ := hv3
    subst hv3
    have ej : ((0 : Int) + (jj : Int)).toNat = jj := by omega
    obtain ⟨tj, htj⟩ := hvs.get jj (hF B i jj : Int) (by rw [List.getElem?_map, List.getElem?_range hjj]; rfl)
    rotate_left
    intro zs hJ3
    rotate_left
  k_with "subscriptTail Name Name ref int" =>
    k_dflt (first
      | (refine cellK (by assumption) ⟨by omega, by omega⟩ ?_; rw [ej, ek]; cases hB : B jj kk)
      | (refine rowK (B := B) (Kp.list (Fr.keep F9) hrs) (matKeep (Fr.keep F9) hrow) ⟨by omega, by omega⟩ ?_; intro ra hra)
      | (refine subK (newsL (by assumption) (by k_mem)) (by omega) (by omega) (by rw [ej]; exact htj) ?_))
  k_with "binaryOp Add ref ref" =>
    k_dflt (refine kmk_add_ints (vs := [.int 0 _]) (ns := [0]) (by k_asm) (by k_asm) (newsL (by assumption) (.tail _ (.head _))) (newsL (by assumption) (.head _)) (.cons 0 _ .nil) hJ3 ?_ hts_len)
    intro D4 us4 h4 F9 N9 l4 hI4
  k_with "call builtin:max" =>
    k_dflt (refine kso_max (by k_asm) (by k_asm) (newsL (by assumption) (.head _)) hI4 (Nat.lt_of_lt_of_le (Nat.zero_lt_succ _) (by rw [List.length_append]; exact Nat.le_add_right 1 _)) rfl ?_)
    intro h4 M4 t4 tk4 F9 N9 m4 le4
  refine wpAny_call ?_
  k_dflt (first
  | (refine' enterD ?k1 ?k6 ?k7 ?k8 ?k9 ?kB ?_ ?c2 ?c3 ?c4 ?c5
     (case k1 => assumption)
     (case k6 => k_is)
     (case k7 => k_is)
     (case k8 => omega)
     (case k9 => first | exact BindsTo.of_eq rfl | exact kp_binds (Rdy.K (by assumption)) (fun _ => rfl))
     (case kB => exact locs rfl)
     (case c2 => exact rfl)
     (case c3 => exact rfl)
     (case c4 => exact rfl)
     (case c5 => decide)
     intro _ _ _ _ _ _
     (try dsimp only))
  | (refine' enterC ?k1 ?k6 ?k7 ?k8 ?k9 ?kB ?kD ?_ ?c2 ?c3 ?c4
     (case k1 => assumption)
     (case k6 => k_is)
     (case k7 => k_is)
     (case k8 => omega)
     (case k9 => first | exact BindsTo.of_eq rfl | exact kp_binds (Rdy.K (by assumption)) (fun _ => rfl))
     (case kB => exact rfl)
     (case kD => decide +kernel)
     (case c2 => exact rfl)
     (case c3 => exact rfl)
     (case c4 => exact rfl)
     intro _ _ _ _ Nq Yq _ _ _
     k_cells Yq
     (try simp only [List.cons_append, List.nil_append] at Nq)
     (try dsimp only)))
  k_steps
  · refine LCg.CompEnd.intro (by assumption) (by assumption) _ (fun p hp => hp) off3 trivial ⟨rfl, ?_⟩
    rw [filt_f hB]
    exact hJ3
  · refine LCg.CompEnd.intro (by assumption) (by assumption) _ (fun p hp => hp) off3 trivial ⟨rfl, ?_⟩
    rw [filt_t hB]
    exact ints_snoc hJ3
  · refine CompEndC.intro _ F9 N9 (fun p hp => .tail _ (.tail _ (.tail _ hp))) off9 hS9 ⟨rfl, ?_⟩
    rw [List.range_succ, List.map_append, hF_step m4 le4]
    exact ints_snoc hJ2
  · rename_i hh9 oo9 FF9 NN9 dd9
    refine TP.next (σ := Obj × Addr × List Value × Nat) (ps := fun _ => []) (oo9, D2, ys2, ys2.length) FF9 NN9 (fun p hp => ?_) (fun p hp => ?_) (List.forall_mem_nil _) (fun z h1 _ _ => if_neg h1) ⟨dd9, q2.symm, q3.symm, hJ2⟩
    · simp only [List.mem_cons, List.not_mem_nil, or_false] at hp ⊢
      rcases hp with h | h | h | h <;> simp only [h, true_or, or_true]
    · simp only [List.mem_cons, List.not_mem_nil, or_false] at hp
      rcases hp with rfl | rfl | rfl
      · exact hchI
      · exact hctI
      · exact q1.symm
  · dsimp only
    refine retEnd (s := s) (tl := [_]) ret F9 N9 (fun p hp => by rw [List.mem_singleton.mp hp]; exact .tail _ (.tail _ (.head _))) ⟨D, vs, n9, rfl, rfl, hvs⟩

theorem piles_ctr {lr lm : Addr} {rv mv : List Value} {full ms : List Int} {b : Bool} {R : Int → Int → Prop} {mk : Int → Int} (W : Rdy w mean mg mb (ar dp un gd outer) base outer s.heap) (hd' : dp + 30 < recursionLimit)
   (hlr : s.heap.IsList lr rv.toArray) (hrv : IntsAre rv full) (hlm : s.heap.IsList lm mv.toArray) (hmv : IntsAre mv ms) (hms : ∀ j : Nat, j < 6 → ms[j]? = some (mk (j : Int))) (hfull : ∀ x ∈ full, 0 ≤ x ∧ x < 6) (hfl : full.length = 6)
   (hR : full.Pairwise R) (asym : ∀ x y, R x y → ¬ R y x) (tr : ∀ x y z, R x y → R y z → R x z)
   (ret : Ret s Q (fun tl r => ∃ (D PL WY : Addr) (prs : Prs) (n : Nat) (P : Nat → List Int) (ah : Int → Int) (wv : List Value) (wc pc : Nat) (way : List Int), r = .ref D ∧
     tl = (D, ({ cls := .type "tuple", data := .seq #[.ref PL, .ref WY] } : Obj)) :: (WY, listOf wv.toArray wc) :: (PL, listOf (prsRef prs).toArray pc) :: prsLed prs ∧ PrsOk prs n P ∧ PInv R b mk full n P ah ∧ IntsAre wv way ∧ 0 < n ∧ n ≤ 6 ∧ way.length = n ∧ (way.Pairwise fun x y => R x y ∧ rel b (mk x) (mk y)) ∧ ∀ x ∈ way, ∃ j, x ∈ P j)) :
   wpAny (model prog w) (ar dp un gd outer) (call (.ref 192) [.ref lr, .ref lm, .bool b]) Q E s := by
  k_with_none
  w_top off
  k_with "pyIter ref" =>
    k_dflt (refine loopP (ah₀ := fun x => x) R b mk rfl hlr hrv (by assumption) (by assumption) (.tail _ (.tail _ (.head _))) (.tail _ (.head _)) (.head _) (by exact .cons 0 _ (.cons 1 _ (.cons 2 _ (.cons 3 _ (.cons 4 _ (.cons 5 _ .nil)))))) ?_ ?_)
    intro i x t u I h tk o tv tc pc av ac prs n P ah hi hx hni hP htv hav hprs hoff hTI hPI hAI F9 N9
    have hlenP := hni.2
    have hni := hni.1
    have hn6 : n ≤ 6 := by omega
    have hoT := prsOff fun q hq => (hoff q hq).2.1
    have hoP := prsOff fun q hq => (hoff q hq).2.2.1
    have hoA := prsOff fun q hq => (hoff q hq).2.2.2
    have hoI := prsOff fun q hq => (hoff q hq).1
    have hx6 := hfull x (List.mem_of_getElem? hx)
    obtain ⟨tm, hmx⟩ := hmv.get x.toNat (mk x) (by rw [hms _ (by omega), Int.toNat_of_nonneg hx6.1])
    rotate_left
    intro u h tk tv tc pc av ac prs n P ah hn6 hP hav hprs hoff F9 N9
    rw [hfl] at hn6
    rotate_left
  k_with "exec If Name cons cons" =>
    (fail_if_success (with_reducible show wpAny _ _ _ (Post1 _ _ _ _ _ _ _) _ _))
    k_dflt (refine cut1 (q := qF b mk P (mk x)) (n := n) F9 N9 ?_ ?_)
    rotate_left
    intro p u' h' tk' F9 N9 I9
    rotate_left
  k_with "exec If Compare cons cons" =>
    (fail_if_success (with_reducible show wpAny _ _ _ (Post2 _ _ _ _ _ _ _ _ _ _ _ _ _ _) _ _))
    k_dflt (refine cut2 (topsF mk (putP P p x) (if p = n then n + 1 else n)) (putP P p x) (if p = n then n + 1 else n) F9 N9 ?_ ?_)
    rotate_left
    intro h' tk' tv' tc' pc' prs' F9 N9 htv' hprs' hoff'
    rotate_left
  k_with "call builtin:len" =>
    k_dflt (refine lenL (n := n) (newsL (by assumption) (.tail _ (.tail _ (.head _)))) (by rw [List.length_map, hprs.len]) (Nat.le_trans hn6 (by decide)) ?_)
  k_with "call builtin:len" =>
    k_dflt (refine lenL (n := n) (newsL (by assumption) (.tail _ (.head _))) (by rw [htv.length, tops_len]) (Nat.le_trans hn6 (by decide)) ?_)
  k_with "call builtin:list.append" =>
    k_dflt (refine append_K F5 N9 (Upd.head (List.forall_mem_cons.mpr ⟨(hoff _ hm9).1.symm, List.forall_mem_cons.mpr ⟨(hoff _ hm9).2.1.symm, List.forall_mem_cons.mpr ⟨(hoff _ hm9).2.2.1.symm, List.forall_mem_cons.mpr ⟨(hoff _ hm9).2.2.2.symm, prs_off hprs hq9⟩⟩⟩⟩)) ?_ hz9)
    intro h5 F5 N5
    rw [List.push_toArray] at N5
  k_with "call builtin:list.append" =>
    rename_i D9 h9 F9 N9 l19
    have hD9 : ∀ q ∈ prs, (@Ne Nat q.1 D9) := fun q hq => Nat.ne_of_lt (allLt_to l19.2.2.2.2 _ (List.mem_map_of_mem (f := fun q : Addr × List Value × Nat => (q.1, listOf q.2.1.toArray q.2.2)) hq))
    k_dflt (refine append_K F9 N9 (Upd.tail (by k_ne) (Upd.tail (by k_ne) (Upd.tail (by k_ne) (Upd.head (List.forall_mem_cons.mpr ⟨by k_ne, hoP⟩))))) ?_ (by rw [List.size_toArray, List.length_map, hprs.len]; exact Nat.le_trans hn6 (by decide)))
    intro h5 F5 N5
    rw [List.push_toArray] at N5
  k_with "call builtin:list.append" =>
    k_dflt (refine append_K (by assumption) (by assumption) (Upd.tail hTI.symm (Upd.head (List.forall_mem_cons.mpr ⟨by k_ne, List.forall_mem_cons.mpr ⟨by k_ne, hoT⟩⟩))) ?_ (by rw [List.size_toArray, htv.length, tops_len]; exact Nat.le_trans hn6 (by decide)))
    intro h5 F5 N5
    rw [List.push_toArray] at N5
  k_with "setItem ref int int" =>
    k_dflt (refine setK (vs := av) (by assumption) (by assumption) hx6.1 (by rw [hav.length]; exact hx6.2) (by rw [hav.length]; exact Nat.le_of_ble_eq_true rfl) (Upd.tail (by k_ne) (Upd.tail (by k_ne) (Upd.tail (by k_ne) (Upd.head (prsOff fun q hq => (hoff' q hq).2.2.2))))) ?_)
    intro h5 F5 N5
  k_with "setItem ref int int" =>
    have hp9 : p < n := by have := I9.c; omega
    k_dflt (refine setK (vs := tv) F9 N9 (Int.natCast_nonneg _) (by rw [htv.length, tops_len]; omega) (by rw [htv.length, tops_len]; omega) (Upd.tail hTI.symm (Upd.head (List.forall_mem_cons.mpr ⟨by k_ne, List.forall_mem_cons.mpr ⟨by k_ne, hoT⟩⟩))) ?_)
    intro h5 F5 N5
  k_with "subscriptTail Name UnaryOp ref int" =>
    k_dflt (first
      | refine kde_neg (newsL (by assumption) (.tail _ (.tail _ (.tail _ (.tail _ (List.mem_map_of_mem (f := fun q : Addr × List Value × Nat => (q.1, listOf q.2.1.toArray q.2.2)) hm9)))))) (by decide) (by decide) hj9 hx9 ?_
      | refine kde_neg (newsL (by assumption) (.tail _ (.tail _ (.tail _ (List.mem_map_of_mem (f := fun q : Addr × List Value × Nat => (q.1, listOf q.2.1.toArray q.2.2)) hm9))))) (by decide) (by decide) hj9 hx9 ?_)
  k_with "subscriptTail Name UnaryOp ref int" =>
    have hn0 : 0 < n := by
      obtain ⟨i0, hi0⟩ := hP.d2 (full.getD 0 0) (by rw [getD_get (by omega)]; exact List.getElem_mem _)
      rcases Nat.eq_zero_or_pos n with z | z
      · rw [hP.a2 i0 (by omega)] at hi0; exact absurd hi0 List.not_mem_nil
      · exact z
    obtain ⟨⟨a9, vs9, c9⟩, hq9⟩ : ∃ q, prs[n - 1]? = some q := ⟨prs[n - 1]'(by rw [hprs.len]; omega), List.getElem?_eq_getElem _⟩
    have hm9 := List.mem_of_getElem? hq9
    have hL9 := lastRef hprs.len hn0 hq9
    obtain ⟨j9, t9, hj9, hx9⟩ := lastAt (hprs.ia _ _ hq9) (hP.a1 _ (by omega))
    k_dflt (refine kde_neg (newsL (by assumption) (.tail _ (.head _))) (by decide) (by decide) hL9.1 hL9.2 ?_)
  k_with "subscriptTail Name BinOp ref int" =>
    have hpn9 : p ≤ n := by have := I9.c; omega
    have hp0 : 0 < p := by omega
    obtain ⟨⟨a9, vs9, c9⟩, hq9⟩ : ∃ q, prs'[p - 1]? = some q := ⟨prs'[p - 1]'(by rw [hprs'.len]; split <;> omega), List.getElem?_eq_getElem _⟩
    have hm9 := List.mem_of_getElem? hq9
    have hpp : putP P p x (p - 1) = P (p - 1) := by unfold putP; rw [if_neg (by omega)]
    obtain ⟨j9, t9, hj9, hx9⟩ := lastAt (hprs'.ia _ _ hq9) (by rw [hpp]; exact hP.a1 _ (by omega))
    rw [hpp] at hx9
    k_dflt (refine subK (newsL (by assumption) (.tail _ (.tail _ (.head _)))) (by omega) (by omega) (x := .ref a9) (by rw [show ((p : Int) - 1).toNat = p - 1 by omega, List.getElem?_map, hq9]; rfl) ?_)
  k_with "subscriptTail Name Name ref int" =>
    obtain ⟨⟨a9, vs9, c9⟩, hq9⟩ : ∃ q, prs[p]? = some q := ⟨prs[p]'(by rw [hprs.len]; exact hp9), List.getElem?_eq_getElem _⟩
    have hm9 := List.mem_of_getElem? hq9
    have hz9 : vs9.toArray.size ≤ sizeLine := by
      have h1 := (hprs.ia _ _ hq9).length
      have h2 : (P p).length ≤ 6 := Nat.le_trans (hlenP p) (by omega)
      rw [List.size_toArray, h1]; exact Nat.le_trans h2 (by decide)
    k_dflt (refine subK (newsL (by assumption) (.tail _ (.tail _ (.head _)))) (Int.natCast_nonneg _) (by omega) (x := .ref a9) (by rw [Int.toNat_natCast, List.getElem?_map, hq9]; rfl) ?_)
    have N9 := newsSplit N5 hq9
  k_with "subscriptTail Name Name ref int" =>
    k_dflt (refine subK (Kp.list (Fr.keep (by assumption)) hlm) hx6.1 (by omega) hmx ?_)
  k_with "call ref" =>
    k_dflt (refine bisr_ctr (q := fun i => decide ((topsF mk P n).getD i 0 ≤ mk x)) (Rdy.into (by assumption) (by assumption) (by assumption) (by assumption) rfl rfl) (by first | omega | (dsimp only [Around.deeper]; omega)) (newsL (by assumption) (.tail _ (.head _))) htv (by rw [tops_len]; omega) ?hq1 (fun _ => rfl) (ret0Of (by assumption) (by assumption) ?_))
    case hq1 => (have hb9 : b = false := by assumption); subst hb9; rw [tops_len]; exact (hP.mono (mk x)).congr fun i hi => (qF_right i hi).symm
    intro r9 h99 tk99 F9 N9 O9
    obtain ⟨p9, u99, e9, I9⟩ := O9
    subst e9
  k_with "call ref" =>
    k_dflt (refine bisl_ctr (q := fun i => decide ((topsF mk P n).getD i 0 < mk x)) (Rdy.into (by assumption) (by assumption) (by assumption) (by assumption) rfl rfl) (by first | omega | (dsimp only [Around.deeper]; omega)) (newsL (by assumption) (.tail _ (.head _))) htv (by rw [tops_len]; omega) ?hq1 (fun _ => rfl) (ret0Of (by assumption) (by assumption) ?_))
    case hq1 => (have hb9 : b = true := by assumption); subst hb9; rw [tops_len]; exact (hP.mono (mk x)).congr fun i hi => (qF_left i hi).symm
    intro r9 h99 tk99 F9 N9 O9
    obtain ⟨p9, u99, e9, I9⟩ := O9
    subst e9
  k_with "pyIter ref" =>
    k_dflt (refine loopW (h₁ := (P (n - 1)).getLastD 0) R b mk rfl hn0 (by omega) (by assumption) (by assumption) (by assumption) (.head _) (.tail _ (.tail _ (.head _))) (.tail _ (.tail _ (.tail _ (.head _)))) (fun y hy => .tail _ (.tail _ (.tail _ (.tail _ hy)))) rfl (.cons _ _ .nil) (lastD_mem (hP.a1 _ (by omega))) ?_ ?_)
    intro i2 w2 r2 t2 W2 wv2 wc2 I2 h2 tk2 o2 hi2 hwv2 hW2 hr2 hWI hPI2 hAI2 hrI2 F9 N9
    have hw6 := hfull w2 (hP.d1 _ _ hW2.m)
    obtain ⟨tw, hwx⟩ := hwv2.get 0 w2 rfl
    obtain ⟨ta, hax⟩ := hav.get w2.toNat (ah w2) (by unfold ahF; rw [List.getElem?_map, List.getElem?_range (by omega)]; show some (ah ((w2.toNat : Nat) : Int)) = _; rw [Int.toNat_of_nonneg hw6.1])
    rotate_left
    intro w2 r2 W2 wv2 wc2 u2 h2 tk2 hwv2 hW2 hr2 F9 N9
    rotate_left
  k_with "subscriptTail Name Constant ref int" =>
    k_dflt (refine subK (newsL (by assumption) (.tail _ (.head _))) (by decide) (by decide) hwx ?_)
  k_with "subscriptTail Name Subscript ref int" =>
    k_dflt (refine subK (newsL (by assumption) (.tail _ (.tail _ (.tail _ (.head _))))) hw6.1 (by omega) hax ?_)
  k_with "binaryOp Add ref ref" =>
    k_dflt (refine kmk_add_ints (vs := [.int (ah w2) _]) (ns := [ah w2]) (by k_asm) (by k_asm) (newsL (by assumption) (.head _)) (newsL (by assumption) (.tail _ (.tail _ (.head _)))) (.cons _ _ .nil) hwv2 ?_ (by simp only [List.length_cons, List.length_nil, hr2]; exact Nat.le_trans (m := 8) (by omega) (by decide)))
    intro D4 us4 h4 F9 N9 l4 hI4
  refine wpAny_call ?_
  k_dflt (first
  | (refine' enterD ?k1 ?k6 ?k7 ?k8 ?k9 ?kB ?_ ?c2 ?c3 ?c4 ?c5
     (case k1 => assumption)
     (case k6 => k_is)
     (case k7 => k_is)
     (case k8 => omega)
     (case k9 => first | exact BindsTo.of_eq rfl | exact kp_binds (Rdy.K (by assumption)) (fun _ => rfl))
     (case kB => exact locs rfl)
     (case c2 => exact rfl)
     (case c3 => exact rfl)
     (case c4 => exact rfl)
     (case c5 => decide)
     intro _ _ _ _ _ _
     (try dsimp only))
  | (refine' enterC ?k1 ?k6 ?k7 ?k8 ?k9 ?kB ?kD ?_ ?c2 ?c3 ?c4
     (case k1 => assumption)
     (case k6 => k_is)
     (case k7 => k_is)
     (case k8 => omega)
     (case k9 => first | exact BindsTo.of_eq rfl | exact kp_binds (Rdy.K (by assumption)) (fun _ => rfl))
     (case kB => exact rfl)
     (case kD => decide +kernel)
     (case c2 => exact rfl)
     (case c3 => exact rfl)
     (case c4 => exact rfl)
     intro _ _ _ _ Nq Yq _ _ _
     k_cells Yq
     (try simp only [List.cons_append, List.nil_append] at Nq)
     (try dsimp only)))
  k_steps
  · have hb9 : b = true := by assumption
    subst hb9
    rw [tops_len] at I9
    exact Post1.intro (by assumption) (by assumption) (I9.congr qF_left)
  · have hb9 : b = false := by assumption
    subst hb9
    rw [tops_len] at I9
    exact Post1.intro (by assumption) (by assumption) (I9.congr qF_right)
  · exact post2New F5 N5 hD9 (by k_ne) (by k_ne) (by k_ne) (by k_ne) hoff htv hprs (hP.a2 _ (Nat.le_refl _)) (by omega)
  · exact post2Old F5 N5 hq9 hoff htv hprs hp9
  · refine plsEnd F5 N5 hTI hPI hAI htv' hprs' hoff' ?_ hni hlenP hP hx asym hR I9 (fun z h1 h2 => ifN h2 (ifN h1 (ifN h2 rfl)))
    rw [ah_set hp0 hx6]
    exact intsSet _ _ _ hav
  · have hp0 : p = 0 := by omega
    refine plsEnd F9 N9 hTI hPI hAI htv' hprs' hoff' ?_ hni hlenP hP hx asym hR I9 (fun z h1 h2 => ifN h2 (ifN h1 (ifN h2 rfl)))
    rw [hp0, ah_zero]
    exact hav
  · rename_i h9 F9' N9'
    refine TP.next (σ := WayS) (ps := fun c => [(Str.ofString "way", .ref c.W)]) ⟨D4, us4, 0⟩ F9' N9' (fun p hp => ?_) (fun p hp => ?_) (List.forall_mem_cons.mpr ⟨rfl, List.forall_mem_nil _⟩) (fun z h1 h2 _ => ?_) ⟨ah w2, w2 :: r2, hI4, ?_, by rw [List.length_cons, hr2]⟩
    · simp only [List.mem_cons] at hp ⊢
      rcases hp with h | h | h | h | h <;> simp only [h, true_or, or_true]
    · simp only [List.mem_cons] at hp
      rcases hp with rfl | rfl | rfl | hp
      · exact Nat.ne_of_gt (l4 (I2, o2) (.tail _ (.head _)))
      · exact hPI2
      · exact hAI2
      · exact hrI2 p hp
    · have e1 : z ≠ Str.ofString "way" := h2 (Str.ofString "way", _) (.head _)
      exact ifN e1 (ifN h1 (ifN e1 rfl))
    · rw [show n - 1 - i2 = n - 1 - (i2 + 1) + 1 by omega] at hW2
      exact hW2.step hP tr
  · rename_i D9 h9 F9' N9' l9
    refine retEnd (s := s) (tl := (D9, ({ cls := .type "tuple", data := .seq #[.ref ?PL, .ref W2] } : Obj)) :: (W2, listOf wv2.toArray wc2) :: (?PL, listOf (prsRef prs).toArray pc) :: prsLed prs) ret F9' N9' ?sub ⟨D9, ?PL, W2, prs, n, P, ah, wv2, wc2, pc, w2 :: r2, rfl, rfl, hprs, hP, hwv2, hn0, hn6, by rw [List.length_cons, hr2]; omega, hW2.p, hW2.q⟩
    case sub =>
      intro p hp
      rcases List.mem_cons.mp hp with rfl | hp
      · exact .head _
      · rcases List.mem_cons.mp hp with rfl | hp
        · exact .tail _ (.head _)
        · rcases List.mem_cons.mp hp with rfl | hp
          · exact .tail _ (.tail _ (.head _))
          · exact .tail _ (.tail _ (.tail _ (.tail _ hp)))

theorem chain_ctr {lb lc : Addr} {B : Nat → Nat → Bool} {vs : List Value} {ns : List Int} (W : Rdy w mean mg mb (ar dp un gd outer) base outer s.heap) (hd' : dp + 10 < recursionLimit)
   (hl : Mat s.heap lb B) (hc : s.heap.IsList lc vs.toArray) (hi : IntsAre vs ns) (hlen : ns.length ≤ 6) (hin : ∀ x ∈ ns, 0 ≤ x ∧ x < 6)
   (hch : ∀ (i : Nat) x y, ns[i]? = some x → ns[i + 1]? = some y → B x.toNat y.toNat = true)
   (ret : Ret0 s Q (fun r => r = .bool true)) :
   wpAny (model prog w) (ar dp un gd outer) (call (.ref 199) [.ref lb, .ref lc]) Q E s := by
  obtain ⟨rs, hrs, hrl, hrow⟩ := hl
  k_with_none
  w_top off
  k_with "pyIter ref" =>
    k_dflt (refine' loopR (σ := Unit) (n := ((ns.length : Int) - 1).toNat) (fun _ => []) (fun _ => []) [] (fun _ _ => True) () rfl (by assumption) (rngSmall (by decide) (by omega)) (by rw [rngSize, Int.sub_zero]) (by assumption) (by assumption) (fun _ hp => nomatch hp) trivial ?turn ?done)
    case' turn =>
      intro c9 i u I h tk o t hi9 _ hI9 F9 N9
      have hi1 : (0 + (i : Int)).toNat < ns.length := by omega
      have hi2 : (0 + (i : Int) + 1).toNat < ns.length := by omega
      have hb1 := hin _ (getDm hi1)
      have hb2 := hin _ (getDm hi2)
      have hB := hch (0 + (i : Int)).toNat _ _ (getDs hi1) (by rw [show (0 + (i : Int)).toNat + 1 = (0 + (i : Int) + 1).toNat by omega]; exact getDs hi2)
    case' done =>
      intro c9 u h tk _ F9 N9
  k_with "subscriptTail Name Subscript ref int" =>
    k_dflt (first
      | (refine cellK (by assumption) hb2 ?_; rw [hB])
      | (refine rowK (B := B) (Kp.list (Fr.keep F9) hrs) (matKeep (Fr.keep F9) hrow) hb1 ?_; intro ra hra))
  k_with "subscriptTail Name BinOp ref int" =>
    k_dflt (refine cellK (by assumption) hb2 ?_; rw [hB])
  refine wpAny_call ?_
  k_dflt (first
  | (refine' enterD ?k1 ?k6 ?k7 ?k8 ?k9 ?kB ?_ ?c2 ?c3 ?c4 ?c5
     (case k1 => assumption)
     (case k6 => k_is)
     (case k7 => k_is)
     (case k8 => omega)
     (case k9 => first | exact BindsTo.of_eq rfl | exact kp_binds (Rdy.K (by assumption)) (fun _ => rfl))
     (case kB => exact locs rfl)
     (case c2 => exact rfl)
     (case c3 => exact rfl)
     (case c4 => exact rfl)
     (case c5 => decide)
     intro _ _ _ _ _ _
     (try dsimp only))
  | (refine' enterC ?k1 ?k6 ?k7 ?k8 ?k9 ?kB ?kD ?_ ?c2 ?c3 ?c4
     (case k1 => assumption)
     (case k6 => k_is)
     (case k7 => k_is)
     (case k8 => omega)
     (case k9 => first | exact BindsTo.of_eq rfl | exact kp_binds (Rdy.K (by assumption)) (fun _ => rfl))
     (case kB => exact rfl)
     (case kD => decide +kernel)
     (case c2 => exact rfl)
     (case c3 => exact rfl)
     (case c4 => exact rfl)
     intro _ _ _ _ Nq Yq _ _ _
     k_cells Yq
     (try simp only [List.cons_append, List.nil_append] at Nq)
     (try dsimp only)))
  k_steps
  · dsimp only
    exact ret0End (s := s) ret (by assumption) rfl
  · refine TP.next (σ := Unit) (Led := fun _ => []) (ps := fun _ => []) (P := fun _ => True) () F9 N9 (fun p hp => hp) (List.forall_mem_nil _) (List.forall_mem_nil _) (fun z h1 h2 h3 => kOff h1 h2 h3) ?_
    trivial

theorem crowd_ctr {lb lc : Addr} {B : Nat → Nat → Bool} {vs : List Value} {ns : List Int} (W : Rdy w mean mg mb (ar dp un gd outer) base outer s.heap) (hd' : dp + 10 < recursionLimit)
   (hl : Mat s.heap lb B) (hc : s.heap.IsList lc vs.toArray) (hi : IntsAre vs ns) (hlen : ns.length ≤ 6) (hin : ∀ x ∈ ns, 0 ≤ x ∧ x < 6)
   (hch : ∀ x ∈ ns, ∀ y ∈ ns, B x.toNat y.toNat = false)
   (ret : Ret0 s Q (fun r => r = .bool true)) :
   wpAny (model prog w) (ar dp un gd outer) (call (.ref 206) [.ref lb, .ref lc]) Q E s := by
  obtain ⟨rs, hrs, hrl, hrow⟩ := hl
  k_with_none
  w_top off
  k_with "pyIter ref" =>
    (with_reducible show wpAny _ _ (pyIter _) (fun it s₂ => LoopAtV _ _ _ _ _ (Str.ofString "a") _ _ _ it s₂) _ _)
    k_dflt (refine' loopLI (σ := Unit) (x := "a") (fun _ => []) (fun _ => []) ["b"] (fun _ _ => True) () rfl hc hi (by assumption) (by assumption) (fun _ hp => nomatch hp) trivial ?_ ?_)
    intro c9 i xa ta u I h tk o hi9 ma hc9 hI9 F9 N9
    have ma := List.mem_of_getElem? ma
    rotate_left
    intro c9 u h tk _ F9 N9
    rotate_left
  k_with "pyIter ref" =>
    (with_reducible show wpAny _ _ (pyIter _) (fun it s₂ => LoopAtV _ _ _ _ _ (Str.ofString "b") _ _ _ it s₂) _ _)
    k_dflt (refine' loopLI (σ := Unit) (x := "b") (fun _ => [(I, o)]) (fun _ => []) [] (fun _ _ => True) () rfl hc hi (by assumption) (by assumption) (fun _ hp => nomatch hp) trivial ?_ ?_)
    intro c9 i9 xb tb u9 I9 h9 tk9 o9 hi9 mb9 _ hJ9 F9 N9
    have mb9 := List.mem_of_getElem? mb9
    have hB := hch xa ma xb mb9
    rotate_left
    intro c9 u9 h9 tk9 _ F9 N9
    rotate_left
  k_with "subscriptTail Name Name ref int" =>
    k_dflt (first
      | (refine cellK (by assumption) (hin _ mb9) ?_; rw [hB])
      | (refine rowK (B := B) (Kp.list (Fr.keep F9) hrs) (matKeep (Fr.keep F9) hrow) (hin _ ma) ?_; intro ra hra))
  refine wpAny_call ?_
  k_dflt (first
  | (refine' enterD ?k1 ?k6 ?k7 ?k8 ?k9 ?kB ?_ ?c2 ?c3 ?c4 ?c5
     (case k1 => assumption)
     (case k6 => k_is)
     (case k7 => k_is)
     (case k8 => omega)
     (case k9 => first | exact BindsTo.of_eq rfl | exact kp_binds (Rdy.K (by assumption)) (fun _ => rfl))
     (case kB => exact locs rfl)
     (case c2 => exact rfl)
     (case c3 => exact rfl)
     (case c4 => exact rfl)
     (case c5 => decide)
     intro _ _ _ _ _ _
     (try dsimp only))
  | (refine' enterC ?k1 ?k6 ?k7 ?k8 ?k9 ?kB ?kD ?_ ?c2 ?c3 ?c4
     (case k1 => assumption)
     (case k6 => k_is)
     (case k7 => k_is)
     (case k8 => omega)
     (case k9 => first | exact BindsTo.of_eq rfl | exact kp_binds (Rdy.K (by assumption)) (fun _ => rfl))
     (case kB => exact rfl)
     (case kD => decide +kernel)
     (case c2 => exact rfl)
     (case c3 => exact rfl)
     (case c4 => exact rfl)
     intro _ _ _ _ Nq Yq _ _ _
     k_cells Yq
     (try simp only [List.cons_append, List.nil_append] at Nq)
     (try dsimp only)))
  k_steps
  · refine TP.next (σ := Unit) (Led := fun _ => [(I, o)]) (ps := fun _ => []) (P := fun _ => True) () F9 N9 (fun p hp => hp) hJ9 (List.forall_mem_nil _) (fun z h1 h2 h3 => kOff h1 h2 h3) trivial
  · refine TP.next (σ := Unit) (Led := fun _ => []) (ps := fun _ => []) (P := fun _ => True) () F9 N9 (fun p hp => hp) (List.forall_mem_nil _) (List.forall_mem_nil _) (fun z h1 h2 h3 => ?_) trivial
    have hb : z ≠ Str.ofString "b" := by
      intro e
      rw [e] at h3
      revert h3
      decide
    rw [kOff (x := Str.ofString "b") hb (List.forall_mem_nil _) (by rfl)]
    exact kOff h1 h2 h3
  · dsimp only
    exact ret0End (s := s) ret (by assumption) rfl

theorem ws_ctr {env : Env} {h₀ : Heap} {L : Addr} {m : Str → Option Value} {news : List (Addr × Obj)} {tx : Str} {tt : Tok} {pre : List Nat}
   (hk : env.scope.kind = .function) (hf : env.frame = some L) (B : Below (ar dp un gd outer) base outer h₀) (X : (hd.heap_39 w.params).In h₀) (T : Top topProg LS mean mg mb h₀) (F : Fr h₀ L s.heap m) (N : News h₀ L s.heap news)
   (hd' : dp + 10 < recursionLimit) (htx : tx.cps = (pre ++ [120, 9]).toArray) (hpre : ∀ c ∈ pre, c = 32 ∨ c = 9) (hlen : pre.length ≤ 30)
   (ret : ∀ x h' tk' tl, Fr h₀ L h' m → News h₀ L h' (tl ++ news) → (∀ p ∈ tl, ∀ q ∈ news, p.1 ≠ q.1) → (∀ h, (∀ p ∈ tl, h.get? p.1 = some p.2) → LeadAt h x (.str tx tt) (wsRun pre).n (wsRun pre).nt (wsRun pre).cs (wsRun pre).b) → Q (.ref x) { s with heap := h', toks := tk' }) :
   wpAny (model prog w) ((ar dp un gd outer).deeper env) (call (.ref 133) [.str tx tt]) Q E s := by
  k_with_none
  w_top off
  have hasc : tx.cps.all (· < 128) = true := by
    rw [htx, List.all_toArray, List.all_append]
    refine Bool.and_eq_true_iff.mpr ⟨List.all_eq_true.mpr fun c hc => ?_, rfl⟩
    rcases hpre c hc with e | e <;> rw [e] <;> decide
  refine call_cls F X N (by k_is) (by k_is) (by k_is) ?_
  intro x dx h' F' N' l1 l2
  refine enterLess (f := 88) F' N' X T (fun p hp => ⟨Nat.ne_of_lt (Nat.lt_trans (l1 p hp) l2), Nat.ne_of_lt (l1 p hp)⟩) (by k_is) (by k_is) (by first | (show dp + 2 < recursionLimit; omega) | (dsimp only [Around.deeper, Around.under]; omega) | (simp only [Around.deeper, Around.under]; omega)) (by first | exact BindsTo.of_eq rfl | exact kp_binds (X.keeps F'.keep) (fun _ => rfl)) (by exact locs rfl) ?_ rfl rfl rfl (by decide)
  intro g L' h₁ tk₁ kh kg kn F1 N1 X1 T1
  dsimp only
  clear F' N'
  have nxd : (@Ne Nat x dx) := Ne.symm (Nat.ne_of_lt l2)
  have ndx : (@Ne Nat dx x) := Nat.ne_of_lt l2
  k_with "pyIter str" =>
    k_dflt (refine loopWS (x := x) (dx := dx) rfl htx hasc (by assumption) (by assumption) (by k_ne) (by k_ne) (by rfl) (by rfl) (by rfl) (by rfl) ?_)
    intro n b nt cs t1 t2 t3 Ac vs k i cp t u I h tk o hcp hi hS b0 b1 hl hvs hAx hAd hxI hdI hAI F9 N9
  k_steps
  · have e := one_eq (d := 32) (by rfl) (by assumption)
    have q := ws_next hcp hi hS (by rw [e]; decide)
    rw [e] at q
    refine wsEnd (n := n + 1) (b := b + 1) (nt := nt) (cs := cs) (A := Ac) (W := vs) (k := k) (by assumption) (by assumption) hxI hdI hAI ⟨q.1, q.2, hvs, hAx, hAd⟩ (by (simp only [List.mem_cons, true_or, or_true])) (by (simp only [List.mem_cons, true_or, or_true])) (by (simp only [List.mem_cons, true_or, or_true])) (by (simp only [List.mem_cons, true_or, or_true])) rfl rfl rfl rfl (fun z h1 h2 h3 h4 h5 => ?_)
    exact ifN h3 (ifN h2 (ifN h1 (kstWS h2 h3 h4 h5)))
  ·
     rename_i D9 W9 h91 hI9 l9 h92 t9 h93 hi9 hl9 hs9 h94 F94 N94
     have e := one_eq (d := 9) (by rfl) (by assumption)
     refine wsEnd (n := n + 1) (b := 0) (nt := nt + 1) (cs := bump cs b) (A := D9) (k := 0) (by assumption) (by assumption) hxI hdI (Ne.symm (Nat.ne_of_lt l9.2.2.1)) (wsP_tab1 hcp hi hS e (by assumption) hi9 (Ne.symm (Nat.ne_of_lt l9.2.2.2.1)) (Ne.symm (Nat.ne_of_lt l9.2.2.2.2.1))) (by (simp only [List.mem_cons, true_or, or_true])) (by (simp only [List.mem_cons, true_or, or_true])) (by (simp only [List.mem_cons, true_or, or_true])) (by (simp only [List.mem_cons, true_or, or_true])) rfl rfl rfl rfl (fun z h1 h2 h3 h4 h5 => ?_)
     exact ifN h3 (ifN h5 (ifN h4 (ifN h2 (ifN h1 (kstWS h2 h3 h4 h5)))))
  ·
     rename_i hi9 hl9 hs9 h94 F94 N94
     have e := one_eq (d := 9) (by rfl) (by assumption)
     refine wsEnd (n := n + 1) (b := 0) (nt := nt + 1) (cs := bump cs b) (A := Ac) (k := k) (by assumption) (by assumption) hxI hdI hAI (wsP_tab2 hcp hi hS e (by assumption) hi9 hAx hAd) (by (simp only [List.mem_cons, true_or, or_true])) (by (simp only [List.mem_cons, true_or, or_true])) (by (simp only [List.mem_cons, true_or, or_true])) (by (simp only [List.mem_cons, true_or, or_true])) rfl rfl rfl rfl (fun z h1 h2 h3 h4 h5 => ?_)
     exact ifN h3 (ifN h4 (ifN h2 (ifN h1 (kstWS h2 h3 h4 h5))))
  · have e := ws_stop hcp hi hS hpre (one_ne (d := 32) (by rfl) (by assumption)) (one_ne (d := 9) (by rfl) (by assumption))
    dsimp only [TP]
    k_with "call type:tuple" =>
      k_here
      k_dflt (refine kde_tupleOf (items := vs.toArray) (zs := vs) (by k_asm) (by k_asm) (newsL (by assumption) (.tail _ (.tail _ (.tail _ (.head _))))) (by rw [List.size_toArray, hvs.length]; exact Nat.le_trans hl (Nat.le_trans hi (Nat.le_trans hlen (by decide)))) rfl ?_)
      intro D' h' F' N' l1
      (try k_lt l1)
      (try k_sweep)
    k_steps
    obtain ⟨tl, a1, a2, a3, a4⟩ := wsBack (raw := .str tx tt) (n := n) (nt := nt) (cs := cs) (b := b) kh kn (by assumption) (by assumption) hvs (.tail _ (.tail _ (.tail _ (.head _)))) (.tail _ (.tail _ (.tail _ (.tail _ (.head _))))) (.head _) (.tail _ (.head _))
    rw [← e] at ret
    dsimp only [InitBack]
    exact ⟨rfl, ret x _ _ tl a1 a2 a3 a4⟩

theorem row_call {env : Env} {h₀ : Heap} {L TT : Addr} {m : Str → Option Value} {all news : List (Addr × Obj)} {ys : List Value} {k : Nat} {co : Nat → Int × Int × Int} (hk : env.scope.kind = .function) (hf : env.frame = some L) (B : Below (ar dp un gd outer) base outer h₀) (X : (hd.heap_39 w.params).In h₀) (T : Top topProg LS mean mg mb h₀)
   (F : Fr h₀ L s.heap m) (N : News h₀ L s.heap all) (hd' : dp + 80 < recursionLimit) (hb : CoOk co) (m180 : (180, tabObj #[]) ∈ all) (hn : ∀ p ∈ news, p ∈ all) (hne : ∀ q ∈ news, (@Ne Nat q.1 180)) (mT : (TT, listOf ys.toArray k) ∈ news) (ht : ToldAt co 6 ys news)
   (ret : ∀ D vs n ns ps h' tk', Fr h₀ L h' m → News h₀ L h' ((D, listOf vs.toArray n) :: (180, tabObj ps) :: news) → (∀ q ∈ news, (@Ne Nat q.1 D)) → IntsAre vs ns → ns.Perm ((List.range 6).map fun (j : Nat) => (j : Int)) → ns.Pairwise (RC co) → Q (.ref D) { s with heap := h', toks := tk' }) :
   wpAny (model prog w) ((ar dp un gd outer).deeper env) (call (.ref 185) [.ref TT]) Q E s := by
  obtain ⟨g, W, G, kk, ret9⟩ := lessOf (hid := [(180, tabObj #[])]) (news := news) B X T F N (fun p hp => by rw [List.mem_singleton.mp hp]; exact m180) hn (fun p hp q hq => by rw [List.mem_singleton.mp hp]; exact hne q hq) hf hk
  have up : ∀ p ∈ news, g.get? p.1 = some p.2 := fun p hp => kk _ _ (N p (hn p hp)).1 fun q hq => by rw [List.mem_singleton.mp hq]; exact (hne p hp).symm
  refine row_ctr (l := lC co) (v := vC co) W G (by dsimp only [Around.deeper]; omega) ⟨_, up _ mT, rfl, _, rfl⟩ (fun i hi => ?_) (fun i hi => ?_) (ret9 _ _ ?_)
  · obtain ⟨a, t1, t2, e1, e2⟩ := ht.get hi
    exact ⟨a, t1, t2, e1, ⟨_, up _ e2, rfl, _, rfl⟩⟩
  · have b := hb i hi
    unfold lC vC
    omega
  · rintro r h' tk' tl F' N' off ⟨D, vs, n, ns, ps, rfl, rfl, hi, hp, ho⟩
    exact ret D vs n ns ps h' tk' F' N' (fun q hq => (off _ (.head _) q hq).symm) hi hp ho
theorem agrees_ctr {g : Heap} {lf lc : Addr} {p q : Int} {tp tq : Tok} {cv : List Value} {co : Nat → Int × Int × Int} (W : Rdy w mean mg mb (ar dp un gd outer) base outer g) (G : GL g s.heap [(180, tabObj #[])]) (hd' : dp + 90 < recursionLimit)
   (hf : g.IsList lf [.int p tp, .int q tq].toArray) (hp : 0 ≤ p ∧ p ≤ 2) (hq : 0 ≤ q ∧ q ≤ 2) (hc : g.IsList lc cv.toArray) (hcl : cv.length = 6) (hco : ColAt g cv co) (hb : CoOk co) (hh : CoHue co)
   (hun : un + 70 < cLine) (ret : RetG g s Q (fun tl r => r = .bool true ∧ ∃ ps, tl = [(180, tabObj ps)])) :
   wpAny (model prog w) (ar dp un gd outer) (call (.ref 211) [.ref lf, .ref lc]) Q E s := by
  have hsz6 : cv.toArray.size = 6 := by rw [List.size_toArray]; exact hcl
  k_with_none
  w_top off
  k_with "CompSrc" =>
    k_dflt (refine LCg.CompSrc.base (by rfl) (by k_asm) (by k_asm) hc (by rw [hsz6]; decide) ?_; intro g'; refine compInv (ToldJ co _) ToldJ.nil ?_ ?_)
--[turn
    intro i v I2 oI2 C2 oC2 D2 m2 ys nw h2 tk2 E2 hi hv hJ2 hC2 hx2 F9 N9 off9 ne9
    rw [hsz6] at hi
    obtain ⟨ci, t1, t2, t3, hci, hli⟩ := hco i hi
    rw [List.getElem?_toArray, hci] at hv
    have hv := (Option.some.inj hv).symm
    subst hv
    obtain ⟨rest, hnw, hgr, hta⟩ := hJ2
    simp only [List.cons_append, List.nil_append] at hnw
    subst hnw
    have off9 := off9.mem
    rotate_left
--turn]
    intro ys nw hJ2
    rw [hsz6] at hJ2
    obtain ⟨rest, hnw, hgr, hta⟩ := hJ2
    simp only [List.cons_append, List.nil_append] at hnw
    subst hnw
    rotate_left
  k_with "FinA" =>
    (with_reducible show LCg.FinA _ _ _ _ (Str.ofString "told") _ _ _)
    (unfold LCg.FinA)
    intro T h' tk' F9 N9 o9
    have oT := off1_mem o9
    simp only [LCg.Off1] at o9
    (try dsimp only)
  k_with "storeName" =>
    (with_reducible show wpAny _ _ (storeName _ (Str.ofString "leads") _) _ _ _)
    rename_i LL h9 F9 N9 l9
    k_dflt (refine storeX_C F9 N9 rfl (UpdF.tail (by k_ne) (UpdF.tail (by k_ne) (UpdF.tail (by k_ne) (UpdF.tail (by k_ne) (UpdF.head (List.forall_mem_cons.mpr ⟨by k_ne, fun y hy => hgr.off y hy _ (.tail _ (.tail _ (.head _)))⟩)))))) (by assumption) ?_)
    intro h' o' F9 N9 d9
    (try dsimp only at N9)
    have hgr := (hgr.more (d := T) (fun y hy => oT y (.tail _ (.tail _ (.tail _ (.tail _ hy)))))).more (d := LL) (allLt_ne l9.2.2.2.2.2)
  k_with "pyIter ref" =>
    (with_reducible show wpAny _ _ (pyIter _) (fun it s₂ => LoopAtV _ _ _ _ _ (Str.ofString "k") _ _ _ it s₂) _ _)
    k_dflt (refine loopLeads (LL := LL) (lit := [(T, _), (_, _), (_, _), (_, _), (180, _)]) (rest0 := rest) p.toNat q.toNat co rfl (by assumption) (by assumption) (by assumption) (by assumption) ?_ ?_)
--[turn
    intro i vs n rest2 u I h tk o t hi hg2 hla hLI hlI hrI F9 N9
    simp only [List.cons_append, List.nil_append] at N9
    k_dflt (replace F9 : Fr g s.heap.objs.size _ _ := F9)
    k_dflt (replace N9 : News g s.heap.objs.size _ _ := N9)
    obtain ⟨ai, tl1, tl2, hyi, hai⟩ := (hta.up hg2.up).get hi
    rotate_left
--turn]
    intro vs n rest2 u h tk hg2 hla F9 N9
    have hszL : vs.toArray.size = 6 := by rw [List.size_toArray]; exact hla.len
    simp only [List.cons_append, List.nil_append] at N9
    k_dflt (replace F9 : Fr g s.heap.objs.size _ _ := F9)
    k_dflt (replace N9 : News g s.heap.objs.size _ _ := N9)
    rotate_left
  k_with "call ref" =>
    k_dflt (refine told_ctr (a := (co i).1) (sp := (co i).2.1) (h := (co i).2.2) (Rdy.into (by assumption) (by assumption) (by assumption) (by assumption) rfl rfl) (by first | omega | (dsimp only [Around.deeper]; omega)) (Kp.list (Fr.keep F9) hli) (hb i hi).1 (hb i hi).2 (hh i hi) (retOf F9 N9 ?_))
    intro r' h' tk' tl' F9 N9 d' O'
    obtain ⟨D', x', y', ta', tb', e1', e2', e3', e4'⟩ := O'
    subst e1'
    subst e2'
    simp only [List.cons_append, List.nil_append] at N9
  k_with "exec For Name Call cons nil" =>
    k_dflt (refine For_invVF (by assumption) (by exact rfl) (by exact rfl) ?_)
  k_with "subscriptTail Name Name ref int" =>
    k_dflt (refine subK (vs := ys) (newsL (by assumption) (by first | exact .tail _ (.tail _ (.head _)) | exact .tail _ (.tail _ (.tail _ (.head _))))) (by omega) (by omega) (x := .ref ai) (by rw [Int.toNat_natCast]; exact hyi) ?_)
  k_with "subscriptTail Name Constant ref int" =>
    k_dflt (refine subK (vs := [_, _]) (newsL (by assumption) (by repeat (first | exact hai | apply List.Mem.tail))) (by decide) (by decide) rfl ?_)
  k_with "subscriptTail Name Slice ref ref" =>
    k_here
    k_dflt (refine krv_ints (vs := [.int p tp, .int q tq]) (ns := [p, q]) (by k_asm) (by k_asm) (Kp.list (Fr.keep (by assumption)) hf) (IsPart.int _ _) (.cons p tp (.cons q tq .nil)) ?_ (by with_unfolding_all rfl) (by kmk_pure) (by decide))
    intro D' rv h' F' N' l1 hrv hrl
    (try k_lt l1)
    (try k_sweep)
    obtain ⟨u1, u2, hrv⟩ := revTwo hrv
    subst hrv
  k_with "call ref" =>
    k_dflt (first
      | refine text_ctr (p := p) (q := q) (a := (co i).1) (sp := (co i).2.1) (Rdy.into (by assumption) (by assumption) (by assumption) (by assumption) rfl rfl) (by first | omega | (dsimp only [Around.deeper]; omega)) (Kp.list (Fr.keep (by assumption)) hf) hp hq (hb i hi).1 (hb i hi).2 (ret0Of (by assumption) (by assumption) ?_)
      | refine text_ctr (p := q) (q := p) (a := (co i).1) (sp := (co i).2.1) (Rdy.into (by assumption) (by assumption) (by assumption) (by assumption) rfl rfl) (by first | omega | (dsimp only [Around.deeper]; omega)) (newsL (by assumption) (.head _)) hq hp (hb i hi).1 (hb i hi).2 (ret0Of (by assumption) (by assumption) ?_))
    intro r9 h99 tk99 F9 N9 O9
    obtain ⟨t99, e9⟩ := O9
    subst e9
  k_with "call ref" =>
    k_dflt (first
      | ((with_reducible show wpAny _ _ (call _ [.str (leadStr p q _ _) _]) _ _ _)
         refine ws_ctr (pre := leadPre p.toNat q.toNat (co i).1.toNat (co i).2.1.toNat) rfl rfl (by assumption) (by assumption) (by assumption) (by assumption) (by assumption) (by omega) (leadHtx hp hq (hb i hi).1 (hb i hi).2) (leadPre_signs _ _ _ _) (leadLen hp hq (hb i hi).1 (hb i hi).2) ?_
         intro x9 h99 tk99 tl99 F9 N9 o99 L99
         have L99 := fun h' k' => ldOf hp hq hb hi (.inl ⟨rfl, rfl⟩) (L99 h' k'))
      | ((with_reducible show wpAny _ _ (call _ [.str (leadStr q p _ _) _]) _ _ _)
         refine ws_ctr (pre := leadPre q.toNat p.toNat (co i).1.toNat (co i).2.1.toNat) rfl rfl (by assumption) (by assumption) (by assumption) (by assumption) (by assumption) (by omega) (leadHtx hq hp (hb i hi).1 (hb i hi).2) (leadPre_signs _ _ _ _) (leadLen hq hp (hb i hi).1 (hb i hi).2) ?_
         intro x9 h99 tk99 tl99 F9 N9 o99 L99
         have L99 := fun h' k' => ldOf hp hq hb hi (.inr ⟨rfl, rfl⟩) (L99 h' k')))
    first
      | (have N9 := reordO N9; have o99 := offO o99)
      | (have N9 := reordE N9; have o99 := offE o99)
  k_with "call builtin:list.append" =>
    k_dflt (refine append_K F9 N9 (Upd.tail hLI.symm (Upd.head (List.forall_mem_cons.mpr ⟨by k_ne, List.forall_mem_cons.mpr ⟨by k_ne, List.forall_mem_cons.mpr ⟨by k_ne, List.forall_mem_cons.mpr ⟨by k_ne, List.forall_mem_cons.mpr ⟨by k_ne, (fun y hy => (List.mem_append.mp hy).elim (fun z => o99 y z _ (.tail _ (.head _))) (fun z => hg2.off y z _ (.head _)))⟩⟩⟩⟩⟩))) ?_ (by rw [List.size_toArray, hla.len]; exact Nat.le_trans (Nat.le_of_lt hi) (by decide)))
    intro h5 F5 N5
    rw [List.push_toArray] at N5
  k_with "exec Assign cons ListComp" =>
    (with_reducible show wpAny _ _ (exec (.Assign [.Name (Str.ofString "below") _] _ _) _) _ _ _)
    k_dflt (refine Assign_ListComp_C (F₀ := by k_asm) (by rfl) (by with_unfolding_all rfl) (by with_unfolding_all rfl) (fun _ => by rfl) (fun _ => by rfl) (by rfl) (by decide) (fun _ _ => by rfl) (by rfl) (by rfl) ?_)
  k_with "CompSrcCA" =>
    k_dflt (refine CompSrcCA.ledger (BelowJ [(LL, _), (T, _), (_, _), (_, _), (_, _), (180, _)] rest2 (tabB co)) (by rfl) F9 N9 (.head _) (by rw [hszL]; decide) (BelowJ.nil hg2.base) (fun _ => ?_) ?_)
--[turn
    intro i v I2 C2 c2 D2 oI2 oC2 oc2 ys2 nw h2 tk2 E2 hi hv hJ hS hd2 F9 N9 off9 ne9
    rw [hszL] at hi
    obtain ⟨r2, hnw, hg3, hrl, hrow⟩ := hJ
    simp only [List.cons_append, List.nil_append] at hnw
    subst hnw
    obtain ⟨xi, hxi, hli⟩ := hla.get hi
    rw [List.getElem?_toArray, hxi] at hv
    have hv := (Option.some.inj hv).symm
    subst hv
    rotate_left
--turn]
    intro BL h2 tk2 rows nw hJ F9 N9 off9
    rw [hszL] at hJ
    obtain ⟨r2, hnw, hg3, hrl, hrow⟩ := hJ
    simp only [List.cons_append, List.nil_append] at hnw
    subst hnw
    k_dflt (have nB180 : (@Ne Nat 180 BL) := off9 (180, tabObj #[]) (.tail _ (.tail _ (.tail _ (.tail _ (.tail _ (.head _)))))))
    k_dflt (have nB3 : (@Ne Nat (s.heap.objs.size + 1 + 1 + 1) BL) := off9 (s.heap.objs.size + 1 + 1 + 1, oc3) (.tail _ (.tail _ (.head _))))
    k_dflt (have nB2 : (@Ne Nat (s.heap.objs.size + 1 + 1) BL) := off9 (s.heap.objs.size + 1 + 1, oc2) (.tail _ (.tail _ (.tail _ (.head _)))))
    k_dflt (have nBr : ∀ y ∈ r2, (@Ne Nat y.1 BL) := fun y hy => off9 y (.tail _ (.tail _ (.tail _ (.tail _ (.tail _ (.tail _ hy)))))))
    rotate_left
  k_with "CompSrc" =>
    k_dflt (refine LCg.CompSrc.ledger (by rfl) F9 N9 (.tail _ (.tail _ (.tail _ (.tail _ (.head _))))) (by rw [hszL]; decide) ?_; intro g'; refine compInvP (fun j ys => ys = boolRow (tabB co) i j) rfl ?_ ?_)
    intro j v3 I3 oI3 C3 oC3 D3 m3 zs h3 tk3 E3 hj hv3 hJ3 hC3 hx3 F9 N9 off3 ne3
    rw [hszL] at hj
    obtain ⟨xj, hxj, hlj⟩ := hla.get hj
    rw [List.getElem?_toArray, hxj] at hv3
    have hv3 := (Option.some.inj hv3).symm
    subst hv3
    subst hJ3
    obtain ⟨raw1, hL1⟩ := hli h3 (fun y hy => (N9 y (by repeat (first | exact hg3.up y hy | apply List.Mem.tail))).1)
    obtain ⟨raw2, hL2⟩ := hlj h3 (fun y hy => (N9 y (by repeat (first | exact hg3.up y hy | apply List.Mem.tail))).1)
    obtain ⟨dx, tn, t1, t2, hr, hn, hnt, hno, hsi, k1, k2, k3, k4, k5, hI⟩ := leadInst hL1
    rotate_left
    intro zs hJ3
    rw [hszL] at hJ3
    subst hJ3
    rotate_left
  k_with "eval ListComp Call cons" =>
    k_dflt (refine LCg.ListComp_U (F₀ := by k_asm) (by with_unfolding_all rfl) (by decide) (by rfl) (by decide) (by rfl) ?_)
  k_with "getMethod ref" =>
    k_here
    k_dflt (refine method_inst (by k_asm) (by k_asm) hI (by k_is) (by k_is) (by k_is) (by k_get) ?_)
  k_with "call ref" =>
    k_dflt (refine less_ctr (x1 := xi) (x2 := xj) (Rdy.into (by assumption) (by assumption) (by assumption) (by assumption) rfl rfl) (by first | omega | (dsimp only [Around.deeper]; omega)) hL1 hL2 (ldB hb hi hp hq).1 (ldB hb hj hp hq).1 (ldB hb hi hp hq).2.1 (ldB hb hj hp hq).2.1 (ldB hb hi hp hq).2.2.1 (ldB hb hj hp hq).2.2.1 (ldB hb hi hp hq).2.2.2 (ldB hb hj hp hq).2.2.2 (ret0Of F9 N9 ?_))
    intro r9 h99 tk99 F9 N9 O9
    obtain ⟨v9, e9, hv9⟩ := O9
    subst e9
    have hv9 := lessTab hb hi hj hv9
    subst hv9
  k_with "call ref" =>
    k_dflt (refine table_ctr (Rdy.into (by assumption) (by assumption) (by assumption) (by assumption) rfl rfl) (by first | omega | (dsimp only [Around.deeper]; omega)) (Kp.list (Fr.keep F9) hc) hcl (hco.keeps (Fr.keep F9)) hb (retOf F9 N9 ?_))
    intro r' h' tk' tl' F9 N9 d' O'
    obtain ⟨T2, rows2, rest3, k3, e1', e2', hrl2, hrow2⟩ := O'
    subst e1'
    subst e2'
    simp only [List.cons_append, List.nil_append] at N9
    clear d'
  k_with "compareOp NotEq ref ref" =>
    k_dflt (refine matNe N9 (.tail _ (List.mem_append_right _ (.head _))) (.head _) ⟨hrl, fun i hi => let ⟨a, n, e, m⟩ := hrow i hi; ⟨a, n, e, .tail _ (List.mem_append_right _ (by repeat (first | exact m | apply List.Mem.tail)))⟩⟩ ⟨hrl2, fun i hi => let ⟨a, n, e, m⟩ := hrow2 i hi; ⟨a, n, e, .tail _ (List.mem_append_left _ m)⟩⟩ (show un + 3 + 64 < cLine by omega) ?_)
  k_with "call ref" =>
    k_dflt (refine row_call (co := co) (news := (BL, LCg.lst rows) :: (LL, listOf vs.toArray n) :: (T, LCg.lst ys) :: (s.heap.objs.size + 1 + 1 + 1, oc3) :: (s.heap.objs.size + 1 + 1, oc2) :: (s.heap.objs.size + 1, o') :: r2) rfl rfl (by assumption) (by assumption) (by assumption) F9 N9 (by omega) hb (.tail _ (List.mem_append_right _ (.tail _ (.tail _ (.tail _ (.tail _ (.tail _ (.tail _ (.head _))))))))) (fun p hp => .tail _ (List.mem_append_right _ (by simp only [List.mem_cons] at hp ⊢; rcases hp with h | h | h | h | h | h | h <;> simp only [h, true_or, or_true]))) (List.forall_mem_cons.mpr ⟨by k_ne, List.forall_mem_cons.mpr ⟨by k_ne, List.forall_mem_cons.mpr ⟨by k_ne, List.forall_mem_cons.mpr ⟨by k_ne, List.forall_mem_cons.mpr ⟨by k_ne, List.forall_mem_cons.mpr ⟨by k_ne, fun y hy => hg3.off y hy _ (.tail _ (.tail _ (.tail _ (.tail _ (.tail _ (.head _))))))⟩⟩⟩⟩⟩⟩) (.tail _ (.tail _ (.head _))) (hta.up (fun y hy => .tail _ (.tail _ (.tail _ (.tail _ (.tail _ (.tail _ (hg3.up y (hg2.up y hy))))))))) ?_)
    intro RW rvs rn rns ps9 h9 tk9 F9 N9 oR hrvs hrp hro
    k_dflt (have nRB : (@Ne Nat BL RW) := oR _ (.head _))
    k_dflt (have hg3 := (hg3.less (as' := [LL, T, s.heap.objs.size + 1 + 1 + 1, s.heap.objs.size + 1 + 1, s.heap.objs.size + 1]) (fun a ha => by simp only [List.map_cons, List.map_nil, List.mem_cons, List.not_mem_nil, or_false] at ha ⊢; rcases ha with h | h | h | h | h <;> simp only [h, true_or, or_true])).cons (d := 180) (o := tabObj ps9) (List.forall_mem_cons.mpr ⟨by k_ne, List.forall_mem_cons.mpr ⟨by k_ne, List.forall_mem_cons.mpr ⟨by k_ne, List.forall_mem_cons.mpr ⟨by k_ne, List.forall_mem_cons.mpr ⟨by k_ne, List.forall_mem_nil _⟩⟩⟩⟩⟩))
    have hrow := tailRows (z := (180, tabObj ps9)) hrow
    have N9 := reordR N9
    obtain ⟨r2, er2⟩ : ∃ r, r = (180, tabObj ps9) :: r2 := ⟨_, rfl⟩
    rw [← er2] at N9 hg3 hrow
    have hm180 : (180, tabObj ps9) ∈ r2 := by rw [er2]; exact .head _
  k_with "CompSrc" =>
    (have hRW9 := nRB)
    (rename Fr _ _ _ _ => F9)
    (rename News _ _ _ _ => N9)
    k_dflt (refine LCg.CompSrc.ledger (by rfl) F9 N9 (.tail _ (.tail _ (.head _))) (by rw [hszL]; decide) ?_; intro g'; refine compInvP (fun j ys => IntsAre ys ((List.range j).map fun (k : Nat) => mkC co (k : Int))) .nil ?_ ?_)
--[turn
    intro j v3 I3 oI3 C3 oC3 D3 m3 zs h3 tk3 E3 hj hv3 hJ3 hC3 hx3 F9 N9 off3 ne3
    rw [hszL] at hj
    obtain ⟨xj, hxj, hlj⟩ := hla.get hj
    rw [List.getElem?_toArray, hxj] at hv3
    have hv3 := (Option.some.inj hv3).symm
    subst hv3
    obtain ⟨raw1, hL1⟩ := hlj h3 (fun y hy => (N9 y (by repeat (first | exact hg3.up y hy | apply List.Mem.tail))).1)
    obtain ⟨dx, tn, t1, t2, hr, hn, hnt, hno, hsi, k1, k2, k3, k4, k5, hI⟩ := leadInst hL1
    rotate_left
--turn]
    intro lvs hlvs
    rw [hszL] at hlvs
    have hszV : lvs.toArray.size = 6 := by rw [List.size_toArray, hlvs.length]; rfl
    rotate_left
  k_with "call ref" =>
    k_dflt (refine ind_ctr (x := xj) (ts := 32) (Rdy.into (by assumption) (by assumption) (by assumption) (by assumption) rfl rfl) (by first | omega | (dsimp only [Around.deeper]; omega)) hL1 (ldB hb hj hp hq).1 (by decide) (ldB hb hj hp hq).2.1 (ldB hb hj hp hq).2.2.1 (ret0Of F9 N9 ?_))
    intro r9 h99 tk99 F9 N9 O9
    obtain ⟨t9, e9⟩ := O9
    subst e9
  k_with "FinA" =>
    (with_reducible show LCg.FinA _ _ _ _ (Str.ofString "levels") _ _ _)
    (unfold LCg.FinA)
    intro LV h' tk' F9 N9 o9
    have oL := off1_mem o9
    (try dsimp only)
  k_with "call ref" =>
    (rename Fr _ _ _ _ => F9)
    (rename News _ _ _ _ => N9)
    k_dflt (refine piles_ctr (b := true) (R := RC co) (mk := mkC co) (full := rns) (ms := (List.range 6).map fun (k : Nat) => mkC co (k : Int)) (Rdy.into (by assumption) (by assumption) (by assumption) (by assumption) rfl rfl) (by first | omega | (dsimp only [Around.deeper]; omega)) (newsL N9 (.tail _ (.head _))) hrvs (newsL N9 (.head _)) hlvs (fun j hj => msAt (f := mkC co) hj) (fun x hx => ((permIn hrp).1 x).mp hx) (permIn hrp).2 hro RC_asym RC_trans (retOf F9 N9 ?_))
    intro r' h' tk' tl' F9 N9 d' O'
    obtain ⟨D1, P1, Y1, prs1, n1, Pf1, ah1, wv1, wc1, pc1, way1, e1', e2', hprs1, hP1, hwv1, hn1, hn16, hway1, hwp1, hwm1⟩ := O'
    subst e1'
    subst e2'
    k_dflt (have o1 := fun y hy => (⟨d' y hy _ (.tail _ (.tail _ (.tail _ (.tail _ (.tail _ (.head _)))))), d' y hy _ (.tail _ (.tail _ (.tail _ (.tail _ (.tail _ (.tail _ (.head _))))))) ⟩ : (@Ne Nat y.1 (s.heap.objs.size + 1 + 1 + 1)) ∧ (@Ne Nat y.1 (s.heap.objs.size + 1 + 1))))
    clear d'
    k_dflt (replace N9 := reordP1 N9)
  k_with "CompSrc" =>
    (rename Fr _ _ _ _ => F9)
    (rename News _ _ _ _ => N9)
    (have hx9 := o1)
    k_dflt (refine LCg.CompSrc.ledger (by rfl) F9 N9 (.tail _ (.tail _ (.tail _ (.head _)))) (by rw [hszV]; decide) ?_; intro g'; refine compInvP (fun j ys => IntsAre ys ((List.range j).map fun (k : Nat) => -mkC co (k : Int))) .nil ?_ ?_)
    clear hx9
--[turn
    intro j v3 I3 oI3 C3 oC3 D3 m3 zs h3 tk3 E3 hj hv3 hJ3 hC3 hx3 F9 N9 off3 ne3
    rw [hszV] at hj
    obtain ⟨t3, hv3⟩ := rangeItem hlvs hj hv3
    subst hv3
    rotate_left
--turn]
    intro nvs hnvs
    rw [hszV] at hnvs
    rotate_left
  k_with "call ref" =>
    (rename Fr _ _ _ _ => F9)
    (rename News _ _ _ _ => N9)
    k_dflt (refine piles_ctr (b := false) (R := RC co) (mk := fun k => -mkC co k) (full := rns) (ms := (List.range 6).map fun (k : Nat) => -mkC co (k : Int)) (Rdy.into (by assumption) (by assumption) (by assumption) (by assumption) rfl rfl) (by first | omega | (dsimp only [Around.deeper]; omega)) (newsL N9 (.tail _ (.tail _ (.tail _ (.tail _ (.tail _ (.head _))))))) hrvs (newsL N9 (.head _)) hnvs (fun j hj => msAt (f := fun k => -mkC co k) hj) (fun x hx => ((permIn hrp).1 x).mp hx) (permIn hrp).2 hro RC_asym RC_trans (retOf F9 N9 ?_))
    intro r' h' tk' tl' F9 N9 d' O'
    obtain ⟨D2, P2, Y2, prs2, n2, Pf2, ah2, wv2, wc2, pc2, way2, e1', e2', hprs2, hP2, hwv2, hn2, hn26, hway2, hwp2, hwm2⟩ := O'
    subst e1'
    subst e2'
    k_dflt (have o2 := fun y hy => (⟨d' y hy _ (.tail _ (.tail _ (.tail _ (.tail _ (.tail _ (.tail _ (.tail _ (.head _)))))))), d' y hy _ (.tail _ (.tail _ (.tail _ (.tail _ (.tail _ (.tail _ (.tail _ (.tail _ (.head _))))))))) ⟩ : (@Ne Nat y.1 (s.heap.objs.size + 1 + 1 + 1)) ∧ (@Ne Nat y.1 (s.heap.objs.size + 1 + 1))))
    clear d'
    k_dflt (replace N9 := reordP2 N9)
    k_dflt (have hrow4 : ∀ i, i < 6 → ∃ (a : Addr) (n : Nat), rows[i]? = some (.ref a) ∧ (a, listOf (boolRow (tabB co) i 6).toArray n) ∈ prsLed prs2 ++ (prsLed prs1 ++ r2) := fun i hi => let ⟨a, n, e, m⟩ := hrow i hi; ⟨a, n, e, List.mem_append_right _ (List.mem_append_right _ m)⟩)
    k_dflt (have o4 : ∀ y ∈ prsLed prs2 ++ (prsLed prs1 ++ r2), (@Ne Nat y.1 (s.heap.objs.size + 1 + 1 + 1)) ∧ (@Ne Nat y.1 (s.heap.objs.size + 1 + 1)) := fun y hy => (List.mem_append.mp hy).elim (fun z => o2 y (.tail _ (.tail _ (.tail _ z)))) fun z => (List.mem_append.mp z).elim (fun z => o1 y (.tail _ (.tail _ (.tail _ z)))) fun z => ⟨hg3.off y z _ (.tail _ (.tail _ (.head _))), hg3.off y z _ (.tail _ (.tail _ (.tail _ (.head _))))⟩)
  k_with "call ref" =>
    (rename Fr _ _ _ _ => F9)
    (rename News _ _ _ _ => N9)
    k_dflt (refine heights_ctr (B := tabB co) (Rdy.into (by assumption) (by assumption) (by assumption) (by assumption) rfl rfl) (by first | omega | (dsimp only [Around.deeper]; omega)) (matOf N9 (.tail _ (.tail _ (.tail _ (.tail _ (.tail _ (.head _)))))) ⟨hrl, fun i hi => let ⟨a, n, e, m⟩ := hrow4 i hi; ⟨a, n, e, (by repeat (first | exact m | apply List.Mem.tail))⟩⟩) (retOf F9 N9 ?_))
    intro r' h' tk' tl' F9 N9 d' O'
    obtain ⟨HT, hvs, hk9, e1', e2', hhv⟩ := O'
    subst e1'
    subst e2'
    k_dflt (have oH : (@Ne Nat HT (s.heap.objs.size + 1 + 1 + 1)) ∧ (@Ne Nat HT (s.heap.objs.size + 1 + 1)) := ⟨d' _ (.head _) _ (.tail _ (.tail _ (.tail _ (.tail _ (.tail _ (.tail _ (.head _))))))), d' _ (.head _) _ (.tail _ (.tail _ (.tail _ (.tail _ (.tail _ (.tail _ (.tail _ (.head _))))))))⟩)
    clear d'
    k_dflt (replace N9 := dropTwo N9)
  k_with "storeName" =>
    (with_reducible show wpAny _ _ (storeName _ (Str.ofString "heights") _) _ _ _)
    (rename Fr _ _ _ _ => F9)
    (rename News _ _ _ _ => N9)
    k_dflt (refine storeX_C F9 N9 rfl (UpdF.tail oH.2 (UpdF.tail (o2 _ (.tail _ (.head _))).2 (UpdF.tail (o2 _ (.tail _ (.tail _ (.head _)))).2 (UpdF.tail (o1 _ (.tail _ (.head _))).2 (UpdF.tail (o1 _ (.tail _ (.tail _ (.head _)))).2 (UpdF.tail (neSym nB2) (UpdF.tail (by k_ne) (UpdF.head (fun y hy => (o4 y hy).2))))))))) dc2 ?_)
    intro h' oh9 F9 N9 dh9
    (try dsimp only at N9)
  k_with "exec For Name Call cons nil" =>
    (with_reducible show wpAny _ _ (exec (.For (.Name (Str.ofString "p") _) _ _ _ _) _) _ _ _)
    k_dflt (refine wpAny_For ?_)
  k_with "call builtin:len" =>
    (rename News _ _ _ _ => N9)
    k_dflt (refine lenL (n := n1) (newsL N9 (.tail _ (.tail _ (.tail _ (.tail _ (.head _)))))) (by rw [List.length_map, hprs1.len]) (Nat.le_trans hn16 (by decide)) ?_)
  k_with "pyIter ref" =>
    (rename Fr _ _ _ _ => F9)
    (rename News _ _ _ _ => N9)
    k_dflt (refine loopCellR (cc := s.heap.objs.size + 1 + 1 + 1) (n := n1) rfl rfl rfl rfl (by assumption) (rngSmall (by decide) (by omega)) F9 (reordC N9) dc3 (List.forall_mem_cons.mpr ⟨oH.1, List.forall_mem_cons.mpr ⟨(o2 _ (.tail _ (.head _))).1, List.forall_mem_cons.mpr ⟨(o2 _ (.tail _ (.tail _ (.head _)))).1, List.forall_mem_cons.mpr ⟨(o1 _ (.tail _ (.head _))).1, List.forall_mem_cons.mpr ⟨(o1 _ (.tail _ (.tail _ (.head _)))).1, List.forall_mem_cons.mpr ⟨neSym nB3, List.forall_mem_cons.mpr ⟨by k_ne, fun y hy => (o4 y hy).1⟩⟩⟩⟩⟩⟩⟩) ?_ ?_)
--[turn
    intro i I h tk o oc t hi hoff hdc hIc F9 N9
    k_dflt (replace F9 : Fr g s.heap.objs.size _ _ := F9)
    k_dflt (replace N9 : News g s.heap.objs.size _ _ := N9)
    obtain ⟨⟨a9, vs9, c9⟩, hq9⟩ : ∃ q, prs1[i]? = some q := ⟨prs1[i]'(by rw [hprs1.len]; exact hi), List.getElem?_eq_getElem _⟩
    have hin9 := hprs1.ia i _ hq9
    have hlen9 : (Pf1 i).length ≤ 6 := nodup_len (nodup_of RC_asym ((hP1.c i).imp fun q => q.1)) fun x hx => ((permIn hrp).1 x).mp (hP1.d1 i x hx)
    have hm9 := List.mem_map_of_mem (f := fun q : Addr × List Value × Nat => (q.1, listOf q.2.1.toArray q.2.2)) (List.mem_of_getElem? hq9)
    rotate_left
--turn]
    intro oc v h tk F9 N9 hdc
    k_dflt (replace F9 : Fr g s.heap.objs.size _ _ := F9)
    k_dflt (replace N9 : News g s.heap.objs.size _ _ := N9)
    rotate_left
  k_with "subscriptTail Name Name ref int" =>
    (rename News _ _ _ _ => N9)
    k_dflt (first
      | refine subK (vs := prsRef prs1) (newsL N9 (.tail _ (.tail _ (.tail _ (.tail _ (.tail _ (.tail _ (.head _)))))))) (Int.natCast_nonneg _) (by omega) (x := .ref a9) (by rw [Int.toNat_natCast, List.getElem?_map, hq9]; rfl) ?_
      | refine subK (vs := hvs) (newsL N9 (.tail _ (.tail _ (.tail _ (.tail _ (.tail _ (.head _))))))) hx6.1 (by omega) hth ?_)
  k_with "eval ListComp Name cons" =>
    k_dflt (refine LCt.ListComp_T (F₀ := by k_asm) (by with_unfolding_all rfl) (by decide) (by rfl) (by decide) (by rfl) ?_)
  k_with "CompSrcT" =>
    (rename Fr _ _ _ _ => F9)
    (rename News _ _ _ _ => N9)
    k_dflt (refine LCt.CompSrcT.ledger (by rfl) F9 N9 (.tail _ (.tail _ (.tail _ (.tail _ (.tail _ (.tail _ (.tail _ (.tail _ (.tail _ (List.mem_append_right _ (List.mem_append_left _ hm9))))))))))) (by rw [List.size_toArray, hin9.length]; exact Nat.le_trans hlen9 (by decide)) ?_; intro g'; refine compInvTP (fun _ ys => ys = []) rfl ?_ ?_)
    intro j v3 I3 oI3 C3 oC3 D3 m3 zs h3 tk3 E3 hj hv3 hJ3 hC3 hx3 F9 N9 off3 ne3
    obtain ⟨x9, t9, ev9, hx9⟩ := intsItem hin9 hv3
    subst ev9
    subst hJ3
    have hxm := List.mem_of_getElem? hx9
    have hx6 := ((permIn hrp).1 x9).mp (hP1.d1 i x9 hxm)
    obtain ⟨th, hth⟩ := hgtAt hb hP1 (permIn hrp).1 hhv hi hn16 hxm
    rotate_left
    intro zs hJ3
    subst hJ3
    rotate_left
  k_with "compareOp NotEq ref ref" =>
    (rename Fr _ _ _ _ => F9)
    (rename News _ _ _ _ => N9)
    k_dflt (refine ke_ne_ints (xs := []) (ys := []) (ns := []) (ms := []) (newsL N9 (.tail _ (.head _))) (newsL N9 (.head _)) .nil .nil (show un + 3 + 64 < cLine by omega) ?_)
  k_with "exec For Name BinOp cons nil" =>
    k_dflt (refine For_invVF (by assumption) (by exact rfl) (by exact rfl) ?_)
  k_with "binaryOp Add ref ref" =>
    (rename Fr _ _ _ _ => F9)
    (rename News _ _ _ _ => N9)
    k_dflt (first
      | refine kmk_add_lit (its := (prsRef prs2).toArray) (its2 := #[.ref Y1]) (zs := prsRef prs2 ++ [.ref Y1]) F9 N9 (newsL N9 (.tail _ (.tail _ (.tail _ (.tail _ (.head _)))))) (newsL N9 (.head _)) (by rfl) ?_ (by show (prsRef prs2).length + 1 ≤ sizeLine; rw [List.length_map, hprs2.len]; exact Nat.le_trans (m := 7) (by omega) (by decide))
      | refine kmk_add_lit (its := (prsRef prs1).toArray) (its2 := #[.ref Y2]) (zs := prsRef prs1 ++ [.ref Y2]) F9 N9 (newsL N9 (.tail _ (.tail _ (.tail _ (.tail _ (.tail _ (.tail _ (.head _)))))))) (newsL N9 (.head _)) (by rfl) ?_ (by show (prsRef prs1).length + 1 ≤ sizeLine; rw [List.length_map, hprs1.len]; exact Nat.le_trans (m := 7) (by omega) (by decide)))
    intro D9 h9 F9 N9 l9
    k_dflt (replace N9 := dropTwo N9)
  k_with "pyIter ref" =>
    (rename Fr _ _ _ _ => F9)
    (rename News _ _ _ _ => N9)
    k_dflt (refine loopNc (cc := 0) rfl F9 N9 ?_ ?_)
--[turn
    intro i v I h tk o hi hv hI F9 N9
    k_dflt (replace F9 : Fr g s.heap.objs.size _ _ := F9)
    k_dflt (replace N9 : News g s.heap.objs.size _ _ := N9)
    rw [List.getElem?_toArray] at hv
    k_dflt (have hit := itemsOkN N9 (chainsOk hb hP2 hprs2 (permIn hrp).1) (fun y hy => (.tail _ (.tail _ (.tail _ (.tail _ (.tail _ (.tail _ (.tail _ (.tail _ (.tail _ (.tail _ (List.mem_append_left _ hy)))))))))))) (.tail _ (.tail _ (.tail _ (.tail _ (.tail _ (.tail _ (.head _))))))) hwv1 (by omega) (wayIn hP1 (permIn hrp).1 hwm1) (chainOk hb (wayIn hP1 (permIn hrp).1 hwm1) hwp1) v (List.mem_of_getElem? hv))
    obtain ⟨a9, vs9, c9', ns9, hv9, hm9, hi9, hl9, hin9, hG9⟩ := hit
    subst hv9
    rotate_left
--turn]
    intro u h tk F9 N9
    k_dflt (replace F9 : Fr g s.heap.objs.size _ _ := F9)
    k_dflt (replace N9 : News g s.heap.objs.size _ _ := N9)
    rotate_left
  k_with "pyIter ref" =>
    (rename Fr _ _ _ _ => F9)
    (rename News _ _ _ _ => N9)
    k_dflt (refine loopNc (cc := 0) rfl F9 N9 ?_ ?_)
--[turn
    intro i v I h tk o hi hv hI F9 N9
    k_dflt (replace F9 : Fr g s.heap.objs.size _ _ := F9)
    k_dflt (replace N9 : News g s.heap.objs.size _ _ := N9)
    rw [List.getElem?_toArray] at hv
    k_dflt (have hit := itemsOkN N9 (crowdsOk hb hP1 hprs1 (permIn hrp).1) (fun y hy => (.tail _ (.tail _ (.tail _ (.tail _ (.tail _ (.tail _ (.tail _ (.tail _ (.tail _ (.tail _ (List.mem_append_right _ (List.mem_append_left _ hy))))))))))))) (.tail _ (.tail _ (.tail _ (.tail _ (.head _))))) hwv2 (by omega) (wayIn hP2 (permIn hrp).1 hwm2) (crowdOk2 hb (wayIn hP2 (permIn hrp).1 hwm2) hwp2) v (List.mem_of_getElem? hv))
    obtain ⟨a9, vs9, c9', ns9, hv9, hm9, hi9, hl9, hin9, hG9⟩ := hit
    subst hv9
    rotate_left
--turn]
    intro u h tk F9 N9
    k_dflt (replace F9 : Fr g s.heap.objs.size _ _ := F9)
    k_dflt (replace N9 : News g s.heap.objs.size _ _ := N9)
    rotate_left
  k_with "call ref" =>
    (rename Fr _ _ _ _ => F9)
    (rename News _ _ _ _ => N9)
    k_dflt (refine chain_ctr (B := tabB co) (vs := vs9) (ns := ns9) (Rdy.into (by assumption) (by assumption) (by assumption) (by assumption) rfl rfl) (by first | omega | (dsimp only [Around.deeper]; omega)) (matOf N9 (.tail _ (.tail _ (.tail _ (.tail _ (.tail _ (.tail _ (.tail _ (.tail _ (.head _))))))))) ⟨hrl, fun i hi => let ⟨a, n, e, m⟩ := hrow4 i hi; ⟨a, n, e, (by repeat (first | exact m | apply List.Mem.tail))⟩⟩) (newsL N9 hm9) hi9 hl9 hin9 hG9 (ret0Of F9 N9 ?_))
    intro r9 h99 tk99 F9 N9 e9
    subst e9
  k_with "call ref" =>
    (rename Fr _ _ _ _ => F9)
    (rename News _ _ _ _ => N9)
    k_dflt (refine crowd_ctr (B := tabB co) (vs := vs9) (ns := ns9) (Rdy.into (by assumption) (by assumption) (by assumption) (by assumption) rfl rfl) (by first | omega | (dsimp only [Around.deeper]; omega)) (matOf N9 (.tail _ (.tail _ (.tail _ (.tail _ (.tail _ (.tail _ (.tail _ (.tail _ (.head _))))))))) ⟨hrl, fun i hi => let ⟨a, n, e, m⟩ := hrow4 i hi; ⟨a, n, e, (by repeat (first | exact m | apply List.Mem.tail))⟩⟩) (newsL N9 hm9) hi9 hl9 hin9 hG9 (ret0Of F9 N9 ?_))
    intro r9 h99 tk99 F9 N9 e9
    subst e9
  k_with "FinE" =>
    (unfold LCg.FinE)
    intro D8 h8 tk8 F9 N9 o8
    have o8 := off1_mem o8
    (try simp only [List.nil_append, List.cons_append] at N9)
    (try dsimp only)
  refine wpAny_call ?_
  k_dflt (first
  | (refine' enterDg ?k1 ?kG ?k6 ?k7 ?k8 ?k9 ?kB ?_ ?c2 ?c3 ?c4 ?c5
     (case k1 => assumption)
     (case kG => assumption)
     (case k6 => k_is)
     (case k7 => k_is)
     (case k8 => omega)
     (case k9 => first | exact BindsTo.of_eq rfl | exact kp_binds (Frag.In.keeps (Rdy.K (by assumption)) (GL.k (by assumption))) (fun _ => rfl))
     (case kB => exact locs rfl)
     (case c2 => exact rfl)
     (case c3 => exact rfl)
     (case c4 => exact rfl)
     (case c5 => decide)
     intro _ _ _ _ _ _
     (try dsimp only))
  | (refine' enterCg ?k1 ?kG ?k6 ?k7 ?k8 ?k9 ?kB ?kD ?_ ?c2 ?c3 ?c4
     (case k1 => assumption)
     (case kG => assumption)
     (case k6 => k_is)
     (case k7 => k_is)
     (case k8 => omega)
     (case k9 => first | exact BindsTo.of_eq rfl | exact kp_binds (Frag.In.keeps (Rdy.K (by assumption)) (GL.k (by assumption))) (fun _ => rfl))
     (case kB => exact rfl)
     (case kD => decide +kernel)
     (case c2 => exact rfl)
     (case c3 => exact rfl)
     (case c4 => exact rfl)
     intro _ _ _ _ Nq Yq lq _ _ _
     k_cells Yq
     (try simp only [List.cons_append, List.nil_append] at Nq)
     (try simp only [List.forall_mem_cons, List.forall_mem_nil, and_true, List.not_mem_nil, false_implies, implies_true] at lq)
     (try dsimp only)))
  rename_i oc3 oc2 oc1 dc3 dc2 dc1
  k_steps
  · refine compEndNew (lit := [(s.heap.objs.size + 1 + 1 + 1, oc3), (s.heap.objs.size + 1 + 1, oc2), (s.heap.objs.size + 1, oc1), (180, tabObj #[])]) (rest := rest) F9 N9 off9 (d' _ (.head _)) (.inl hc) ⟨_, rfl, hgr.cons (freshLit (d' _ (.head _)) fun q hq => .tail _ (.tail _ (.tail _ (List.mem_append_left _ hq)))), hta.snoc e3' e4'⟩
  · exact leadsEnd (lit := [(T, _), (_, _), (_, _), (_, _), (180, _)]) F5 N5 hLI hlI hrI o99 hg2 hla L99 (fun z h1 h2 => ifN h2 (ifN h1 (ifN h2 rfl)))
  · exact leadsEnd (lit := [(T, _), (_, _), (_, _), (_, _), (180, _)]) F5 N5 hLI hlI hrI o99 hg2 hla L99 (fun z h1 h2 => ifN h2 (ifN h1 (ifN h2 rfl)))
  · unfold qk
    exact LCg.CompEnd.intro F9 N9 _ (fun p hp => hp) off3 (.inr ⟨_, .tail _ (.tail _ (.tail _ (.tail _ (.head _)))), rfl, _, rfl⟩) ⟨rfl, boolRow_snoc rfl⟩
  · exact compEndCNew (lit := [(LL, listOf vs.toArray n), (T, _), (_, _), (_, _), (_, _), (180, _)]) (rest := r2) F9 N9 off9 o8 (.inr ⟨_, .head _, rfl, _, rfl⟩) (BelowJ.snoc hg3 hrl hrow (freshLit (fun q hq => (o8 q hq).symm) fun q hq => .tail _ (.tail _ (.tail _ (.tail _ (List.mem_append_left _ hq))))))
  · refine LCg.CompEnd.intro F9 N9 _ (fun p hp => hp) off3 (.inr ⟨_, .tail _ (.tail _ (.head _)), rfl, _, rfl⟩) ⟨rfl, ?_⟩
    rw [List.range_succ, List.map_append, lev32 hb hj hp hq]
    exact ints_snoc hJ3
  · refine LCg.CompEnd.intro F9 N9 _ (fun p hp => hp) off3 (.inr ⟨_, .tail _ (.tail _ (.tail _ (.head _))), rfl, _, rfl⟩) ⟨rfl, ?_⟩
    rw [List.range_succ, List.map_append]
    exact ints_snoc hJ3
  · exact absurd rfl (by assumption)
  · exact LCg.CompEnd.intro F9 N9 _ (fun p hp => hp) off3 (.inr ⟨_, .tail _ (.tail _ (.tail _ (.tail _ (.tail _ (.tail _ (.tail _ (.tail _ (.tail _ (List.mem_append_right _ (List.mem_append_left _ hm9)))))))))), rfl, _, rfl⟩) ⟨rfl, rfl⟩
  · rename Fr _ _ _ _ => F9
    rename News _ _ _ _ => N9
    exact TPC.next (σ := Unit) () F9 N9 (fun p hp => .tail _ (.tail _ hp)) hdc hoff trivial
  · exact TP.next (σ := Unit) () F9 N9 (fun p hp => hp) hI (List.forall_mem_nil _) (fun z h1 _ _ => if_neg h1) trivial
  · exact TP.next (σ := Unit) () F9 N9 (fun p hp => hp) hI (List.forall_mem_nil _) (fun z h1 _ _ => if_neg h1) trivial
  · rename Fr _ _ _ _ => F9
    rename News _ _ _ _ => N9
    dsimp only
    exact retGEnd (s := s) (tl := [(180, tabObj ps9)]) ret F9 N9 (fun p hp => by rw [List.mem_singleton.mp hp]; exact .tail _ (.tail _ (.tail _ (.tail _ (.tail _ (.tail _ (.tail _ (.tail _ (List.mem_append_right _ (List.mem_append_right _ hm180)))))))))) ⟨rfl, ps9, rfl⟩

theorem ColJ.out {P : Prop} {lit : List (Addr × Obj)} {i : Nat} {ys : List Value} {nw : List (Addr × Obj)} (h : ColJ lit i ys nw) (k : ∀ rest co, nw = lit ++ rest → Grow (lit.map (·.1)) [] rest → ColAtL co i ys rest → P) : P :=
  let ⟨rest, co, a, b, c⟩ := h; k rest co a b c
theorem agrees_call {env : Env} {h₀ : Heap} {L FL CL : Addr} {m : Str → Option Value} {all news : List (Addr × Obj)} {p q : Int} {tp tq : Tok} {cv : List Value} {n1 n2 : Nat} {co : Nat → Int × Int × Int} (hk : env.scope.kind = .function) (hf : env.frame = some L) (B : Below (ar dp un gd outer) base outer h₀) (X : (hd.heap_39 w.params).In h₀) (T : Top topProg LS mean mg mb h₀)
   (F : Fr h₀ L s.heap m) (N : News h₀ L s.heap all) (hd' : dp + 100 < recursionLimit) (hun : un + 80 < cLine) (m180 : (180, tabObj #[]) ∈ all) (hn : ∀ p ∈ news, p ∈ all) (hne : ∀ q ∈ news, (@Ne Nat q.1 180)) (mF : (FL, listOf #[.int p tp, .int q tq] n1) ∈ news) (mC : (CL, listOf cv.toArray n2) ∈ news)
   (hp : 0 ≤ p ∧ p ≤ 2) (hq : 0 ≤ q ∧ q ≤ 2) (hc : ColAtL co 6 cv news)
   (ret : ∀ h' tk' ps, Fr h₀ L h' m → News h₀ L h' [(180, tabObj ps)] → Q (.bool true) { s with heap := h', toks := tk' }) :
   wpAny (model prog w) ((ar dp un gd outer).deeper env) (call (.ref 211) [.ref FL, .ref CL]) Q E s := by
  obtain ⟨g, W, G, kk, ret9⟩ := lessOf (hid := [(180, tabObj #[])]) (news := news) B X T F N (fun p hp => by rw [List.mem_singleton.mp hp]; exact m180) hn (fun p hp q hq => by rw [List.mem_singleton.mp hp]; exact hne q hq) hf hk
  have up : ∀ p ∈ news, g.get? p.1 = some p.2 := fun p hp => kk _ _ (N p (hn p hp)).1 fun q hq => by rw [List.mem_singleton.mp hq]; exact (hne p hp).symm
  have ok := hc.ok
  refine agrees_ctr (co := co) W G (by dsimp only [Around.deeper]; omega) ⟨_, up _ mF, rfl, _, rfl⟩ hp hq ⟨_, up _ mC, rfl, _, rfl⟩ ok.2.2 (fun i hi => ?_) ok.1 ok.2.1 (by dsimp only [Around.deeper]; omega) (ret9 _ _ ?_)
  · obtain ⟨a, t1, t2, t3, e1, e2⟩ := hc.get hi
    exact ⟨a, t1, t2, t3, e1, ⟨_, up _ e2, rfl, _, rfl⟩⟩
  · rintro r h' tk' tl F' N' off ⟨rfl, ps, rfl⟩
    exact ret h' tk' ps F' fun p hp => N' p (List.mem_append_left _ hp)
theorem agrees_call2 {env : Env} {h₀ : Heap} {L FL CL : Addr} {m : Str → Option Value} {sl dr : Addr × Obj} {rest : List (Addr × Obj)} {p q : Int} {tp tq : Tok} {cv : List Value} {n1 n2 : Nat} {co : Nat → Int × Int × Int} (hk : env.scope.kind = .function) (hf : env.frame = some L) (B : Below (ar dp un gd outer) base outer h₀) (X : (hd.heap_39 w.params).In h₀) (T : Top topProg LS mean mg mb h₀)
   (F : Fr h₀ L s.heap m) (N : News h₀ L s.heap ((CL, listOf cv.toArray n2) :: sl :: (FL, listOf #[.int p tp, .int q tq] n1) :: dr :: (180, tabObj #[]) :: rest)) (hd' : dp + 100 < recursionLimit) (hun : un + 80 < cLine) (nF : @Ne Nat FL 180) (nC : @Ne Nat CL 180) (nr : ∀ y ∈ rest, (@Ne Nat y.1 180))
   (hp : 0 ≤ p ∧ p ≤ 2) (hq : 0 ≤ q ∧ q ≤ 2) (hc : ColAtL co 6 cv rest)
   (ret : ∀ h' tk' ps, Fr h₀ L h' m → News h₀ L h' [(180, tabObj ps)] → Q (.bool true) { s with heap := h', toks := tk' }) :
   wpAny (model prog w) ((ar dp un gd outer).deeper env) (call (.ref 211) [.ref FL, .ref CL]) Q E s := by
  refine agrees_call (co := co) (news := (FL, listOf #[.int p tp, .int q tq] n1) :: (CL, listOf cv.toArray n2) :: rest) hk hf B X T F N hd' hun (.tail _ (.tail _ (.tail _ (.tail _ (.head _))))) (fun x hx => ?_) (List.forall_mem_cons.mpr ⟨nF, List.forall_mem_cons.mpr ⟨nC, nr⟩⟩) (.head _) (.tail _ (.head _)) hp hq ⟨hc.1, fun j hj => ⟨(hc.2 j hj).1, ?_⟩⟩ ret
  · simp only [List.mem_cons] at hx ⊢
    rcases hx with h | h | h <;> simp only [h, true_or, or_true]
  · obtain ⟨a, t1, t2, t3, e1, e2⟩ := hc.get hj
    exact ⟨a, t1, t2, t3, e1, .tail _ (.tail _ e2)⟩
theorem lawW : PySem.Challenge.rw_pg0282_01.Holds := hd (by
  k_with_none
  k_with "call ref" =>
    k_dflt (refine draws_ctr (Rdy.into (by assumption) (by assumption) (by assumption) (by assumption) rfl rfl) (by decide) (Kp.list (Fr.keep (by assumption)) lifted) (by assumption) (by omega) (retOf (by assumption) (by assumption) ?_))
    intro r' h' tk' tl' F9 N9 d' O'
    obtain ⟨DR, us, dn, dk, e1', e2', hus, hk7⟩ := O'
    subst e1'
    subst e2'
    obtain ⟨d0, d1, d2, d3, d4, d5, d6, t0, t1, t2, t3, t4, t5, t6, e7⟩ := sevenOf hus hk7
    subst e7
    simp only [List.cons_append, List.nil_append] at N9
    k_dflt (have nDR : (@Ne Nat DR 180) := d' _ (.head _) _ (.head _))
    clear d'
  k_with "CompSrc" =>
    (rename Fr _ _ _ _ => F9)
    (rename News _ _ _ _ => N9)
    k_dflt (refine LCg.CompSrc.ledger (by rfl) F9 N9 (.head _) (by show 6 ≤ sizeLine; decide) ?_; intro g'; refine compInv (ColJ _) ColJ.nil ?_ ?_)
    intro i v I2 oI2 C2 oC2 D2 m2 ys nw h2 tk2 E2 hi hv hJ2 hC2 hx2 F9 N9 off9 ne9
    refine ColJ.out hJ2 ?_
    intro rest co hnw hgr hca
    simp only [List.cons_append, List.nil_append] at hnw
    subst hnw
    have off9 := off9.mem
    k_dflt (replace hv := sixItem hv)
    obtain ⟨d9, t9, e9⟩ := hv
    subst e9
    rotate_left
    intro ys nw hJ2
    refine ColJ.out hJ2 ?_
    intro rest co hnw hgr hca
    simp only [List.cons_append, List.nil_append] at hnw
    subst hnw
    k_dflt (replace hca : ColAtL co 6 ys rest := hca)
    rotate_left
  k_with "call ref" =>
    k_dflt (refine colour_ctr (Rdy.into (by assumption) (by assumption) (by assumption) (by assumption) rfl rfl) (by decide) (retOf F9 N9 ?_))
    intro r' h' tk' tl' F9 N9 d' O'
    obtain ⟨DC, a9, sp9, hu9, ta9, tb9, th9, e1', e2', ha9, hs9, hh9⟩ := O'
    subst e1'
    subst e2'
    simp only [List.cons_append, List.nil_append] at N9
  k_with "FinE" =>
    (unfold LCg.FinE)
    intro CL h8 tk8 F9 N9 o8
    have o8 := off1_mem o8
    (try dsimp only)
  k_with "call ref" =>
    (rename Fr _ _ _ _ => F9)
    (rename News _ _ _ _ => N9)
    k_dflt (refine agrees_call2 (co := co) rfl rfl (by assumption) (by assumption) (by assumption) F9 N9 (by decide) (by decide) (by k_ne) (neSym (o8 _ (.tail _ (.tail _ (.tail _ (.head _)))))) (fun y hy => hgr.off y hy _ (.tail _ (.tail _ (.tail _ (.head _))))) (fm3 _) (fm3 _) hca ?_)
    intro h9 tk9 ps9 F9 N9
  k_go0
  all_goals try k_fold
  k_steps
  · exact compEndNew (lit := [(_, _), (_, _), (DR, _), (180, tabObj #[])]) (rest := rest) F9 N9 off9 (d' _ (.head _)) (.inr ⟨_, .head _, rfl, _, rfl⟩) ⟨_, _, rfl, hgr.cons (freshLit (d' _ (.head _)) fun q hq => .tail _ (.tail _ (.tail _ (List.mem_append_left _ hq)))), hca.snoc ⟨ha9, hs9, hh9⟩⟩)

end
end Mine
theorem PySem.Challenge.cw_pg0282_01_holds : PySem.Challenge.rw_pg0282_01.Holds := by
  exact Mine.lawW
