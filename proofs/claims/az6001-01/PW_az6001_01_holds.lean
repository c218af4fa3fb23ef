import PyProof.Rows.All
import Wide.All
import OpenK.AllK
import Wide.FinOn
import Lean
import PySem.Challenge.RW_az6001_01
open PySem PySem.W PyProof.Rows PySem.Calls PySem.Spec
set_option Elab.async false
set_option maxRecDepth 100000
set_option maxHeartbeats 8000000
set_option linter.unusedVariables false
set_option linter.unusedSimpArgs false
set_option linter.unusedSectionVars false

namespace Mine
open PySem.SeqAt PySem.MeetsSeq PySem.MeetsSeq2 PySem.MeetsSeq3 PySem.SeqRoads2

/-- op, an order comparison of two values, answers b and turns nothing -/
def RcOp (op : CmpOp) (A : Around) (s : Shared) (y x : Value) (b : Bool) : Prop :=
  ∀ (prog : Program) (w : World) (E : Value → Shared → Prop) (Q : Value → Shared → Prop), Q (.bool b) s → wpAny (model prog w) A (richCompare op y x) Q E s

inductive Lex (op : CmpOp) (A : Around) (s : Shared) (fin : Bool) : List (Value × Value) → Bool → Prop
  | nil : Lex op A s fin [] fin
  | eq {x y : Value} {r : List (Value × Value)} {b : Bool} : EqAt A s x y true → Lex op A s fin r b → Lex op A s fin ((x, y) :: r) b
  | ne {x y : Value} {r : List (Value × Value)} {b : Bool} : EqAt A s x y false → RcOp op A s x y b → Lex op A s fin ((x, y) :: r) b

theorem tuple_leAt (l b : Addr) (items items2 : Array Value) (n n2 : Nat) (dd dd2 : Option Addr) (sl sl2 : Array (Option Value)) (res : Bool) :
    Meets (Builtin.«tuple.__le__» ⟨[.ref l, .ref b], []⟩)
      (fun A R s => s.heap.get? l = some { cls := .type "tuple", dict := dd, data := .seq items n, slots := sl } ∧ s.heap.get? b = some { cls := .type "tuple", dict := dd2, data := .seq items2 n2, slots := sl2 } ∧
        Lex .LtE A.in1 s (decide (items.size ≤ items2.size)) (items.toList.zip items2.toList) res ∧
        R (.ok (.ret (.bool res))) s) :=
  .of_wp fun prog w A R s h => by
    obtain ⟨hp, g, d, tk, os⟩ := s; obtain ⟨hl, hb, he, h⟩ := h
    have f2 := AutoSeq1.sub_tuple_tuple
    wp_walk using AutoSeq1.wpAny_loadPart' hl, AutoSeq1.wpAny_loadPart' hb, wpAny_forIn_list _ (fun rest b s' => b.1 = none ∧ s' = ⟨hp, g, d, tk, os⟩ ∧ Lex .LtE A.in1 ⟨hp, g, d, tk, os⟩ (decide (items.size ≤ items2.size)) rest res) _
    case turn =>
      rintro ⟨y, x⟩ rest b s' ⟨hb', rfl, hx⟩
      cases hx with
      | eq he hr =>
        refine wpAny_bind (he prog w _ _ ?_)
        wp_walk
        exact ⟨rfl, rfl, hr⟩
      | ne he hr =>
        refine wpAny_bind (he prog w _ _ ?_)
        simp only [Bool.not_false, if_true]
        refine wpAny_bind (wpAny_rule ?_)
        refine wpAny_bind (hr prog w _ _ ?_)
        wp_walk
        exact ⟨_, rfl, h⟩
    case fin =>
      rintro ⟨b1, b2⟩ s' ⟨hb', rfl, hx⟩
      simp only at hb'
      subst hb'
      cases hx
      wp_walk
      exact ⟨_, rfl, by simpa [Builtin.Tuple.tupleCompareSizes] using h⟩
    case h =>
      exact ⟨rfl, rfl, he⟩
theorem tuple_ltAt (l b : Addr) (items items2 : Array Value) (n n2 : Nat) (dd dd2 : Option Addr) (sl sl2 : Array (Option Value)) (res : Bool) :
    Meets (Builtin.«tuple.__lt__» ⟨[.ref l, .ref b], []⟩)
      (fun A R s => s.heap.get? l = some { cls := .type "tuple", dict := dd, data := .seq items n, slots := sl } ∧ s.heap.get? b = some { cls := .type "tuple", dict := dd2, data := .seq items2 n2, slots := sl2 } ∧
        Lex .Lt A.in1 s (decide (items.size < items2.size)) (items.toList.zip items2.toList) res ∧
        R (.ok (.ret (.bool res))) s) :=
  .of_wp fun prog w A R s h => by
    obtain ⟨hp, g, d, tk, os⟩ := s; obtain ⟨hl, hb, he, h⟩ := h
    have f2 := AutoSeq1.sub_tuple_tuple
    wp_walk using AutoSeq1.wpAny_loadPart' hl, AutoSeq1.wpAny_loadPart' hb, wpAny_forIn_list _ (fun rest b s' => b.1 = none ∧ s' = ⟨hp, g, d, tk, os⟩ ∧ Lex .Lt A.in1 ⟨hp, g, d, tk, os⟩ (decide (items.size < items2.size)) rest res) _
    case turn =>
      rintro ⟨y, x⟩ rest b s' ⟨hb', rfl, hx⟩
      cases hx with
      | eq he hr =>
        refine wpAny_bind (he prog w _ _ ?_)
        wp_walk
        exact ⟨rfl, rfl, hr⟩
      | ne he hr =>
        refine wpAny_bind (he prog w _ _ ?_)
        simp only [Bool.not_false, if_true]
        refine wpAny_bind (wpAny_rule ?_)
        refine wpAny_bind (hr prog w _ _ ?_)
        wp_walk
        exact ⟨_, rfl, h⟩
    case fin =>
      rintro ⟨b1, b2⟩ s' ⟨hb', rfl, hx⟩
      simp only at hb'
      subst hb'
      cases hx
      wp_walk
      exact ⟨_, rfl, by simpa [Builtin.Tuple.tupleCompareSizes] using h⟩
    case h =>
      exact ⟨rfl, rfl, he⟩

theorem list_leLoop (l b : Addr) (items items2 : Array Value) (n n2 : Nat) (dd dd2 : Option Addr) (sl sl2 : Array (Option Value)) (res : Bool) (k : Nat) :
    ∀ i : Nat, min items.size items2.size - i = k → i ≤ min items.size items2.size → Meets (Builtin.«list.__eq__.loop» ⟨[.ref l, .ref b, rawInt i, rawInt 1], []⟩)
      (fun A R s => s.heap.get? l = some { cls := .type "list", dict := dd, data := .seq items n, slots := sl } ∧ s.heap.get? b = some { cls := .type "list", dict := dd2, data := .seq items2 n2, slots := sl2 } ∧
        Lex .LtE A.in1 s (decide (items.size ≤ items2.size)) ((items.toList.zip items2.toList).drop i) res ∧
        R (.ok (.ret (.bool res))) s) := by
  induction k with
  | zero =>
    intro i hk hle prog w A R s h
    obtain ⟨hp, g, d, tk, os⟩ := s; obtain ⟨hl, hb, he, h⟩ := h
    wp_walk using AutoSeq1.wpAny_loadPart' hl, AutoSeq1.wpAny_loadPart' hb
    have hd : (items.toList.zip items2.toList).drop i = [] := by simp; omega
    rw [hd] at he
    cases he
    have hi : items[((i : Nat) : Int).toNat]? = none ∨ items2[((i : Nat) : Int).toNat]? = none := by
      simp; omega
    have main : (match (items[((i : Nat) : Int).toNat]?, items2[((i : Nat) : Int).toNat]?) with | (some _, some _) => False | _ => True) := by
      rcases hi with hi | hi
      · rw [hi]; trivial
      · rw [hi]; cases items[((i : Nat) : Int).toNat]? <;> trivial
    split
    · rename_i heq; rw [heq] at main; exact main.elim
    · wp_walk using AutoSeq1.wpAny_loadPart' hl, AutoSeq1.wpAny_loadPart' hb
      exact h
  | succ k ih =>
    intro i hk hle prog w A R s h
    obtain ⟨hp, g, d, tk, os⟩ := s; obtain ⟨hl, hb, he, h⟩ := h
    wp_walk using AutoSeq1.wpAny_loadPart' hl, AutoSeq1.wpAny_loadPart' hb
    have hlt : i < items.size := by omega
    have hlt2 : i < items2.size := by omega
    have hi1 : items[((i : Nat) : Int).toNat]? = some items[i] := by simp [hlt]
    have hi2 : items2[((i : Nat) : Int).toNat]? = some items2[i] := by simp [hlt2]
    have hd : (items.toList.zip items2.toList).drop i = (items[i], items2[i]) :: (items.toList.zip items2.toList).drop (i + 1) := by
      rw [List.drop_eq_getElem_cons (by simp; omega)]; simp
    have hc : ((i : Int) + 1) = ((i + 1 : Nat) : Int) := by push_cast; rfl
    rw [hd] at he
    rw [hi1, hi2]
    cases he with
    | eq hq hr =>
      refine wpAny_bind (hq prog w _ _ ?_)
      wp_walk
      rw [hc]
      exact ⟨plainId_quiet plain_eq_loop _, codeAny_builtin entry_eq_loop (by
        rw [Around.under_plainId plain_eq_loop _]
        exact ih (i + 1) (by omega) (by omega) prog w A R _ ⟨hl, hb, hr, h⟩)⟩
    | ne hq hr =>
      refine wpAny_bind (hq prog w _ _ ?_)
      wp_walk using AutoSeq1.wpAny_loadPart' hl, AutoSeq1.wpAny_loadPart' hb
      rw [hi1, hi2]
      refine wpAny_bind (hr prog w _ _ ?_)
      wp_walk
      exact h

theorem list_leAt (l b : Addr) (items items2 : Array Value) (n n2 : Nat) (dd dd2 : Option Addr) (sl sl2 : Array (Option Value)) (res : Bool) :
    Meets (Builtin.«list.__le__» ⟨[.ref l, .ref b], []⟩)
      (fun A R s => s.heap.get? l = some { cls := .type "list", dict := dd, data := .seq items n, slots := sl } ∧ s.heap.get? b = some { cls := .type "list", dict := dd2, data := .seq items2 n2, slots := sl2 } ∧
        Lex .LtE A.in1 s (decide (items.size ≤ items2.size)) (items.toList.zip items2.toList) res ∧
        R (.ok (.ret (.bool res))) s) := by
  intro prog w A R s h
  obtain ⟨hp, g, d, tk, os⟩ := s; obtain ⟨hl, hb, he, h⟩ := h
  have f2 := AutoSeq1.sub_list_list
  wp_walk using AutoSeq1.wpAny_loadPart' hl, AutoSeq1.wpAny_loadPart' hb
  exact ⟨plainId_quiet plain_eq_loop _, codeAny_builtin entry_eq_loop (by
    rw [Around.under_plainId plain_eq_loop _]
    exact list_leLoop l b items items2 n n2 dd dd2 sl sl2 res _ 0 rfl (Nat.zero_le _) prog w A R _ ⟨hl, hb, by simpa using he, h⟩)⟩
end Mine

namespace Mine
/-! the plain law: orders -/
structure LinB {α : Type} (eqb ltb : α → α → Bool) : Prop where
  eq_iff : ∀ a b, eqb a b = true ↔ a = b
  irr : ∀ a, ltb a a = false
  tr : ∀ a b c, ltb a b = true → ltb b c = true → ltb a c = true
  tot : ∀ a b, eqb a b = false → ltb a b = false → ltb b a = true

def lexE {α : Type} (eqb : α → α → Bool) : List α → List α → Bool
  | [], [] => true
  | a :: x, b :: y => eqb a b && lexE eqb x y
  | _, _ => false
def lexL {α : Type} (eqb ltb : α → α → Bool) : List α → List α → Bool
  | [], [] => false
  | [], _ :: _ => true
  | _ :: _, [] => false
  | a :: x, b :: y => if eqb a b = true then lexL eqb ltb x y else ltb a b
def lexLe {α : Type} (eqb ltb : α → α → Bool) : List α → List α → Bool
  | [], _ => true
  | _ :: _, [] => false
  | a :: x, b :: y => if eqb a b = true then lexLe eqb ltb x y else ltb a b

theorem LinB.asym {α : Type} {eqb ltb : α → α → Bool} (h : LinB eqb ltb) {a b : α} (h1 : ltb a b = true) : ltb b a = false := by
  cases h2 : ltb b a with
  | false => rfl
  | true => have := h.tr _ _ _ h1 h2; rw [h.irr] at this; cases this
theorem LinB.ne {α : Type} {eqb ltb : α → α → Bool} (h : LinB eqb ltb) {a b : α} (h1 : eqb a b = false) : a ≠ b := fun e => by
  rw [(h.eq_iff a b).mpr e] at h1; cases h1
theorem LinB.rfl' {α : Type} {eqb ltb : α → α → Bool} (h : LinB eqb ltb) (a : α) : eqb a a = true := (h.eq_iff a a).mpr rfl
theorem LinB.lex {α : Type} {eqb ltb : α → α → Bool} (h : LinB eqb ltb) : LinB (lexE eqb) (lexL eqb ltb) where
  eq_iff := by
    intro x
    induction x with
    | nil => intro y; cases y <;> simp [lexE]
    | cons a x ih =>
      intro y
      cases y with
      | nil => simp [lexE]
      | cons b y => simp [lexE, h.eq_iff, ih]
  irr := by
    intro x
    induction x with
    | nil => rfl
    | cons a x ih => simp [lexL, h.rfl' a, ih]
  tr := by
    intro x
    induction x with
    | nil =>
      intro y z h1 h2
      cases y with
      | nil => cases h1
      | cons b y => cases z with
        | nil => cases h2
        | cons c z => rfl
    | cons a x ih =>
      intro y z h1 h2
      cases y with
      | nil => cases h1
      | cons b y =>
        cases z with
        | nil => cases h2
        | cons c z =>
          simp only [lexL] at h1 h2 ⊢
          by_cases e1 : eqb a b = true
          · have := (h.eq_iff a b).mp e1; subst this
            rw [if_pos e1] at h1
            by_cases e2 : eqb a c = true
            · rw [if_pos e2] at h2 ⊢; exact ih _ _ h1 h2
            · rw [if_neg e2] at h2 ⊢; exact h2
          · rw [if_neg e1] at h1
            by_cases e2 : eqb b c = true
            · have := (h.eq_iff b c).mp e2; subst this
              rw [if_neg e1]; exact h1
            · rw [if_neg e2] at h2
              have h3 := h.tr _ _ _ h1 h2
              have e3 : ¬ eqb a c = true := fun e => by
                have := (h.eq_iff a c).mp e; subst this
                rw [h.asym h1] at h2; cases h2
              rw [if_neg e3]; exact h3
  tot := by
    intro x
    induction x with
    | nil => intro y h1 h2; cases y with
      | nil => cases h1
      | cons b y => cases h2
    | cons a x ih =>
      intro y h1 h2
      cases y with
      | nil => rfl
      | cons b y =>
        simp only [lexE, lexL] at h1 h2 ⊢
        by_cases e : eqb a b = true
        · rw [if_pos e] at h2
          rw [e, Bool.true_and] at h1
          have e' : eqb b a = true := (h.eq_iff b a).mpr ((h.eq_iff a b).mp e).symm
          rw [if_pos e']; exact ih _ h1 h2
        · rw [if_neg e] at h2
          have e' : ¬ eqb b a = true := fun q => e ((h.eq_iff a b).mpr ((h.eq_iff b a).mp q).symm)
          rw [if_neg e']; exact h.tot _ _ (by simpa using e) h2

theorem lexLe_eq {α : Type} {eqb ltb : α → α → Bool} (h : LinB eqb ltb) : ∀ x y : List α, lexLe eqb ltb x y = !lexL eqb ltb y x
  | [], [] => rfl
  | [], _ :: _ => rfl
  | _ :: _, [] => rfl
  | a :: x, b :: y => by
    simp only [lexLe, lexL]
    by_cases e : eqb a b = true
    · have e' : eqb b a = true := (h.eq_iff b a).mpr ((h.eq_iff a b).mp e).symm
      rw [if_pos e, if_pos e']; exact lexLe_eq h x y
    · have e' : ¬ eqb b a = true := fun q => e ((h.eq_iff a b).mpr ((h.eq_iff b a).mp q).symm)
      rw [if_neg e, if_neg e']
      cases q : ltb a b with
      | true => rw [h.asym q]; rfl
      | false => rw [h.tot _ _ (by simpa using e) q]; rfl

/-- a linear order as 'less or equal' -/
structure LeB {α : Type} (le : α → α → Bool) : Prop where
  rfl' : ∀ a, le a a = true
  tr : ∀ a b c, le a b = true → le b c = true → le a c = true
  anti : ∀ a b, le a b = true → le b a = true → a = b
  tot : ∀ a b, le a b = false → le b a = true
theorem LinB.le {α : Type} {eqb ltb : α → α → Bool} (h : LinB eqb ltb) : LeB (fun a b => !ltb b a) where
  rfl' := fun a => by simp [h.irr]
  tr := fun a b c h1 h2 => by
    simp only [Bool.not_eq_true'] at h1 h2 ⊢
    cases q : ltb c a with
    | false => rfl
    | true =>
      cases e : eqb b c with
      | true => have := (h.eq_iff b c).mp e; subst this; rw [h1] at q; cases q
      | false => have := h.tr _ _ _ (h.tot _ _ (by cases e' : eqb c b with | false => rfl | true => rw [(h.eq_iff b c).mpr ((h.eq_iff c b).mp e').symm] at e; cases e) h2) q; rw [h1] at this; cases this
  anti := fun a b h1 h2 => by
    simp only [Bool.not_eq_true'] at h1 h2
    cases e : eqb a b with
    | true => exact (h.eq_iff a b).mp e
    | false => have := h.tot _ _ e h2; rw [h1] at this; cases this
  tot := fun a b h1 => by
    simp only [Bool.not_eq_false', Bool.not_eq_true'] at h1 ⊢
    exact h.asym h1
theorem LinB.lexLe {α : Type} {eqb ltb : α → α → Bool} (h : LinB eqb ltb) : LeB (Mine.lexLe eqb ltb) := by
  have e : Mine.lexLe eqb ltb = fun x y => !lexL eqb ltb y x := by funext x y; exact lexLe_eq h x y
  rw [e]; exact h.lex.le

theorem lin_int : LinB (fun a b : Int => a == b) (fun a b => decide (a < b)) where
  eq_iff := fun a b => by simp
  irr := fun a => by simp
  tr := fun a b c h1 h2 => by simp at *; omega
  tot := fun a b h1 h2 => by simp at *; omega
theorem lin_nat : LinB (fun a b : Nat => a == b) (fun a b => decide (a < b)) where
  eq_iff := fun a b => by simp
  irr := fun a => by simp
  tr := fun a b c h1 h2 => by simp at *; omega
  tot := fun a b h1 h2 => by simp at *; omega
theorem nats_lt : ∀ x y : List Nat, decide (x < y) = lexL (fun a b : Nat => a == b) (fun a b => decide (a < b)) x y
  | [], [] => by simp [lexL]
  | [], _ :: _ => by simp [lexL]
  | _ :: _, [] => by simp [lexL]
  | a :: x, b :: y => by
    have ih := nats_lt x y
    simp only [lexL]
    by_cases e : a = b
    · subst e; simp [← ih]
    · simp [List.cons_lt_cons_iff, e]

inductive Part where
  | int (i : Int)
  | str (x : Str)
  | tup (ns : List Int)
def Part.kind : Part → Nat
  | .int _ => 0
  | .str _ => 1
  | .tup _ => 2
def pEq : Part → Part → Bool
  | .int i, .int j => i == j
  | .str x, .str y => x.cps.toList == y.cps.toList
  | .tup a, .tup b => lexE (fun a b : Int => a == b) a b
  | _, _ => false
/-- the order within one kind -/
def pLt : Part → Part → Bool
  | .int i, .int j => decide (i < j)
  | .str x, .str y => decide (x.cps.toList < y.cps.toList)
  | .tup a, .tup b => lexL (fun a b : Int => a == b) (fun a b => decide (a < b)) a b
  | a, b => decide (a.kind < b.kind)
theorem pEq_kind : ∀ {a b : Part}, pEq a b = true → a.kind = b.kind
  | .int _, .int _, _ => rfl
  | .str _, .str _, _ => rfl
  | .tup _, .tup _, _ => rfl
theorem pLt_kind : ∀ {a b : Part}, a.kind ≠ b.kind → pLt a b = decide (a.kind < b.kind)
  | .int _, .int _, h => absurd rfl h
  | .str _, .str _, h => absurd rfl h
  | .tup _, .tup _, h => absurd rfl h
  | .int _, .str _, _ => rfl
  | .int _, .tup _, _ => rfl
  | .str _, .int _, _ => rfl
  | .str _, .tup _, _ => rfl
  | .tup _, .int _, _ => rfl
  | .tup _, .str _, _ => rfl
theorem pLt_le : ∀ {a b : Part}, pLt a b = true → a.kind ≤ b.kind := by
  intro a b h
  by_cases e : a.kind = b.kind
  · omega
  · rw [pLt_kind e] at h; simp at h; omega
theorem str_ext {x y : Str} (h : x.cps.toList = y.cps.toList) : x = y := by
  cases x; cases y; simp at h; simp [h]
theorem lin_part : LinB pEq pLt where
  eq_iff := by
    intro a b
    cases a <;> cases b <;> simp [pEq]
    · constructor
      · exact fun h => str_ext (by simp [h])
      · intro h; rw [h]
    · exact lin_int.lex.eq_iff _ _
  irr := by
    intro a
    cases a with
    | int i => simp [pLt]
    | str x => simp only [pLt, nats_lt]; exact lin_nat.lex.irr _
    | tup a => exact lin_int.lex.irr _
  tr := by
    intro a b c h1 h2
    have k1 := pLt_le h1
    have k2 := pLt_le h2
    by_cases e1 : a.kind = b.kind
    · by_cases e2 : b.kind = c.kind
      · cases a <;> cases b <;> simp [Part.kind] at e1 <;> cases c <;> simp [Part.kind] at e2
        · simp [pLt] at *; omega
        · simp only [pLt, nats_lt] at *; exact lin_nat.lex.tr _ _ _ h1 h2
        · exact lin_int.lex.tr _ _ _ h1 h2
      · have e3 : a.kind ≠ c.kind := by omega
        rw [pLt_kind e3]; simp; omega
    · have e3 : a.kind ≠ c.kind := by omega
      rw [pLt_kind e3]; simp; omega
  tot := by
    intro a b h1 h2
    by_cases e : a.kind = b.kind
    · cases a <;> cases b <;> simp [Part.kind] at e
      · simp [pLt, pEq] at *; omega
      · simp only [pLt, nats_lt] at *
        refine lin_nat.lex.tot _ _ ?_ h2
        cases q : lexE (fun a b : Nat => a == b) _ _ with
        | false => rfl
        | true => rename_i x y; have := (lin_nat.lex.eq_iff _ _).mp q; simp only [pEq, this, beq_self_eq_true] at h1; cases h1
      · exact lin_int.lex.tot _ _ h1 h2
    · rw [pLt_kind e] at h2
      rw [pLt_kind (Ne.symm e)]; simp at *; omega

abbrev leRec : List Part → List Part → Bool := lexLe pEq pLt
def cmpRec : List Part → List Part → Bool
  | [], _ => true
  | _ :: _, [] => false
  | a :: x, b :: y => if pEq a b = true then cmpRec x y else if a.kind = b.kind then pLt a b else true
def turnRec : List Part → List Part → Bool
  | a :: x, b :: y => if pEq a b = true then turnRec x y else decide (b.kind < a.kind)
  | _, _ => false
theorem cmp_le : ∀ x y : List Part, turnRec x y = false → cmpRec x y = leRec x y
  | [], _, _ => rfl
  | _ :: _, [], _ => rfl
  | a :: x, b :: y, h => by
    simp only [turnRec, cmpRec, leRec, lexLe] at *
    by_cases e : pEq a b = true
    · rw [if_pos e] at h; rw [if_pos e, if_pos e]; exact cmp_le x y h
    · rw [if_neg e] at h
      rw [if_neg e, if_neg e]
      by_cases k : a.kind = b.kind
      · rw [if_pos k]
      · rw [if_neg k, pLt_kind k]; simp at h ⊢; omega
theorem le_paths : LeB leRec := lin_part.lexLe
/-- each place of both has the kind that ks says -/
def kindly (ks : List Nat) (x : List Part) : Prop := ∃ r, ks = x.map Part.kind ++ r
theorem kindly_turn : ∀ {ks : List Nat} {x y : List Part}, kindly ks x → kindly ks y → turnRec x y = false
  | ks, [], y, _, _ => by cases y <;> rfl
  | ks, _ :: _, [], _, _ => rfl
  | [], _ :: _, _, ⟨_, h⟩, _ => by simp at h
  | k :: ks, a :: x, b :: y, ⟨r, h⟩, ⟨r', h'⟩ => by
    simp only [List.map_cons, List.cons_append, List.cons.injEq] at h h'
    simp only [turnRec]
    split
    · exact kindly_turn ⟨r, h.2⟩ ⟨r', h'.2⟩
    · simp; omega
/-- pairs of paths -/
abbrev Fault := List Part × List Part
def fLe (a b : Fault) : Bool := if lexE pEq a.1 b.1 = true then leRec a.2 b.2 else leRec a.1 b.1
theorem le_faults : LeB fLe where
  rfl' := fun a => by unfold fLe; split <;> exact le_paths.rfl' _
  tr := fun a b c h1 h2 => by
    unfold fLe at *
    have eq := lin_part.lex.eq_iff
    by_cases e1 : lexE pEq a.1 b.1 = true
    · rw [if_pos e1] at h1
      rw [(eq _ _).mp e1]
      by_cases e2 : lexE pEq b.1 c.1 = true
      · rw [if_pos e2] at h2 ⊢; exact le_paths.tr _ _ _ h1 h2
      · rw [if_neg e2] at h2 ⊢; exact h2
    · rw [if_neg e1] at h1
      by_cases e2 : lexE pEq b.1 c.1 = true
      · rw [← (eq _ _).mp e2, if_neg e1]; exact h1
      · rw [if_neg e2] at h2
        have h3 := le_paths.tr _ _ _ h1 h2
        split
        · rename_i e3
          have : a.1 = b.1 := le_paths.anti _ _ h1 ((eq _ _).mp e3 ▸ h2)
          exact absurd ((eq _ _).mpr this) e1
        · exact h3
  anti := fun a b h1 h2 => by
    unfold fLe at *
    have eq := lin_part.lex.eq_iff
    by_cases e1 : lexE pEq a.1 b.1 = true
    · have e2 : lexE pEq b.1 a.1 = true := (eq _ _).mpr ((eq _ _).mp e1).symm
      rw [if_pos e1] at h1
      rw [if_pos e2] at h2
      exact Prod.ext ((eq _ _).mp e1) (le_paths.anti _ _ h1 h2)
    · have e2 : ¬ lexE pEq b.1 a.1 = true := fun q => e1 ((eq _ _).mpr ((eq _ _).mp q).symm)
      rw [if_neg e1] at h1
      rw [if_neg e2] at h2
      exact absurd ((eq _ _).mpr (le_paths.anti _ _ h1 h2)) e1
  tot := fun a b h1 => by
    unfold fLe at *
    have eq := lin_part.lex.eq_iff
    by_cases e1 : lexE pEq a.1 b.1 = true
    · have e2 : lexE pEq b.1 a.1 = true := (eq _ _).mpr ((eq _ _).mp e1).symm
      rw [if_pos e1] at h1
      rw [if_pos e2]; exact le_paths.tot _ _ h1
    · have e2 : ¬ lexE pEq b.1 a.1 = true := fun q => e1 ((eq _ _).mpr ((eq _ _).mp q).symm)
      rw [if_neg e1] at h1
      rw [if_neg e2]; exact le_paths.tot _ _ h1
end Mine

namespace Mine
section
variable (N : Nat) (le : Nat → Nat → Bool)
/-- all that the sort asks is in range; its answers are le; the outcome is P -/
def KOk {α : Type} (P : α → Prop) : KasT α → Prop
  | .ret a => P a
  | .ask i j k => i < N ∧ j < N ∧ KOk P (k (le i j))
variable {N} {le}
theorem KOk.bind {α β : Type} {P : α → Prop} {R : β → Prop} {f : α → KasT β} : ∀ {t : KasT α}, KOk N le P t → (∀ a, P a → KOk N le R (f a)) → KOk N le R (t.bind f)
  | .ret a, h, k => k a h
  | .ask i j q, h, k => ⟨h.1, h.2.1, KOk.bind (t := q (le i j)) h.2.2 k⟩
theorem KOk.mono {α : Type} {P R : α → Prop} (k : ∀ a, P a → R a) : ∀ {t : KasT α}, KOk N le P t → KOk N le R t
  | .ret a, h => k a h
  | .ask i j q, h => ⟨h.1, h.2.1, KOk.mono (t := q (le i j)) k h.2.2⟩
/-- the walk of an honest asker -/
theorem KOk.wp {α : Type} {P : α → Prop} {cmp : Nat → Nat → (Bool → Shared → Prop) → Shared → Prop} {I : Shared → Prop} {Q : α → Shared → Prop}
    (hc : ∀ i j C s, i < N → j < N → I s → (∀ s', I s' → C (le i j) s') → cmp i j C s) : ∀ {t : KasT α} {s : Shared}, KOk N le P t → I s → (∀ a s', P a → I s' → Q a s') → t.kasWp cmp Q s
  | .ret a, s, h, i, k => k a s h i
  | .ask a b q, s, h, i, k => hc a b _ s h.1 h.2.1 i fun s' i' => KOk.wp (t := q (le a b)) hc h.2.2 i' k

def Inc (p : Array Nat) (b : Nat) : Prop := ∀ i j, i < j → j < b → le (p.getD i 0) (p.getD j 0) = true
def Dec (p : Array Nat) (b : Nat) : Prop := ∀ i j, i < j → j < b → le (p.getD j 0) (p.getD i 0) = true
def Whole (N : Nat) (p : Array Nat) : Prop := p.Perm (List.toArray (List.range N))
theorem Whole.size {p : Array Nat} (h : Whole N p) : p.size = N := by
  have := Array.Perm.size_eq h; simpa using this
theorem Whole.lt {p : Array Nat} (h : Whole N p) (hN : 0 < N) (k : Nat) : p.getD k 0 < N := by
  by_cases hk : k < p.size
  · have hm : p[k] ∈ p := Array.getElem_mem hk
    have := (Array.Perm.mem_iff h).mp hm
    simp at this
    simpa [Array.getD, hk] using this
  · simpa [Array.getD, hk] using hN
theorem getD_rev {p : Array Nat} {n k : Nat} (hn : n ≤ p.size) : (kas_rev p 0 n).getD k 0 = if k < n then p.getD (n - 1 - k) 0 else p.getD k 0 := by
  have := getElem?_mirror_all (xs := p) (i := 0) hn k
  unfold kas_rev
  rw [Array.getD_eq_getD_getElem?, this, Array.getD_eq_getD_getElem?, Array.getD_eq_getD_getElem?]
  by_cases h : k < n
  · simp [h]
  · simp [h]
theorem getD_bub {p : Array Nat} {src d k : Nat} (hs : src < p.size) (hd : d ≤ src) : (bubble p src d).getD k 0 = if k = src - d then p.getD src 0 else if src - d < k ∧ k ≤ src then p.getD (k - 1) 0 else p.getD k 0 := by
  have := getElem?_bubble (xs := p) hs d hd k
  rw [Array.getD_eq_getD_getElem?, this, Array.getD_eq_getD_getElem?, Array.getD_eq_getD_getElem?, Array.getD_eq_getD_getElem?]
  repeat' split
  all_goals rfl

structure TotB (le : Nat → Nat → Bool) : Prop where
  tr : ∀ a b c, le a b = true → le b c = true → le a c = true
  tot : ∀ a b, le a b = false → le b a = true
variable (T : TotB le)
include T
theorem asc_ok {p : Array Nat} (hp : Whole N p) (hN : 0 < N) : ∀ (f n : Nat), 1 ≤ n → Inc (le := le) p n → KOk N le (fun m => n ≤ m ∧ m ≤ n + f ∧ Inc (le := le) p m ∧ (m = n + f ∨ le (p.getD m 0) (p.getD (m - 1) 0) = true)) (kas_asc p f n)
  | 0, n, _, h => ⟨Nat.le_refl _, Nat.le_refl _, h, .inl rfl⟩
  | f + 1, n, h1, h => by
    refine ⟨hp.lt hN _, hp.lt hN _, ?_⟩
    cases e : le (p.getD n 0) (p.getD (n - 1) 0) with
    | true => exact ⟨Nat.le_refl _, by omega, h, .inr e⟩
    | false =>
      simp only [Bool.false_eq_true, if_false]
      have e' := T.tot _ _ e
      have h' : Inc (le := le) p (n + 1) := fun i j hij hj => by
        by_cases q : j < n
        · exact h i j hij q
        · have : j = n := by omega
          subst this
          by_cases q2 : i = j - 1
          · rw [q2]; exact e'
          · exact T.tr _ _ _ (h i (j - 1) (by omega) (by omega)) e'
      exact KOk.mono (fun m x => ⟨by omega, by omega, x.2.2.1, x.2.2.2.imp (fun q => by omega) id⟩) (asc_ok hp hN f (n + 1) (by omega) h')
theorem desc_ok {p : Array Nat} (hp : Whole N p) (hN : 0 < N) : ∀ (f n : Nat), 1 ≤ n → Dec (le := le) p n → KOk N le (fun r => r.1 = p ∧ n ≤ r.2.1 ∧ r.2.1 ≤ n + f ∧ r.2.2 = 0 ∧ Dec (le := le) p r.2.1) (kas_desc f p n 0)
  | 0, n, _, h => ⟨rfl, Nat.le_refl _, Nat.le_refl _, rfl, h⟩
  | f + 1, n, h1, h => by
    refine ⟨hp.lt hN _, hp.lt hN _, ?_⟩
    cases e : le (p.getD n 0) (p.getD (n - 1) 0) with
    | true =>
      have h' : Dec (le := le) p (n + 1) := fun i j hij hj => by
        by_cases q : j < n
        · exact h i j hij q
        · have : j = n := by omega
          subst this
          by_cases q2 : i = j - 1
          · rw [q2]; exact e
          · exact T.tr _ _ _ e (h i (j - 1) (by omega) (by omega))
      exact KOk.mono (fun m x => ⟨x.1, by omega, by omega, x.2.2.2.1, x.2.2.2.2⟩) (desc_ok hp hN f (n + 1) (by omega) h')
    | false =>
      refine ⟨hp.lt hN _, hp.lt hN _, ?_⟩
      rw [T.tot _ _ e]
      exact ⟨rfl, Nat.le_refl _, Nat.le_add_right _ _, rfl, h⟩
theorem count_ok (hN : 2 ≤ N) {p : Array Nat} (hp : Whole N p) : KOk N le (fun r => 1 ≤ r.1 ∧ r.1 ≤ N ∧ Whole N r.2 ∧ Inc (le := le) r.2 r.1) (kas_count N p) := by
  have hN0 : 0 < N := by omega
  unfold kas_count
  refine KOk.bind (asc_ok T hp hN0 (N - 1) 1 (Nat.le_refl _) (fun i j _ _ => by omega)) fun n ⟨h1, h2, h3, h4⟩ => ?_
  by_cases e : n = N
  · rw [if_pos (by simp [e])]
    exact ⟨h1, by omega, hp, h3⟩
  rw [if_neg (by simp [e])]
  by_cases g : n > 1
  · rw [if_pos g]
    refine ⟨hp.lt hN0 _, hp.lt hN0 _, ?_⟩
    rw [h3 0 (n - 1) (by omega) (by omega)]
    exact ⟨h1, by omega, hp, h3⟩
  rw [if_neg g]
  have hn : n = 1 := by omega
  subst hn
  have h4' := h4.resolve_left (by omega)
  unfold kas_descPart
  refine KOk.bind (desc_ok T hp hN0 (N - (1 + 1)) (1 + 1) (by omega) (fun i j hij hj => ?_)) ?_
  · have a : i = 0 := by omega
    have b : j = 1 := by omega
    subst a b; exact h4'
  rintro ⟨p', n', q'⟩ ⟨e1, e2, e3, e4, e5⟩
  dsimp only at e1 e2 e3 e4 e5
  subst e1 e4
  rw [if_neg (by simp)]
  unfold kas_tail3
  have hr : Whole N (kas_rev p' 0 n') := (mirror_perm _ _ _ _).trans hp
  refine KOk.bind (asc_ok T hr hN0 (N - n') n' (by omega) (fun i j hij hj => ?_)) fun m ⟨g1, g2, g3, _⟩ => ⟨by omega, by omega, hr, g3⟩
  have hs : n' ≤ p'.size := by rw [hp.size]; omega
  rw [getD_rev hs, getD_rev hs, if_pos (by omega), if_pos hj]
  exact e5 _ _ (by omega) (by omega)
theorem place_ok' {p : Array Nat} (hp : Whole N p) (hN : 0 < N) {k : Nat} (hi : Inc (le := le) p k) : ∀ (f l r : Nat), l ≤ r → r ≤ k → r - l ≤ f → (∀ i, i < l → le (p.getD i 0) (p.getD k 0) = true) → (∀ i, r ≤ i → i < k → le (p.getD k 0) (p.getD i 0) = true) →
    KOk N le (fun m => m ≤ k ∧ (∀ i, i < m → le (p.getD i 0) (p.getD k 0) = true) ∧ (∀ i, m ≤ i → i < k → le (p.getD k 0) (p.getD i 0) = true)) (kas_place p k f l r)
  | 0, l, r, h1, h2, h3, h4, h5 => by
    have : r = l := by omega
    subst this
    exact ⟨h2, h4, h5⟩
  | f + 1, l, r, h1, h2, h3, h4, h5 => by
    unfold kas_place
    by_cases g : l ≥ r
    · rw [if_pos g]
      have : r = l := by omega
      subst this
      exact ⟨h2, h4, h5⟩
    rw [if_neg g]
    refine ⟨hp.lt hN _, hp.lt hN _, ?_⟩
    have m1 : l ≤ (l + r) / 2 := by omega
    have m2 : (l + r) / 2 < r := by omega
    generalize (l + r) / 2 = c at m1 m2
    cases e : le (p.getD k 0) (p.getD c 0) with
    | true =>
      refine place_ok' hp hN hi f l c m1 (by omega) (by omega) h4 fun i hi1 hi2 => ?_
      by_cases q : i = c
      · rw [q]; exact e
      · exact T.tr _ _ _ e (hi c i (by omega) hi2)
    | false =>
      have e' := T.tot _ _ e
      refine place_ok' hp hN hi f (c + 1) r (by omega) h2 (by omega) (fun i hi1 => ?_) h5
      by_cases q : i = c
      · rw [q]; exact e'
      · exact T.tr _ _ _ (hi i c (by omega) (by omega)) e'
theorem bin_ok (hN : 0 < N) : ∀ (f : Nat) {p : Array Nat} {k : Nat}, Whole N p → k + f = N → Inc (le := le) p k → KOk N le (fun r => Whole N r ∧ Inc (le := le) r N) (kas_bin f p k)
  | 0, p, k, hp, hk, hi => by
    have : k = N := by omega
    subst this
    exact ⟨hp, hi⟩
  | f + 1, p, k, hp, hk, hi => by
    refine KOk.bind (place_ok' T hp hN hi k 0 k (Nat.zero_le _) (Nat.le_refl _) (by omega) (fun i h => by omega) (fun i h1 h2 => by omega)) fun l ⟨g1, g2, g3⟩ => ?_
    refine bin_ok hN f ((bubble_perm _ _ _).trans hp) (by omega) fun i j hij hj => ?_
    have hs : k < p.size := by rw [hp.size]; omega
    rw [getD_bub hs (by omega), getD_bub hs (by omega)]
    have ek : k - (k - l) = l := by omega
    rw [ek]
    by_cases i1 : i = l
    · rw [if_pos i1]
      rw [if_neg (by omega : ¬ j = l), if_pos ⟨by omega, by omega⟩]
      exact g3 _ (by omega) (by omega)
    rw [if_neg i1]
    by_cases j1 : j = l
    · rw [if_pos j1, if_neg (by omega)]
      exact g2 _ (by omega)
    rw [if_neg j1]
    by_cases i2 : l < i ∧ i ≤ k
    · rw [if_pos i2, if_pos ⟨by omega, by omega⟩]
      exact hi _ _ (by omega) (by omega)
    rw [if_neg i2]
    by_cases j2 : l < j ∧ j ≤ k
    · rw [if_pos j2]
      by_cases q : i = j - 1
      · omega
      · exact hi _ _ (by omega) (by omega)
    rw [if_neg j2]
    exact hi _ _ hij (by omega)
theorem sort_ok (hN : 2 ≤ N) : KOk N le (fun r => Whole N r ∧ Inc (le := le) r N) (kas_sort N) := by
  unfold kas_sort
  refine KOk.bind (count_ok T hN (Array.Perm.refl _)) fun r ⟨h1, h2, h3, h4⟩ => ?_
  by_cases e : r.1 < N
  · rw [if_pos e]
    have hm : max r.1 1 = r.1 := by omega
    rw [hm]
    exact bin_ok T (by omega) _ h3 (by omega) h4
  · rw [if_neg e]
    have : r.1 = N := by omega
    exact ⟨h3, this ▸ h4⟩
end
/-- two sorted orders of one list of faults are one -/
theorem sorted_unique {α : Type} {le : α → α → Bool} (h : LeB le) : ∀ {a b : List α}, a.Perm b → a.Pairwise (fun x y => le x y = true) → b.Pairwise (fun x y => le x y = true) → a = b
  | [], b, hp, _, _ => (List.Perm.nil_eq hp)
  | x :: a, [], hp, _, _ => by simpa using hp.length_eq
  | x :: a, y :: b, hp, ha, hb => by
    rw [List.pairwise_cons] at ha hb
    have e : x = y := by
      have hx : x ∈ y :: b := hp.mem_iff.mp (.head _)
      have hy : y ∈ x :: a := hp.mem_iff.mpr (.head _)
      rcases List.mem_cons.mp hx with e | hx
      · exact e
      rcases List.mem_cons.mp hy with e | hy
      · exact e.symm
      exact h.anti _ _ (ha.1 _ hy) (hb.1 _ hx)
    subst e
    rw [sorted_unique h ((List.perm_cons x).mp hp) ha.2 hb.2]
end Mine

namespace Mine
open PySem.SeqAt
def Ext (h h' : Heap) : Prop := ∀ a o, h.get? a = some o → h'.get? a = some o
def TupKeep (h h' : Heap) : Prop := ∀ a o vs n, h.get? a = some o → o.cls = .type "tuple" → o.data = .seq vs n → h'.get? a = some o
theorem Ext.rfl' {h : Heap} : Ext h h := fun _ _ e => e
theorem Ext.trans {a b c : Heap} (x : Ext a b) (y : Ext b c) : Ext a c := fun p o e => y p o (x p o e)
theorem Ext.tup {h h' : Heap} (x : Ext h h') : TupKeep h h' := fun a o _ _ e _ _ => x a o e
theorem TupKeep.trans {a b c : Heap} (x : TupKeep a b) (y : TupKeep b c) : TupKeep a c := fun p o vs n e k d => y p o vs n (x p o vs n e k d) k d

def Part.data : Part → PyData
  | .int i => .int i
  | .str x => .str x
  | .tup ns => .tuple (ns.map .int)
def Part.ok : Part → Bool
  | .str x => PyData.strOk x
  | _ => true

inductive PartAt (h : Heap) : Value → Part → Prop
  | int (i : Int) (t : Tok) : PartAt h (.int i t) (.int i)
  | str (x : Str) (t : Tok) : PartAt h (.str x t) (.str x)
  | tup {a : Addr} {vs : List Value} {ns : List Int} : IsTup h a vs.toArray → IntsAre vs ns → PartAt h (.ref a) (.tup ns)
def PathAt (h : Heap) (v : Value) (p : List Part) : Prop := ∃ a vs, v = .ref a ∧ IsTup h a vs.toArray ∧ Paired (PartAt h) vs p

theorem isTup_keep {h h' : Heap} {a : Addr} {vs : Array Value} (x : IsTup h a vs) (k : TupKeep h h') : IsTup h' a vs :=
  let ⟨o, ho, hc, n, hd⟩ := x; ⟨o, k a o vs n ho hc hd, hc, n, hd⟩
theorem PartAt.keep {h h' : Heap} {v : Value} {p : Part} (x : PartAt h v p) (k : TupKeep h h') : PartAt h' v p := by
  cases x with
  | int i t => exact .int i t
  | str x t => exact .str x t
  | tup a b => exact .tup (isTup_keep a k) b
theorem Paired.imp {α β : Type} {F G : α → β → Prop} (hi : ∀ a b, F a b → G a b) : ∀ {xs : List α} {ys : List β}, Paired F xs ys → Paired G xs ys
  | _, _, .nil => .nil
  | _, _, .cons a b => .cons (hi _ _ a) (Paired.imp hi b)
theorem PathAt.keep {h h' : Heap} {v : Value} {p : List Part} (x : PathAt h v p) (k : TupKeep h h') : PathAt h' v p :=
  let ⟨a, vs, e, ht, hp⟩ := x; ⟨a, vs, e, isTup_keep ht k, Paired.imp (fun _ _ q => q.keep k) hp⟩
theorem paired_length {α β : Type} {F : α → β → Prop} : ∀ {xs : List α} {ys : List β}, Paired F xs ys → xs.length = ys.length
  | _, _, .nil => rfl
  | _, _, .cons _ b => by rw [List.length_cons, List.length_cons, paired_length b]
theorem paired_get {α β : Type} {F : α → β → Prop} : ∀ {xs : List α} {ys : List β}, Paired F xs ys → ∀ (i : Nat) (hi : i < ys.length), ∃ v, xs[i]? = some v ∧ F v ys[i]
  | _, _, .nil, i, hi => absurd hi (Nat.not_lt_zero _)
  | _, _, .cons a b, 0, hi => ⟨_, rfl, a⟩
  | _, _, .cons a b, i + 1, hi => by
    obtain ⟨v, h1, h2⟩ := paired_get b i (by simpa using hi)
    exact ⟨v, by simpa using h1, by simpa using h2⟩
theorem paired_append {α β : Type} {F : α → β → Prop} : ∀ {xs xs' : List α} {ys ys' : List β}, Paired F xs ys → Paired F xs' ys' → Paired F (xs ++ xs') (ys ++ ys')
  | _, _, _, _, .nil, h => h
  | _, _, _, _, .cons a b, h => .cons a (paired_append b h)
theorem paired_take {α β : Type} {F : α → β → Prop} : ∀ {xs : List α} {ys : List β} (n : Nat), Paired F xs ys → Paired F (xs.take n) (ys.take n)
  | _, _, 0, _ => by simp; exact .nil
  | _, _, n + 1, .nil => .nil
  | _, _, n + 1, .cons a b => .cons a (paired_take n b)
theorem paired_drop {α β : Type} {F : α → β → Prop} : ∀ {xs : List α} {ys : List β} (n : Nat), Paired F xs ys → Paired F (xs.drop n) (ys.drop n)
  | _, _, 0, h => h
  | _, _, n + 1, .nil => .nil
  | _, _, n + 1, .cons a b => paired_drop n b

theorem ints_reads {h : Heap} : ∀ {vs : List Value} {ns : List Int}, IntsAre vs ns → ∃ as, ReadsAll h vs (ns.map PyData.int) as
  | _, _, .nil => ⟨_, .nil⟩
  | _, _, .cons n t r => let ⟨as, q⟩ := ints_reads r; ⟨_, .cons (.int n t) q⟩
theorem PartAt.reads {h : Heap} {v : Value} {p : Part} (x : PartAt h v p) : ∃ as, Reads h v p.data as := by
  cases x with
  | int i t => exact ⟨_, .int i t⟩
  | str x t => exact ⟨_, .str x t⟩
  | tup a b =>
    obtain ⟨o, ho, hc, n, hd⟩ := a
    obtain ⟨as, q⟩ := ints_reads (h := h) b
    exact ⟨as, reads_tuple_at ho hc hd (by simpa using q)⟩
theorem parts_reads {h : Heap} : ∀ {vs : List Value} {ps : List Part}, Paired (PartAt h) vs ps → ∃ as, ReadsAll h vs (ps.map Part.data) as
  | _, _, .nil => ⟨_, .nil⟩
  | _, _, .cons a b => let ⟨_, q⟩ := a.reads; let ⟨_, r⟩ := parts_reads b; ⟨_, .cons q r⟩
theorem PathAt.reads {h : Heap} {v : Value} {p : List Part} (x : PathAt h v p) : ∃ as, Reads h v (.tuple (p.map Part.data)) as := by
  obtain ⟨a, vs, rfl, ⟨o, ho, hc, n, hd⟩, hp⟩ := x
  obtain ⟨as, q⟩ := parts_reads hp
  exact ⟨as, reads_tuple_at ho hc hd (by simpa using q)⟩

theorem ints_lay : ∀ ns : List Int, PyData.canLayAll0 (ns.map PyData.int) = true ∧ PyData.depthAll (ns.map PyData.int) ≤ 1
  | [] => by simp [PyData.canLayAll0, PyData.depthAll]
  | n :: ns => by
    have := ints_lay ns
    simp only [List.map_cons, PyData.canLayAll0, PyData.depthAll, PyData.canLay0, PyData.depth, this.1, Bool.and_self, true_and]
    have h := this.2
    omega
theorem part_lay : ∀ {p : Part}, p.ok = true → p.data.canLay0 = true ∧ p.data.depth ≤ 2
  | .int i, _ => by simp [Part.data, PyData.canLay0, PyData.depth]
  | .str x, h => by
    have h' : PyData.strOk x = true := h
    simp [Part.data, PyData.canLay0, PyData.depth, h']
  | .tup ns, _ => by
    have := ints_lay ns
    have h := this.2
    simp only [Part.data, PyData.canLay0, PyData.depth, this.1, true_and]
    omega
theorem parts_lay : ∀ {ps : List Part}, (∀ p ∈ ps, p.ok = true) → PyData.canLayAll0 (ps.map Part.data) = true ∧ PyData.depthAll (ps.map Part.data) ≤ 2
  | [], _ => by simp [PyData.canLayAll0, PyData.depthAll]
  | p :: ps, h => by
    have h1 := part_lay (h p (.head _))
    have h2 := parts_lay fun q hq => h q (.tail _ hq)
    have a1 := h1.2
    have a2 := h2.2
    simp only [List.map_cons, PyData.canLayAll0, PyData.depthAll, h1.1, h2.1, Bool.and_self, true_and]
    omega
theorem ints_eqv : ∀ a b : List Int, PyData.eqvAll (a.map PyData.int) (b.map PyData.int) = lexE (fun a b : Int => a == b) a b
  | [], [] => rfl
  | [], _ :: _ => rfl
  | _ :: _, [] => rfl
  | x :: a, y :: b => by simp only [List.map_cons, PyData.eqvAll, PyData.eqv, lexE, ints_eqv a b]
theorem str_beq (x y : Str) : (x == y) = (x.cps.toList == y.cps.toList) := by
  cases h : x.cps.toList == y.cps.toList with
  | true => have := str_ext (by simpa using h : x.cps.toList = y.cps.toList); subst this; exact beq_self_eq_true _
  | false =>
    cases q : x == y with
    | false => rfl
    | true => have := eq_of_beq q; subst this; simp at h
theorem part_eqv : ∀ a b : Part, PyData.eqv a.data b.data = pEq a b := by
  intro a b
  cases a <;> cases b <;> simp only [Part.data, PyData.eqv, pEq]
  · exact str_beq _ _
  · exact ints_eqv _ _
theorem parts_eqv : ∀ a b : List Part, PyData.eqvAll (a.map Part.data) (b.map Part.data) = lexE pEq a b
  | [], [] => rfl
  | [], _ :: _ => rfl
  | _ :: _, [] => rfl
  | x :: a, y :: b => by simp only [List.map_cons, PyData.eqvAll, part_eqv, lexE, parts_eqv a b]

section
variable {prog : Program} {w : World} {A : Around} {E : Value → Shared → Prop} {s : Shared} {Q : Value → Shared → Prop} {u v : Value} {p q : Part} {x y : List Part}
theorem PartAt.eqAt (hu : PartAt s.heap u p) (hv : PartAt s.heap v q) (op : p.ok = true) (oq : q.ok = true) (hr : A.units + 4 < cLine) : EqAt A s u v (pEq p q) := by
  obtain ⟨as, ra⟩ := hu.reads
  obtain ⟨bs, rb⟩ := hv.reads
  have lp := part_lay op
  have lq := part_lay oq
  rw [← part_eqv]
  refine eqAt_reads _ _ _ _ _ _ _ _ ra rb lp.1 lq.1 ?_
  have := lp.2
  omega
theorem shaped_path (ox : ∀ p ∈ x, p.ok = true) : shaped (.tuple (x.map Part.data)) = true := by
  have l := parts_lay ox
  have l2 := l.2
  unfold shaped
  simp only [PyData.canLay0, PyData.depth, l.1, Bool.true_and]
  exact decide_eq_true (by omega)
theorem path_eq (hx : PathAt s.heap u x) (hy : PathAt s.heap v y) (ox : ∀ p ∈ x, p.ok = true) (oy : ∀ p ∈ y, p.ok = true) (hr : A.units + 64 < cLine) (h : Q (.bool (lexE pEq x y)) s) :
    wpAny (model prog w) A (compareOp .Eq u v) Q E s := by
  obtain ⟨as, ra⟩ := hx.reads
  obtain ⟨bs, rb⟩ := hy.reads
  refine eq_dataH ra rb (shaped_path ox) (shaped_path oy) hr ?_
  rw [PyData.eqv, parts_eqv]; exact h
theorem path_ne (hx : PathAt s.heap u x) (hy : PathAt s.heap v y) (ox : ∀ p ∈ x, p.ok = true) (oy : ∀ p ∈ y, p.ok = true) (hr : A.units + 64 < cLine) (h : Q (.bool (!lexE pEq x y)) s) :
    wpAny (model prog w) A (compareOp .NotEq u v) Q E s := by
  obtain ⟨as, ra⟩ := hx.reads
  obtain ⟨bs, rb⟩ := hy.reads
  refine ne_dataH ra rb (shaped_path ox) (shaped_path oy) hr ?_
  rw [PyData.eqv, parts_eqv]; exact h
theorem part_shaped (op : p.ok = true) : shaped p.data = true := by
  have l := part_lay op
  have l2 := l.2
  simp only [shaped, l.1, Bool.true_and, decide_eq_true_eq]
  omega
theorem part_eq (hx : PartAt s.heap u p) (hy : PartAt s.heap v q) (ox : p.ok = true) (oy : q.ok = true) (hr : A.units + 64 < cLine) (h : Q (.bool (pEq p q)) s) :
    wpAny (model prog w) A (compareOp .Eq u v) Q E s := by
  obtain ⟨as, ra⟩ := hx.reads
  obtain ⟨bs, rb⟩ := hy.reads
  refine eq_dataH ra rb (part_shaped ox) (part_shaped oy) hr ?_
  rw [part_eqv]; exact h

/-! order comparisons -/
theorem rc_tupleLe {l b : Addr} {xs ys : Array Value} {res : Bool} (hl : IsTup s.heap l xs) (hb : IsTup s.heap b ys) (hu : A.units < cLine) (hx : Lex .LtE A.in1 s (decide (xs.size ≤ ys.size)) (xs.toList.zip ys.toList) res) :
    RcOp .LtE A s (.ref l) (.ref b) res := fun prog w E Q h => by
  obtain ⟨⟨cls, dd, data, sl⟩, ho, hc, n, hd⟩ := id hl
  obtain ⟨⟨cls2, dd2, data2, sl2⟩, ho2, hc2, n2, hd2⟩ := id hb
  simp only at hc hd hc2 hd2
  subst hc hd hc2 hd2
  exact richCompare_meets_room (op := .LtE) ⟨_, ho, rfl⟩ ⟨_, ho2, rfl⟩ F.slot_tuple_le F.entry_tuple_le (F.args_tuple_le_2 _ _) (tuple_leAt l b xs ys n n2 dd dd2 sl sl2 res)
    ⟨ho, ho2, hx, show Value.bool res ≠ Value.notImplemented ∧ Q (.bool res) s from ⟨(fun x => nomatch x), h⟩⟩ hu
theorem rc_tupleLt {l b : Addr} {xs ys : Array Value} {res : Bool} (hl : IsTup s.heap l xs) (hb : IsTup s.heap b ys) (hu : A.units < cLine) (hx : Lex .Lt A.in1 s (decide (xs.size < ys.size)) (xs.toList.zip ys.toList) res) :
    RcOp .Lt A s (.ref l) (.ref b) res := fun prog w E Q h => by
  obtain ⟨⟨cls, dd, data, sl⟩, ho, hc, n, hd⟩ := id hl
  obtain ⟨⟨cls2, dd2, data2, sl2⟩, ho2, hc2, n2, hd2⟩ := id hb
  simp only at hc hd hc2 hd2
  subst hc hd hc2 hd2
  exact richCompare_meets_room (op := .Lt) ⟨_, ho, rfl⟩ ⟨_, ho2, rfl⟩ F.slot_tuple_lt F.entry_tuple_lt (F.args_tuple_lt_2 _ _) (tuple_ltAt l b xs ys n n2 dd dd2 sl sl2 res)
    ⟨ho, ho2, hx, show Value.bool res ≠ Value.notImplemented ∧ Q (.bool res) s from ⟨(fun x => nomatch x), h⟩⟩ hu
theorem rc_listLe {l b : Addr} {xs ys : Array Value} {res : Bool} (hl : s.heap.IsList l xs) (hb : s.heap.IsList b ys) (hu : A.units < cLine) (hx : Lex .LtE A.in1 s (decide (xs.size ≤ ys.size)) (xs.toList.zip ys.toList) res) :
    RcOp .LtE A s (.ref l) (.ref b) res := fun prog w E Q h => by
  obtain ⟨⟨cls, dd, data, sl⟩, ho, hc, n, hd⟩ := id hl
  obtain ⟨⟨cls2, dd2, data2, sl2⟩, ho2, hc2, n2, hd2⟩ := id hb
  simp only at hc hd hc2 hd2
  subst hc hd hc2 hd2
  exact richCompare_meets_room (op := .LtE) ⟨_, ho, rfl⟩ ⟨_, ho2, rfl⟩ F.slot_list_le F.entry_list_le (F.args_list_le_2 _ _) (list_leAt l b xs ys n n2 dd dd2 sl sl2 res)
    ⟨ho, ho2, hx, show Value.bool res ≠ Value.notImplemented ∧ Q (.bool res) s from ⟨(fun x => nomatch x), h⟩⟩ hu

theorem rc_int_le {i j : Int} {t u : Tok} : RcOp .LtE A s (.int i t) (.int j u) (decide (i ≤ j)) := fun prog w E Q h =>
  richCompare_gives (op := .LtE) (typeIs_int s _ t) (typeIs_int s _ u) F.slot_int_le F.entry_int_le (F.args_int_le_2 _ _) (gives_int_le _ _ t u) (fun x => nomatch x) h
theorem rc_int_lt {i j : Int} {t u : Tok} : RcOp .Lt A s (.int i t) (.int j u) (decide (i < j)) := fun prog w E Q h =>
  richCompare_gives (op := .Lt) (typeIs_int s _ t) (typeIs_int s _ u) F.slot_int_lt F.entry_int_lt (F.args_int_lt_2 _ _) (gives_int_lt _ _ t u) (fun x => nomatch x) h
theorem rc_str_le {i j : Str} {t u : Tok} : RcOp .LtE A s (.str i t) (.str j u) (!(decide (j.cps.toList < i.cps.toList))) := fun prog w E Q h => P.le_str (E := E) h
theorem rc_str_lt {i j : Str} {t u : Tok} : RcOp .Lt A s (.str i t) (.str j u) (decide (i.cps.toList < j.cps.toList)) := fun prog w E Q h => P.lt_str (E := E) h
theorem eq_ints {i j : Int} {t u : Tok} (hr : A.units + 4 < cLine) : EqAt A s (.int i t) (.int j u) (i == j) :=
  PartAt.eqAt (p := .int i) (q := .int j) (.int i t) (.int j u) rfl rfl hr

theorem lex_ints_lt (hr : A.units + 4 < cLine) : ∀ {vs ws : List Value} {ns ms : List Int}, IntsAre vs ns → IntsAre ws ms → Lex .Lt A s (decide (vs.length < ws.length)) (vs.zip ws) (lexL (fun a b : Int => a == b) (fun a b => decide (a < b)) ns ms)
  | _, _, _, _, .nil, .nil => .nil
  | _, _, _, _, .nil, .cons n t r => by simpa [lexL] using Lex.nil
  | _, _, _, _, .cons n t r, .nil => by simpa [lexL] using Lex.nil
  | _, _, _, _, .cons n t r, .cons m u q => by
    have ih := lex_ints_lt hr r q
    simp only [List.length_cons, Nat.add_lt_add_iff_right, List.zip_cons_cons, lexL]
    by_cases e : n = m
    · rw [if_pos (by simpa using e)]
      exact .eq (by have := eq_ints (s := s) (i := n) (j := m) (t := t) (u := u) hr; rwa [show (n == m) = true by simpa using e] at this) ih
    · rw [if_neg (by simpa using e)]
      exact .ne (by have := eq_ints (s := s) (i := n) (j := m) (t := t) (u := u) hr; rwa [show (n == m) = false by simpa using e] at this) rc_int_lt
theorem lex_ints_le (hr : A.units + 4 < cLine) : ∀ {vs ws : List Value} {ns ms : List Int}, IntsAre vs ns → IntsAre ws ms → Lex .LtE A s (decide (vs.length ≤ ws.length)) (vs.zip ws) (lexLe (fun a b : Int => a == b) (fun a b => decide (a < b)) ns ms)
  | _, _, _, _, .nil, .nil => .nil
  | _, _, _, _, .nil, .cons n t r => by simpa [lexLe] using Lex.nil
  | _, _, _, _, .cons n t r, .nil => by simpa [lexLe] using Lex.nil
  | _, _, _, _, .cons n t r, .cons m u q => by
    have ih := lex_ints_le hr r q
    simp only [List.length_cons, Nat.add_le_add_iff_right, List.zip_cons_cons, lexLe]
    by_cases e : n = m
    · rw [if_pos (by simpa using e)]
      exact .eq (by have := eq_ints (s := s) (i := n) (j := m) (t := t) (u := u) hr; rwa [show (n == m) = true by simpa using e] at this) ih
    · rw [if_neg (by simpa using e)]
      refine .ne (by have := eq_ints (s := s) (i := n) (j := m) (t := t) (u := u) hr; rwa [show (n == m) = false by simpa using e] at this) ?_
      have := rc_int_le (A := A) (s := s) (i := n) (j := m) (t := t) (u := u)
      rwa [show decide (n ≤ m) = decide (n < m) by simp; omega] at this

/-- within one kind -/
theorem part_lt (hx : PartAt s.heap u p) (hy : PartAt s.heap v q) (hk : p.kind = q.kind) (hr : A.units + 8 < cLine) : RcOp .Lt A s u v (pLt p q) := by
  cases hx with
  | int i t => cases hy with
    | int j t' => exact rc_int_lt
    | str => cases hk
    | tup => cases hk
  | str i t => cases hy with
    | str j t' => exact rc_str_lt
    | int => cases hk
    | tup => cases hk
  | tup a b => cases hy with
    | tup c d => exact rc_tupleLt a c (by omega) (by simpa [pLt] using lex_ints_lt (A := A.in1) (s := s) (by simp only [Around.in1_units]; omega) b d)
    | int => cases hk
    | str => cases hk
theorem part_le (hx : PartAt s.heap u p) (hy : PartAt s.heap v q) (hk : p.kind = q.kind) (hn : pEq p q = false) (hr : A.units + 8 < cLine) : RcOp .LtE A s u v (pLt p q) := by
  cases hx with
  | int i t => cases hy with
    | int j t' =>
      have := rc_int_le (A := A) (s := s) (i := i) (j := j) (t := t) (u := t')
      simp only [pEq, beq_eq_false_iff_ne, ne_eq] at hn
      simp only [pLt]
      rwa [show decide (i ≤ j) = decide (i < j) by simp; omega] at this
    | str => cases hk
    | tup => cases hk
  | str i t => cases hy with
    | str j t' =>
      have := rc_str_le (A := A) (s := s) (i := i) (j := j) (t := t) (u := t')
      simp only [pEq] at hn
      simp only [pLt]
      rwa [show (!decide (j.cps.toList < i.cps.toList)) = decide (i.cps.toList < j.cps.toList) by
        rw [nats_lt, nats_lt]
        have hn' : lexE (fun a b : Nat => a == b) i.cps.toList j.cps.toList = false := by
          cases z : lexE (fun a b : Nat => a == b) i.cps.toList j.cps.toList with
          | false => rfl
          | true => have := (lin_nat.lex.eq_iff _ _).mp z; simp only [this, beq_self_eq_true] at hn; cases hn
        cases z : lexL (fun a b : Nat => a == b) (fun a b => decide (a < b)) i.cps.toList j.cps.toList with
        | true => rw [lin_nat.lex.asym z]; rfl
        | false => rw [lin_nat.lex.tot _ _ hn' z]; rfl] at this
    | int => cases hk
    | tup => cases hk
  | tup a b => cases hy with
    | @tup c vs ms d1 d =>
      refine rc_tupleLe a d1 (by omega) ?_
      have := lex_ints_le (A := A.in1) (s := s) (by simp only [Around.in1_units]; omega) b d
      simp only [pEq] at hn
      simp only [pLt]
      have e := lexLe_eq lin_int
      rename_i ns
      have hz : lexLe (fun a b : Int => a == b) (fun a b => decide (a < b)) ns ms = lexL (fun a b : Int => a == b) (fun a b => decide (a < b)) ns ms := by
        rw [e]
        cases z : lexL (fun a b : Int => a == b) (fun a b => decide (a < b)) ns ms with
        | true => rw [lin_int.lex.asym z]; rfl
        | false => rw [lin_int.lex.tot _ _ hn z]; rfl
      rw [hz] at this
      simpa using this
    | int => cases hk
    | str => cases hk
end
end Mine

namespace Mine
open PySem.SeqAt
/-- an entry of a key: (kind, part) -/
def EntryAt (h : Heap) (v : Value) (p : Part) : Prop := ∃ a t u, v = .ref a ∧ IsTup h a [Value.int (p.kind : Int) t, u].toArray ∧ PartAt h u p
def KeyAt (h : Heap) (v : Value) (x : List Part) : Prop := ∃ l vs, v = .ref l ∧ h.IsList l vs.toArray ∧ Paired (EntryAt h) vs x
theorem EntryAt.keep {h h' : Heap} {v : Value} {p : Part} (x : EntryAt h v p) (k : TupKeep h h') : EntryAt h' v p :=
  let ⟨a, t, u, e, ht, hp⟩ := x; ⟨a, t, u, e, isTup_keep ht k, hp.keep k⟩
theorem isList_ext {h h' : Heap} {a : Addr} {vs : Array Value} (x : h.IsList a vs) (k : Ext h h') : h'.IsList a vs :=
  let ⟨o, ho, r⟩ := x; ⟨o, k a o ho, r⟩
theorem KeyAt.ext {h h' : Heap} {v : Value} {x : List Part} (y : KeyAt h v x) (k : Ext h h') : KeyAt h' v x :=
  let ⟨l, vs, e, hl, hp⟩ := y; ⟨l, vs, e, isList_ext hl k, Paired.imp (fun _ _ q => q.keep k.tup) hp⟩
/-- a list of paths -/
def RowAt (h : Heap) (v : Value) (xs : List (List Part)) : Prop := ∃ l vs, v = .ref l ∧ h.IsList l vs.toArray ∧ Paired (PathAt h) vs xs
theorem RowAt.ext {h h' : Heap} {v : Value} {x : List (List Part)} (y : RowAt h v x) (k : Ext h h') : RowAt h' v x :=
  let ⟨l, vs, e, hl, hp⟩ := y; ⟨l, vs, e, isList_ext hl k, Paired.imp (fun _ _ q => q.keep k.tup) hp⟩
/-- short, and its texts laid -/
def good (x : List Part) : Prop := x.length ≤ 3 ∧ ∀ p ∈ x, p.ok = true
def entD (p : Part) : PyData := .tuple [.int p.kind, p.data]
theorem EntryAt.reads {h : Heap} {v : Value} {p : Part} (x : EntryAt h v p) : ∃ as, Reads h v (entD p) as := by
  obtain ⟨a, t, u, rfl, ⟨o, ho, hc, n, hd⟩, hp⟩ := x
  obtain ⟨as, q⟩ := hp.reads
  exact ⟨_, reads_tuple_at ho hc hd (by simpa using ReadsAll.cons (.int _ t) (ReadsAll.cons q .nil))⟩
theorem ent_lay {p : Part} (h : p.ok = true) : (entD p).canLay0 = true ∧ (entD p).depth ≤ 4 := by
  have l := part_lay h
  have l2 := l.2
  simp only [entD, PyData.canLay0, PyData.canLayAll0, PyData.depth, PyData.depthAll, l.1, Bool.and_self, true_and]
  omega
theorem ent_eqv (p q : Part) : PyData.eqv (entD p) (entD q) = pEq p q := by
  simp only [entD, PyData.eqv, PyData.eqvAll, part_eqv, Bool.and_true]
  cases h : pEq p q with
  | false => simp
  | true => have := pEq_kind h; simp [this]
section
variable {prog : Program} {w : World} {A : Around} {E : Value → Shared → Prop} {s : Shared} {Q : Value → Shared → Prop} {u v : Value} {p q : Part} {x y : List Part}
theorem EntryAt.eqAt (hu : EntryAt s.heap u p) (hv : EntryAt s.heap v q) (op : p.ok = true) (oq : q.ok = true) (hr : A.units + 8 < cLine) : EqAt A s u v (pEq p q) := by
  obtain ⟨as, ra⟩ := hu.reads
  obtain ⟨bs, rb⟩ := hv.reads
  have lp := ent_lay op
  have lq := ent_lay oq
  rw [← ent_eqv]
  refine eqAt_reads _ _ _ _ _ _ _ _ ra rb lp.1 lq.1 ?_
  have := lp.2
  omega
theorem ent_shaped (op : p.ok = true) : shaped (entD p) = true := by
  have l := ent_lay op
  have l2 := l.2
  unfold shaped
  rw [l.1, Bool.true_and]
  exact decide_eq_true (by omega)
theorem ent_ne (hx : EntryAt s.heap u p) (hy : EntryAt s.heap v q) (ox : p.ok = true) (oy : q.ok = true) (hr : A.units + 64 < cLine) (h : Q (.bool (!pEq p q)) s) :
    wpAny (model prog w) A (compareOp .NotEq u v) Q E s := by
  obtain ⟨as, ra⟩ := hx.reads
  obtain ⟨bs, rb⟩ := hy.reads
  refine ne_dataH ra rb (ent_shaped ox) (ent_shaped oy) hr ?_
  rw [ent_eqv]; exact h
theorem ent_le (hx : EntryAt s.heap u p) (hy : EntryAt s.heap v q) (ox : p.ok = true) (oy : q.ok = true) (hn : pEq p q = false) (hr : A.units + 16 < cLine) : RcOp .LtE A s u v (pLt p q) := by
  obtain ⟨a, t, u, rfl, ha, hu⟩ := hx
  obtain ⟨b, t', v, rfl, hb, hv⟩ := hy
  have r1 : A.in1.units + 8 < cLine := by simp only [Around.in1_units]; omega
  refine rc_tupleLe ha hb (by omega) ?_
  have ek := eq_ints (A := A.in1) (s := s) (i := (p.kind : Int)) (j := (q.kind : Int)) (t := t) (u := t') (by omega)
  by_cases k : p.kind = q.kind
  · refine .eq (by rwa [show ((p.kind : Int) == (q.kind : Int)) = true by simp [k]] at ek) (.ne ?_ (part_le hu hv k hn r1))
    have := PartAt.eqAt (A := A.in1) hu hv ox oy (by omega)
    rwa [hn] at this
  · refine .ne (by rwa [show ((p.kind : Int) == (q.kind : Int)) = false by simp; omega] at ek) ?_
    rw [pLt_kind k, show decide (p.kind < q.kind) = decide ((p.kind : Int) ≤ (q.kind : Int)) by simp; omega]
    exact rc_int_le
theorem lex_keys (hr : A.units + 16 < cLine) : ∀ {vs ws : List Value} {x y : List Part}, Paired (EntryAt s.heap) vs x → Paired (EntryAt s.heap) ws y → (∀ p ∈ x, p.ok = true) → (∀ p ∈ y, p.ok = true) → Lex .LtE A s (decide (vs.length ≤ ws.length)) (vs.zip ws) (leRec x y)
  | _, _, _, _, .nil, .nil, _, _ => .nil
  | _, _, _, _, .nil, .cons .., _, _ => by simpa [leRec, lexLe] using Lex.nil
  | _, _, _, _, .cons .., .nil, _, _ => by simpa [leRec, lexLe] using Lex.nil
  | _, _, _, _, .cons (b := p) a b, .cons (b := q) c d, ox, oy => by
    have ih := lex_keys hr b d (fun z hz => ox z (.tail _ hz)) fun z hz => oy z (.tail _ hz)
    have e := EntryAt.eqAt (A := A) a c (ox _ (.head _)) (oy _ (.head _)) (by omega)
    simp only [List.length_cons, Nat.add_le_add_iff_right, List.zip_cons_cons, leRec, lexLe]
    cases z : pEq p q with
    | true => rw [if_pos rfl]; rw [z] at e; exact .eq e ih
    | false => rw [if_neg (by simp)]; rw [z] at e; exact .ne e (ent_le a c (ox _ (.head _)) (oy _ (.head _)) z hr)
theorem key_rc (hx : KeyAt s.heap u x) (hy : KeyAt s.heap v y) (ox : ∀ p ∈ x, p.ok = true) (oy : ∀ p ∈ y, p.ok = true) (hr : A.units + 20 < cLine) : RcOp .LtE A s u v (leRec x y) := by
  obtain ⟨l, vs, rfl, hl, hp⟩ := hx
  obtain ⟨l', ws, rfl, hl', hq⟩ := hy
  refine rc_listLe hl hl' (by omega) ?_
  have := lex_keys (A := A.in1) (s := s) (by simp only [Around.in1_units]; omega) hp hq ox oy
  simpa using this
theorem key_le (hx : KeyAt s.heap u x) (hy : KeyAt s.heap v y) (ox : ∀ p ∈ x, p.ok = true) (oy : ∀ p ∈ y, p.ok = true) (hr : A.units + 20 < cLine) (h : Q (.bool (leRec x y)) s) : wpAny (model prog w) A (compareOp .LtE u v) Q E s :=
  key_rc hx hy ox oy hr prog w E Q h

theorem ents_reads {h : Heap} : ∀ {vs : List Value} {ps : List Part}, Paired (EntryAt h) vs ps → ∃ as, ReadsAll h vs (ps.map entD) as
  | _, _, .nil => ⟨_, .nil⟩
  | _, _, .cons a b => let ⟨_, q⟩ := a.reads; let ⟨_, r⟩ := ents_reads b; ⟨_, .cons q r⟩
theorem ents_lay : ∀ {ps : List Part}, (∀ p ∈ ps, p.ok = true) → PyData.canLayAll0 (ps.map entD) = true ∧ PyData.depthAll (ps.map entD) ≤ 4
  | [], _ => by simp [PyData.canLayAll0, PyData.depthAll]
  | p :: ps, h => by
    have h1 := ent_lay (h p (.head _))
    have h2 := ents_lay fun q hq => h q (.tail _ hq)
    have a1 := h1.2
    have a2 := h2.2
    simp only [List.map_cons, PyData.canLayAll0, PyData.depthAll, h1.1, h2.1, Bool.and_self, true_and]
    omega
theorem ents_eqv : ∀ a b : List Part, PyData.eqvAll (a.map entD) (b.map entD) = lexE pEq a b
  | [], [] => rfl
  | [], _ :: _ => rfl
  | _ :: _, [] => rfl
  | x :: a, y :: b => by simp only [List.map_cons, PyData.eqvAll, ent_eqv, lexE, ents_eqv a b]
theorem KeyAt.eqAt (hx : KeyAt s.heap u x) (hy : KeyAt s.heap v y) (ox : ∀ p ∈ x, p.ok = true) (oy : ∀ p ∈ y, p.ok = true) (hr : A.units + 12 < cLine) : EqAt A s u v (lexE pEq x y) := by
  obtain ⟨l, vs, rfl, ⟨o, ho, hc, n, hd⟩, hp⟩ := hx
  obtain ⟨l', ws, rfl, ⟨o', ho', hc', n', hd'⟩, hq⟩ := hy
  obtain ⟨as, ra⟩ := ents_reads hp
  obtain ⟨bs, rb⟩ := ents_reads hq
  have la := ents_lay ox
  have lb := ents_lay oy
  have la2 := la.2
  have e : lexE pEq x y = PyData.eqv (.list (x.map entD)) (.list (y.map entD)) := by rw [PyData.eqv, ents_eqv]
  rw [e]
  refine eqAt_reads _ _ _ _ _ _ _ _ (reads_list_at ho hc hd (by simpa using ra)) (reads_list_at ho' hc' hd' (by simpa using rb)) (by simp only [PyData.canLay0, la.1]) (by simp only [PyData.canLay0, lb.1]) ?_
  simp only [PyData.depth]
  omega
/-- two pairs of keys -/
theorem keys2_le {a b : Addr} {u' v' : Value} {x' y' : List Part} (ha : IsTup s.heap a [u, u'].toArray) (hb : IsTup s.heap b [v, v'].toArray) (hx : KeyAt s.heap u x) (hx' : KeyAt s.heap u' x') (hy : KeyAt s.heap v y) (hy' : KeyAt s.heap v' y')
    (ox : ∀ p ∈ x, p.ok = true) (oy : ∀ p ∈ y, p.ok = true) (ox' : ∀ p ∈ x', p.ok = true) (oy' : ∀ p ∈ y', p.ok = true) (hr : A.units + 32 < cLine) (h : Q (.bool (fLe (x, x') (y, y'))) s) : wpAny (model prog w) A (compareOp .LtE (.ref a) (.ref b)) Q E s := by
  have r1 : A.in1.units + 24 < cLine := by simp only [Around.in1_units]; omega
  refine rc_tupleLe (res := fLe (x, x') (y, y')) ha hb (by omega) ?_ prog w E Q h
  have e := KeyAt.eqAt (A := A.in1) hx hy ox oy (by omega)
  have e' := KeyAt.eqAt (A := A.in1) hx' hy' ox' oy' (by omega)
  have c := key_rc (A := A.in1) hx hy ox oy (by omega)
  have c' := key_rc (A := A.in1) hx' hy' ox' oy' (by omega)
  unfold fLe
  dsimp only
  cases z : lexE pEq x y with
  | false => rw [if_neg (by simp)]; rw [z] at e; exact .ne e c
  | true =>
    rw [if_pos rfl]
    rw [z] at e
    refine .eq e ?_
    cases z' : lexE pEq x' y' with
    | false => rw [z'] at e'; exact .ne e' c'
    | true =>
      rw [z'] at e'
      have := (lin_part.lex.eq_iff _ _).mp z'
      subst this
      rw [show leRec x' x' = true from le_paths.rfl' _]
      exact .eq e' (by simpa using Lex.nil)
end
end Mine

namespace Mine
/-- sequences off ex are kept -/
def Sk (ex : List Addr) (h h' : Heap) : Prop := ∀ a o vs n, h.get? a = some o → o.data = .seq vs n → a ∉ ex → h'.get? a = some o
theorem Sk.rfl' {ex : List Addr} {h : Heap} : Sk ex h h := fun _ _ _ _ e _ _ => e
theorem Sk.trans {ex : List Addr} {a b c : Heap} (x : Sk ex a b) (y : Sk ex b c) : Sk ex a c := fun p o vs n e d k => y p o vs n (x p o vs n e d k) d k
theorem Sk.more {ex ex' : List Addr} {a b : Heap} (x : Sk ex a b) (hs : ∀ p ∈ ex, p ∈ ex') : Sk ex' a b := fun p o vs n e d k => x p o vs n e d fun hm => k (hs _ hm)
theorem Ext.sk {ex : List Addr} {h h' : Heap} (x : Ext h h') : Sk ex h h' := fun a o _ _ e _ _ => x a o e
theorem Sk.tup0 {h h' : Heap} (x : Sk [] h h') : TupKeep h h' := fun a o vs n e _ d => x a o vs n e d (fun q => nomatch q)
theorem Sk.tup {ex : List Addr} {h h' : Heap} (x : Sk ex h h') (he : ∀ a ∈ ex, ∀ o, h.get? a = some o → o.cls ≠ .type "tuple") : TupKeep h h' := fun a o vs n e c d => x a o vs n e d fun hm => he a hm o e c
theorem Sk.list {ex : List Addr} {h h' : Heap} {l : Addr} {vs : Array Value} (x : Sk ex h h') (hl : h.IsList l vs) (he : l ∉ ex) : h'.IsList l vs :=
  let ⟨o, ho, hc, n, hd⟩ := hl; ⟨o, x l o vs n ho hd he, hc, n, hd⟩
theorem KeyAt.sk0 {h h' : Heap} {v : Value} {x : List Part} (y : KeyAt h v x) (k : Sk [] h h') : KeyAt h' v x :=
  let ⟨l, vs, e, hl, hp⟩ := y; ⟨l, vs, e, k.list hl (fun q => nomatch q), Paired.imp (fun _ _ q => q.keep k.tup0) hp⟩

/-- all off the frame and ex is kept -/
def Kp (L : Addr) (ex : List Addr) (h h' : Heap) : Prop := ∀ a o, h.get? a = some o → a ≠ L → a ∉ ex → h'.get? a = some o
theorem Kp.rfl' {L : Addr} {ex : List Addr} {h : Heap} : Kp L ex h h := fun _ _ e _ _ => e
theorem Kp.trans {L : Addr} {ex : List Addr} {a b c : Heap} (x : Kp L ex a b) (y : Kp L ex b c) : Kp L ex a c := fun p o e d k => y p o (x p o e d k) d k
theorem Kp.sk {h₀ h h' : Heap} {L : Addr} {ex : List Addr} {m : Str → Option Value} (x : Kp L ex h h') (F : Fr h₀ L h m) : Sk ex h h' := fun a o vs n e d he => by
  refine x a o e (fun q => ?_) he
  obtain ⟨o', es, ep, ho, hd, _⟩ := F.ns
  rw [q, ho] at e; cases e
  rw [hd] at d; cases d
theorem Ext.kp {L : Addr} {ex : List Addr} {h h' : Heap} (x : Ext h h') : Kp L ex h h' := fun a o e _ _ => x a o e

/-- the ledger tl bears all that h has off the base, the frame and ex -/
structure Froz (h₀ : Heap) (L : Addr) (ex : List Addr) (tl : List (Addr × Obj)) (h : Heap) : Prop where
  all : ∀ a o, h.get? a = some o → h₀.get? a = none → a ≠ L → a ∉ ex → (a, o) ∈ tl
  off : OwnOff tl ex
  base : Ext h₀ h
  ns : ∃ o es n, h.get? L = some o ∧ o.data = .dict es n

theorem freeze {h₀ h : Heap} {L : Addr} {m : Str → Option Value} (ex : List Addr) (F : Fr h₀ L h m) : ∃ tl, News h₀ L h tl ∧ Froz h₀ L ex tl h := by
  classical
  let f : Nat → Option (Addr × Obj) := fun a => (h.get? a).bind fun o => if a = L ∨ a ∈ ex ∨ (h₀.get? a).isSome = true then none else some (a, o)
  have hf : ∀ a p, f a = some p → p.1 = a ∧ h.get? a = some p.2 ∧ a ≠ L ∧ a ∉ ex ∧ h₀.get? a = none := by
    intro a p e
    simp only [f] at e
    cases q : h.get? a with
    | none => rw [q] at e; cases e
    | some o =>
      rw [q, Option.bind_some] at e
      split at e
      · cases e
      · rename_i hn
        cases e
        simp only [not_or] at hn
        refine ⟨rfl, rfl, hn.1, hn.2.1, ?_⟩
        cases z : h₀.get? a with
        | none => rfl
        | some o' => rw [z] at hn; exact absurd rfl hn.2.2
  refine ⟨(List.range h.objs.size).filterMap f, fun p hp => ?_, ⟨fun a o e h0 hL hex => ?_, fun p hp b hb => ?_, F.keep, ?_⟩⟩
  · obtain ⟨a, _, e⟩ := List.mem_filterMap.mp hp
    obtain ⟨rfl, h1, h2, h3, h4⟩ := hf a p e
    exact ⟨h1, h2, h4⟩
  · refine List.mem_filterMap.mpr ⟨a, List.mem_range.mpr (Heap.lt_size e), ?_⟩
    simp only [f, e, Option.bind_some, h0]
    rw [if_neg]
    simp [hL, hex]
  · obtain ⟨a, _, e⟩ := List.mem_filterMap.mp hp
    obtain ⟨rfl, h1, h2, h3, h4⟩ := hf a p e
    exact fun q => h3 (q ▸ hb)
  · obtain ⟨o, es, n, ho, hd, _⟩ := F.ns
    exact ⟨o, es, n, ho, hd⟩
theorem Froz.keeps {h₀ h h' : Heap} {L : Addr} {ex : List Addr} {tl : List (Addr × Obj)} {m' : Str → Option Value} (Z : Froz h₀ L ex tl h) (F' : Fr h₀ L h' m') (hs : ∀ p ∈ tl, h'.get? p.1 = some p.2) :
    ∀ a o, h.get? a = some o → a ≠ L → a ∉ ex → h'.get? a = some o := fun a o e hL he => by
  cases q : h₀.get? a with
  | some o' =>
    have h1 := Z.base a o' q
    rw [e] at h1; cases h1
    exact F'.keep a o q
  | none => exact hs _ (Z.all a o e q hL he)
theorem Froz.kp {h₀ h h' : Heap} {L : Addr} {ex : List Addr} {tl : List (Addr × Obj)} {m' : Str → Option Value} (Z : Froz h₀ L ex tl h) (F' : Fr h₀ L h' m') (hs : ∀ p ∈ tl, h'.get? p.1 = some p.2) : Kp L ex h h' := Z.keeps F' hs
/-- an elder ledger lies in the new one -/
theorem Froz.carry {h₀ h h' : Heap} {L : Addr} {ex : List Addr} {tl tlo : List (Addr × Obj)} (Z : Froz h₀ L ex tl h') (N : News h₀ L h tlo) (K : Kp L ex h h') (off : OwnOff tlo ex) : ∀ p ∈ tlo, p ∈ tl := fun p hp =>
  Z.all p.1 p.2 (K p.1 p.2 (N p hp).1 (N p hp).2.1 fun q => off p hp _ q rfl) (N p hp).2.2 (N p hp).2.1 fun q => off p hp _ q rfl
theorem Froz.sk {h₀ h h' : Heap} {L : Addr} {ex : List Addr} {tl : List (Addr × Obj)} {m' : Str → Option Value} (Z : Froz h₀ L ex tl h) (F' : Fr h₀ L h' m') (hs : ∀ p ∈ tl, h'.get? p.1 = some p.2) : Sk ex h h' := fun a o vs n e d he => by
  refine Z.keeps F' hs a o e (fun q => ?_) he
  obtain ⟨o', es, k, ho, hd⟩ := Z.ns
  rw [q, ho] at e; cases e
  rw [hd] at d; cases d
theorem Froz.skN {h₀ h h' : Heap} {L : Addr} {ex : List Addr} {tl news : List (Addr × Obj)} {m' : Str → Option Value} (Z : Froz h₀ L ex tl h) (F' : Fr h₀ L h' m') (N' : News h₀ L h' news) (hs : ∀ p ∈ tl, p ∈ news) : Sk ex h h' :=
  Z.sk F' fun p hp => (N' p (hs p hp)).1

theorem news_sub {h₀ h : Heap} {L : Addr} {a b : List (Addr × Obj)} (N : News h₀ L h b) (hs : ∀ p ∈ a, p ∈ b) : News h₀ L h a := fun p hp => N p (hs p hp)
theorem news_app {h₀ h : Heap} {L : Addr} {a b : List (Addr × Obj)} (N : News h₀ L h a) (M : News h₀ L h b) : News h₀ L h (a ++ b) := fun p hp => (List.mem_append.mp hp).elim (N p) (M p)
theorem news_ext {h₀ h h' : Heap} {L : Addr} {a : List (Addr × Obj)} (N : News h₀ L h a) (k : Ext h h') : News h₀ L h' a := fun p hp => ⟨k _ _ (N p hp).1, (N p hp).2⟩

/-- behind a step that keeps all: the frame and the mutable part stand, the rest is frozen anew -/
theorem after {h₀ h h' : Heap} {L : Addr} {m : Str → Option Value} {news : List (Addr × Obj)} (mu : List (Addr × Obj)) (F : Fr h₀ L h m) (N : News h₀ L h news) (k : Ext h h') (hm : ∀ p ∈ mu, p ∈ news) :
    ∃ tl, Fr h₀ L h' m ∧ News h₀ L h' (mu ++ tl) ∧ Froz h₀ L (mu.map (·.1)) tl h' := by
  have F' := Fr.keeps F k
  obtain ⟨tl, N', Z⟩ := freeze (mu.map (·.1)) F'
  exact ⟨tl, F', news_app (news_ext (news_sub N hm) k) N', Z⟩

section
variable {prog : Program} {w : World} {A : Around} {s : Shared} {env : Env} {h₀ : Heap}
/-- what a turn of a loop must leave -/
def TurnEnd (h₀ : Heap) (L : Addr) (tl : List (Addr × Obj)) (ex : List Addr) (J : Heap → (Str → Option Value) → List (Addr × Obj) → Prop) (s₁ s₂ : Shared) : Prop :=
  ∃ h' tk m' mu', s₂ = { s₁ with heap := h', toks := tk } ∧ Fr h₀ L h' m' ∧ News h₀ L h' (mu' ++ tl) ∧ mu'.map (·.1) = ex ∧ J h' m' mu'
def TurnPost (h₀ : Heap) (L : Addr) (tl : List (Addr × Obj)) (ex : List Addr) (J : Heap → (Str → Option Value) → List (Addr × Obj) → Prop) (s₁ : Shared) (Q : Flow → Shared → Prop) (f : Flow) (s₂ : Shared) : Prop :=
  match f with
  | .ret v => Q (.ret v) s₂
  | .brk => Q .next s₂
  | _ => TurnEnd h₀ L tl ex J s₁ s₂

theorem for_go {R : Result → Shared → Prop} {x : Str} {px : Pos} {body : List Stmt} {I : Addr} {fp : List Addr} {n : Nat} {P : Nat → Value → Prop} {St : Nat → Heap → Prop} {m : Str → Option Value}
    {mu : List (Addr × Obj)} {ex : List Addr} (W : Walks prog w A I fp [I] n P St) (hx : env.kindOf x = some .local)
    (hp : (env.scope.kind == .class || (env.scope.kind == .module && env.locals != env.globals)) = false)
    (hfp : ∀ b ∈ fp, b ≠ env.locals ∧ b ∉ ex ∧ ∃ o, s.heap.get? b = some o) (hI : h₀.get? I = none) (hit : ∀ i h, St i h → ∃ o vs, h.get? I = some o ∧ o.data = .fields vs)
    (hst : St 0 s.heap) (F : Fr h₀ env.locals s.heap m) (N : News h₀ env.locals s.heap mu) (hmu : mu.map (·.1) = ex)
    (J : Nat → Heap → (Str → Option Value) → List (Addr × Obj) → Prop) (h0 : J 0 s.heap m mu)
    (stab : ∀ i h h' m mu, J i h m mu → Sk [] h h' → J i h' m mu)
    (turn : ∀ i v h tk m₁ mu₁ tl, i < n → P i v → J i h m₁ mu₁ → Kp env.locals (I :: ex) s.heap h → mu₁.map (·.1) = ex → Fr h₀ env.locals h (fun y => if y = x then some v else m₁ y) → News h₀ env.locals h (mu₁ ++ tl) → Froz h₀ env.locals ex tl h →
      wpAny (model prog w) A (execs body env) (TurnPost h₀ env.locals tl ex (J (i + 1)) { s with heap := h, toks := tk } fun f s' => R (.ok f) s') (fun _ _ => False) { s with heap := h, toks := tk })
    (done : ∀ h tk m₁ mu₁ tl, J n h m₁ mu₁ → Kp env.locals (I :: ex) s.heap h → mu₁.map (·.1) = ex → Fr h₀ env.locals h m₁ → News h₀ env.locals h (mu₁ ++ tl) → Froz h₀ env.locals ex tl h → R (.ok .next) { s with heap := h, toks := tk }) :
    codeAny (model prog w) A (.forLoop (.Name x px) (.ref I) body [] env) R s := by
  have hIfp : I ∈ fp := W.sub _ (.head _)
  have hIL : I ≠ env.locals := (hfp I hIfp).1
  have hIx : I ∉ ex := (hfp I hIfp).2.1
  refine codeAny_forLoop
    (fun k s' => ∃ h tk m₁ mu₁ i, s' = { s with heap := h, toks := tk } ∧ St i h ∧ Fr h₀ env.locals h m₁ ∧ News h₀ env.locals h mu₁ ∧ mu₁.map (·.1) = ex ∧ J i h m₁ mu₁ ∧ Kp env.locals (I :: ex) s.heap h ∧ (∀ b ∈ fp, ∃ o, h.get? b = some o) ∧ i ≤ n ∧ k = n + 1 - i) ?_ (n + 1)
    ⟨s.heap, s.toks, m, mu, 0, rfl, hst, F, N, hmu, h0, Kp.rfl', fun b hb => (hfp b hb).2.2, Nat.zero_le _, rfl⟩
  rintro k s' ⟨h, tk, m₁, mu₁, i, rfl, hst, F, N, hmu, hJ, hs, hlive, hi, rfl⟩
  -- the item
  have next : ∀ h₁ : Heap, (∀ b o, b ∉ [I] → h.get? b = some o → h₁.get? b = some o) → Fr h₀ env.locals h₁ m₁ ∧ News h₀ env.locals h₁ mu₁ ∧ Sk [] h h₁ := fun h₁ hk => by
    refine ⟨⟨F.ns.at' fun o e => hk _ o (by simpa using fun q => hIL q.symm) e, fun b o e => hk b o (fun q => ?_) (F.keep b o e), F.above⟩, fun p hp => ⟨hk _ _ (fun q => ?_) (N p hp).1, (N p hp).2⟩, fun a o vs n' e d _ => hk a o (fun q => ?_) e⟩
    · rw [List.mem_singleton.mp q, hI] at e; cases e
    · exact hIx (hmu ▸ (List.mem_singleton.mp q) ▸ List.mem_map_of_mem hp)
    · obtain ⟨o', vs', ho, hd⟩ := hit i h hst
      rw [List.mem_singleton.mp q, ho] at e; cases e
      rw [hd] at d; cases d
  by_cases hlt : i < n
  · refine W.item i _ _ _ hlt hst fun v h₁ tk₁ hP hst₁ hk₁ => ?_
    obtain ⟨F₁, N₁, k₁⟩ := next h₁ hk₁
    refine wpAny_assign_Name (wpAny_storeName_local hx F₁.ns (fun h₂ hn₂ hs₂ => ?_) hp)
    have F₂ := F₁.set hn₂ hs₂
    have N₂ := N₁.set hs₂
    have k₂ : Sk [] h₁ h₂ := fun a o vs n' e d _ => by
      refine hs₂.extBut a o (fun q => ?_) e
      obtain ⟨o', es, ep, ho, hd, _⟩ := F₁.ns
      rw [q, ho] at e; cases e
      rw [hd] at d; cases d
    have hst₂ : St (i + 1) h₂ := W.frame _ _ _ hst₁ fun b hb o e => hs₂.extBut b o (hfp b hb).1 e
    have hlive₂ : ∀ b ∈ fp, ∃ o, h₂.get? b = some o := fun b hb => by
      by_cases q : b = I
      · subst q
        obtain ⟨o, vs, ho, _⟩ := hit _ _ hst₂
        exact ⟨o, ho⟩
      · obtain ⟨o, ho⟩ := hlive b hb
        exact ⟨o, hs₂.extBut b o (hfp b hb).1 (hk₁ b o (by simpa using q) ho)⟩
    obtain ⟨tl, N₃, Z⟩ := freeze ex F₂
    have hJ₂ := stab _ _ _ _ _ (stab _ _ _ _ _ hJ k₁) k₂
    have kk : Kp env.locals (I :: ex) s.heap h₂ := fun a o e hL hx => by
      simp only [List.mem_cons, not_or] at hx
      exact hs₂.extBut a o hL (hk₁ a o (by simpa using hx.1) (hs a o e hL (by simpa using hx)))
    refine wpAny_mono (turn i v h₂ _ m₁ mu₁ tl hlt hP hJ₂ kk hmu F₂ (news_app N₂ N₃) Z) (fun f s₃ h₃ => ?_) fun _ _ e => e.elim
    have fin : TurnEnd h₀ env.locals tl ex (J (i + 1)) { s with heap := h₂, toks := tk₁ + 1 } s₃ → ∃ m', m' < n + 1 - i ∧ (∃ h tk m₁ mu₁ i, s₃ = { s with heap := h, toks := tk } ∧ St i h ∧ Fr h₀ env.locals h m₁ ∧ News h₀ env.locals h mu₁ ∧ mu₁.map (·.1) = ex ∧ J i h m₁ mu₁ ∧ Kp env.locals (I :: ex) s.heap h ∧ (∀ b ∈ fp, ∃ o, h.get? b = some o) ∧ i ≤ n ∧ m' = n + 1 - i) := by
      rintro ⟨h', tk', m', mu', rfl, F', N', hmu', hJ'⟩
      have keep := Z.keeps F' fun p hp => (N' p (List.mem_append_right _ hp)).1
      refine ⟨n + 1 - (i + 1), by omega, h', tk', m', mu', i + 1, rfl, ?_, F', news_sub N' fun p hp => List.mem_append_left _ hp, hmu', hJ', (fun a o e hL hx => keep a o (kk a o e hL hx) hL (fun q => hx (List.mem_cons_of_mem _ q))), fun b hb => ?_, hlt, rfl⟩
      · exact W.frame _ _ _ hst₂ fun b hb o e => keep b o e (hfp b hb).1 (hfp b hb).2.1
      · obtain ⟨o, ho⟩ := hlive₂ b hb
        exact ⟨o, keep b o ho (hfp b hb).1 (hfp b hb).2.1⟩
    cases f with
    | ret v => exact h₃
    | brk => exact h₃
    | next => exact fin h₃
    | cont => exact fin h₃
  · have hin : i = n := by omega
    subst hin
    refine W.done _ _ _ hst fun h₁ tk₁ hk₁ => wpAny_execs_nil ?_
    obtain ⟨F₁, N₁, k₁⟩ := next h₁ hk₁
    obtain ⟨tl, N₃, Z⟩ := freeze ex F₁
    exact done h₁ tk₁ m₁ mu₁ tl (stab _ _ _ _ _ hJ k₁) (fun a o e hL hx => hk₁ a o (by simp only [List.mem_cons, not_or] at hx; simpa using hx.1) (hs a o e hL hx)) hmu F₁ (news_app N₁ N₃) Z

/-- a for over a list of the base -/
theorem for_list {R : Result → Shared → Prop} {x : Str} {px : Pos} {body : List Stmt} {l : Addr} {items : Array Value} {m : Str → Option Value} {mu : List (Addr × Obj)} {ex : List Addr}
    (hh : A.handled = none) (hl : s.heap.IsList l items) (hlx : l ∉ ex) (hx : env.kindOf x = some .local) (hp : (env.scope.kind == .class || (env.scope.kind == .module && env.locals != env.globals)) = false)
    (F : Fr h₀ env.locals s.heap m) (N : News h₀ env.locals s.heap mu) (hmu : mu.map (·.1) = ex)
    (J : Nat → Heap → (Str → Option Value) → List (Addr × Obj) → Prop) (stab : ∀ i h h' m mu, J i h m mu → Sk [] h h' → J i h' m mu) (h0 : J 0 s.heap m mu)
    (turn : ∀ i v h tk m₁ mu₁ tl, items[i]? = some v → J i h m₁ mu₁ → Kp env.locals ex s.heap h → mu₁.map (·.1) = ex → Fr h₀ env.locals h (fun y => if y = x then some v else m₁ y) → News h₀ env.locals h (mu₁ ++ tl) → Froz h₀ env.locals ex tl h →
      wpAny (model prog w) A (execs body env) (TurnPost h₀ env.locals tl ex (J (i + 1)) { s with heap := h, toks := tk } fun f s' => R (.ok f) s') (fun _ _ => False) { s with heap := h, toks := tk })
    (done : ∀ h tk m₁ mu₁ tl, J items.size h m₁ mu₁ → Kp env.locals ex s.heap h → mu₁.map (·.1) = ex → Fr h₀ env.locals h m₁ → News h₀ env.locals h (mu₁ ++ tl) → Froz h₀ env.locals ex tl h → R (.ok .next) { s with heap := h, toks := tk }) {E : Value → Shared → Prop} :
    wpAny (model prog w) A (pyIter (.ref l)) (fun it s₂ => codeAny (model prog w) A (.forLoop (.Name x px) it body [] env) R s₂) E s := by
  refine wpAny_pyIter_list hl ?_
  have hpush : Sk [] s.heap (s.heap.push { cls := .type "list_iterator", data := .fields #[.ref l, .int 0 0] }) := fun a o _ _ e _ _ => Heap.get?_push_of_some _ e
  obtain ⟨ol, hol, _⟩ := id hl
  have hlt : l < s.heap.objs.size := Heap.lt_size hol
  have hne : l ≠ s.heap.objs.size := Nat.ne_of_lt hlt
  have hlL : l ≠ env.locals := fun q => by
    obtain ⟨o, ho, hc, n, hd⟩ := hl
    obtain ⟨o', es, ep, ho', hd', _⟩ := F.ns
    rw [q, ho'] at ho; cases ho
    rw [hd'] at hd; cases hd
  have hex : s.heap.objs.size ∉ ex := fun q => by
    rw [← hmu] at q
    obtain ⟨p, hp, e⟩ := List.mem_map.mp q
    exact absurd (Heap.lt_size (N p hp).1) (by rw [e]; exact Nat.lt_irrefl _)
  refine for_go (h₀ := h₀) (ex := ex) (mu := mu) (m := m) (s := { s with heap := s.heap.push _ }) (Walks.list hh s.heap.objs.size l hne items) hx hp ?_ (next_is_new F) ?_ ⟨⟨_, Heap.get?_push_size _ rfl, rfl, rfl⟩, hl.push _⟩ (F.push _) (fun p hp => ⟨Heap.get?_push_of_some _ (N p hp).1, (N p hp).2⟩) hmu J (stab _ _ _ _ _ h0 hpush) stab ?_ ?_
  · intro b hb
    simp only [List.mem_cons, List.not_mem_nil, or_false] at hb
    rcases hb with rfl | rfl
    · exact ⟨Nat.ne_of_gt F.ns.lt, hex, _, Heap.get?_push_size _ rfl⟩
    · exact ⟨hlL, hlx, _, Heap.get?_push_of_some _ hol⟩
  · rintro i h ⟨⟨o, ho, _, hd⟩, _⟩
    exact ⟨o, _, ho, hd⟩
  · intro i v h tk m₁ mu₁ tl _ hP hJ hs hmu₁ F₁ N₁ Z
    exact turn i v h tk m₁ mu₁ tl hP hJ (fun a o e hL hx => hs a o (Heap.get?_push_of_some _ e) hL (by simp only [List.mem_cons, not_or]; exact ⟨Nat.ne_of_lt (Heap.lt_size e), hx⟩)) hmu₁ F₁ N₁ Z
  · intro h tk m₁ mu₁ tl hJ hs hmu₁ F₁ N₁ Z
    exact done h tk m₁ mu₁ tl hJ (fun a o e hL hx => hs a o (Heap.get?_push_of_some _ e) hL (by simp only [List.mem_cons, not_or]; exact ⟨Nat.ne_of_lt (Heap.lt_size e), hx⟩)) hmu₁ F₁ N₁ Z
/-- a for over a tuple -/
theorem for_tuple {R : Result → Shared → Prop} {x : Str} {px : Pos} {body : List Stmt} {l : Addr} {items : Array Value} {m : Str → Option Value} {mu : List (Addr × Obj)} {ex : List Addr}
    (hh : A.handled = none) (hl : IsTup s.heap l items) (hlx : l ∉ ex) (hx : env.kindOf x = some .local) (hp : (env.scope.kind == .class || (env.scope.kind == .module && env.locals != env.globals)) = false)
    (F : Fr h₀ env.locals s.heap m) (N : News h₀ env.locals s.heap mu) (hmu : mu.map (·.1) = ex)
    (J : Nat → Heap → (Str → Option Value) → List (Addr × Obj) → Prop) (stab : ∀ i h h' m mu, J i h m mu → Sk [] h h' → J i h' m mu) (h0 : J 0 s.heap m mu)
    (turn : ∀ i v h tk m₁ mu₁ tl, items[i]? = some v → J i h m₁ mu₁ → Kp env.locals ex s.heap h → mu₁.map (·.1) = ex → Fr h₀ env.locals h (fun y => if y = x then some v else m₁ y) → News h₀ env.locals h (mu₁ ++ tl) → Froz h₀ env.locals ex tl h →
      wpAny (model prog w) A (execs body env) (TurnPost h₀ env.locals tl ex (J (i + 1)) { s with heap := h, toks := tk } fun f s' => R (.ok f) s') (fun _ _ => False) { s with heap := h, toks := tk })
    (done : ∀ h tk m₁ mu₁ tl, J items.size h m₁ mu₁ → Kp env.locals ex s.heap h → mu₁.map (·.1) = ex → Fr h₀ env.locals h m₁ → News h₀ env.locals h (mu₁ ++ tl) → Froz h₀ env.locals ex tl h → R (.ok .next) { s with heap := h, toks := tk }) {E : Value → Shared → Prop} :
    wpAny (model prog w) A (pyIter (.ref l)) (fun it s₂ => codeAny (model prog w) A (.forLoop (.Name x px) it body [] env) R s₂) E s := by
  refine wpAny_pyIter_tuple hl ?_
  have hpush : Sk [] s.heap (s.heap.push { cls := .type "tuple_iterator", data := .fields #[.ref l, .int 0 0] }) := fun a o _ _ e _ _ => Heap.get?_push_of_some _ e
  obtain ⟨ol, hol, _⟩ := id hl
  have hlt : l < s.heap.objs.size := Heap.lt_size hol
  have hne : l ≠ s.heap.objs.size := Nat.ne_of_lt hlt
  have hlL : l ≠ env.locals := fun q => by
    obtain ⟨o, ho, hc, n, hd⟩ := hl
    obtain ⟨o', es, ep, ho', hd', _⟩ := F.ns
    rw [q, ho'] at ho; cases ho
    rw [hd'] at hd; cases hd
  have hex : s.heap.objs.size ∉ ex := fun q => by
    rw [← hmu] at q
    obtain ⟨p, hp, e⟩ := List.mem_map.mp q
    exact absurd (Heap.lt_size (N p hp).1) (by rw [e]; exact Nat.lt_irrefl _)
  refine for_go (h₀ := h₀) (ex := ex) (mu := mu) (m := m) (s := { s with heap := s.heap.push _ }) (Walks.tuple hh s.heap.objs.size l hne items) hx hp ?_ (next_is_new F) ?_ ⟨⟨_, Heap.get?_push_size _ rfl, rfl, rfl⟩, IsTup.push hl _⟩ (F.push _) (fun p hp => ⟨Heap.get?_push_of_some _ (N p hp).1, (N p hp).2⟩) hmu J (stab _ _ _ _ _ h0 hpush) stab ?_ ?_
  · intro b hb
    simp only [List.mem_cons, List.not_mem_nil, or_false] at hb
    rcases hb with rfl | rfl
    · exact ⟨Nat.ne_of_gt F.ns.lt, hex, _, Heap.get?_push_size _ rfl⟩
    · exact ⟨hlL, hlx, _, Heap.get?_push_of_some _ hol⟩
  · rintro i h ⟨⟨o, ho, _, hd⟩, _⟩
    exact ⟨o, _, ho, hd⟩
  · intro i v h tk m₁ mu₁ tl _ hP hJ hs hmu₁ F₁ N₁ Z
    exact turn i v h tk m₁ mu₁ tl hP hJ (fun a o e hL hx => hs a o (Heap.get?_push_of_some _ e) hL (by simp only [List.mem_cons, not_or]; exact ⟨Nat.ne_of_lt (Heap.lt_size e), hx⟩)) hmu₁ F₁ N₁ Z
  · intro h tk m₁ mu₁ tl hJ hs hmu₁ F₁ N₁ Z
    exact done h tk m₁ mu₁ tl hJ (fun a o e hL hx => hs a o (Heap.get?_push_of_some _ e) hL (by simp only [List.mem_cons, not_or]; exact ⟨Nat.ne_of_lt (Heap.lt_size e), hx⟩)) hmu₁ F₁ N₁ Z
/-- a for over range(n) -/
theorem for_range {R : Result → Shared → Prop} {x : Str} {px : Pos} {body : List Stmt} {r : Addr} {b : Int} {t₀ u₀ v₀ : Tok} {n : Nat} {m : Str → Option Value} {mu : List (Addr × Obj)} {ex : List Addr}
    (hh : A.handled = none) (hr : IsRange s.heap r 0 b 1 t₀ u₀ v₀) (hsmall : Builtin.Range.small 0 b 1 = true) (hn : Builtin.Range.rangeSize 0 b 1 = (n : Int)) (hx : env.kindOf x = some .local) (hp : (env.scope.kind == .class || (env.scope.kind == .module && env.locals != env.globals)) = false)
    (F : Fr h₀ env.locals s.heap m) (N : News h₀ env.locals s.heap mu) (hmu : mu.map (·.1) = ex)
    (J : Nat → Heap → (Str → Option Value) → List (Addr × Obj) → Prop) (stab : ∀ i h h' m mu, J i h m mu → Sk [] h h' → J i h' m mu) (h0 : J 0 s.heap m mu)
    (turn : ∀ i t h tk m₁ mu₁ tl, i < n → J i h m₁ mu₁ → Kp env.locals ex s.heap h → mu₁.map (·.1) = ex → Fr h₀ env.locals h (fun y => if y = x then some (.int (i : Int) t) else m₁ y) → News h₀ env.locals h (mu₁ ++ tl) → Froz h₀ env.locals ex tl h →
      wpAny (model prog w) A (execs body env) (TurnPost h₀ env.locals tl ex (J (i + 1)) { s with heap := h, toks := tk } fun f s' => R (.ok f) s') (fun _ _ => False) { s with heap := h, toks := tk })
    (done : ∀ h tk m₁ mu₁ tl, J n h m₁ mu₁ → Kp env.locals ex s.heap h → mu₁.map (·.1) = ex → Fr h₀ env.locals h m₁ → News h₀ env.locals h (mu₁ ++ tl) → Froz h₀ env.locals ex tl h → R (.ok .next) { s with heap := h, toks := tk }) {E : Value → Shared → Prop} :
    wpAny (model prog w) A (pyIter (.ref r)) (fun it s₂ => codeAny (model prog w) A (.forLoop (.Name x px) it body [] env) R s₂) E s := by
  refine wpAny_pyIter_range hr hsmall ?_
  rw [hn]
  have hpush : Sk [] s.heap (s.heap.push { cls := .type "range_iterator", data := .fields #[rawInt 0, rawInt n, rawInt 1] }) := fun a o _ _ e _ _ => Heap.get?_push_of_some _ e
  have hex : s.heap.objs.size ∉ ex := fun q => by
    rw [← hmu] at q
    obtain ⟨p, hp, e⟩ := List.mem_map.mp q
    exact absurd (Heap.lt_size (N p hp).1) (by rw [e]; exact Nat.lt_irrefl _)
  refine for_go (h₀ := h₀) (ex := ex) (mu := mu) (m := m) (s := { s with heap := s.heap.push _ }) (Walks.range hh s.heap.objs.size 0 1 n) hx hp ?_ (next_is_new F) ?_ (by show IsRangeIter _ _ _ _ _; simpa using Heap.get?_push_size _ rfl) (F.push _) (fun p hp => ⟨Heap.get?_push_of_some _ (N p hp).1, (N p hp).2⟩) hmu J (stab _ _ _ _ _ h0 hpush) stab ?_ ?_
  · intro b hb
    rw [List.mem_singleton.mp hb]
    exact ⟨Nat.ne_of_gt F.ns.lt, hex, _, Heap.get?_push_size _ rfl⟩
  · intro i h hi
    exact ⟨_, _, hi, rfl⟩
  · intro i v h tk m₁ mu₁ tl hlt hP hJ hs hmu₁ F₁ N₁ Z
    obtain ⟨t, rfl⟩ := hP
    have e1 : (0 : Int) + (i : Int) * 1 = (i : Int) := by omega
    rw [e1] at F₁
    exact turn i t h tk m₁ mu₁ tl hlt hJ (fun a o e hL hx => hs a o (Heap.get?_push_of_some _ e) hL (by simp only [List.mem_cons, not_or]; exact ⟨Nat.ne_of_lt (Heap.lt_size e), hx⟩)) hmu₁ F₁ N₁ Z
  · intro h tk m₁ mu₁ tl hJ hs hmu₁ F₁ N₁ Z
    exact done h tk m₁ mu₁ tl hJ (fun a o e hL hx => hs a o (Heap.get?_push_of_some _ e) hL (by simp only [List.mem_cons, not_or]; exact ⟨Nat.ne_of_lt (Heap.lt_size e), hx⟩)) hmu₁ F₁ N₁ Z
end

theorem fr_known {h₀ h : Heap} {L : Addr} {m : Str → Option Value} {x : Str} {v : Value} (ps : List (Str × Value)) (F : Fr h₀ L h (fun y => if y = x then some v else m y)) (hk : ∀ p ∈ ps, m p.1 = some p.2) : Fr h₀ L h (fun y => if y = x then some v else kstB m ps y) := by
  have e : (fun y => if y = x then some v else kstB m ps y) = fun y => if y = x then some v else m y := by
    funext y
    rw [kstB_eq hk fun _ => rfl]
  rw [e]; exact F
theorem fr_known0 {h₀ h : Heap} {L : Addr} {m : Str → Option Value} (ps : List (Str × Value)) (F : Fr h₀ L h m) (hk : ∀ p ∈ ps, m p.1 = some p.2) : Fr h₀ L h (kstB m ps) := by
  have e : kstB m ps = m := by
    funext y
    exact kstB_eq hk fun _ => rfl
  rw [e]; exact F
theorem mu_nil {mu : List (Addr × Obj)} (h : mu.map (·.1) = []) : mu = [] := by simpa using h

theorem small_n {n : Nat} (h : n < 1000) : Builtin.Range.small 0 (n : Int) 1 = true := small_one (by omega) (by omega) (by omega) (by omega)
theorem size_n {n : Nat} : Builtin.Range.rangeSize 0 (n : Int) 1 = (n : Int) := by
  unfold Builtin.Range.rangeSize; simp; omega

section
variable {prog : Program} {w : World} {A : Around} {E : Value → Shared → Prop} {s : Shared} {Q : Value → Shared → Prop} {a : Addr} {vs : Array Value} {h₀ : Heap} {L : Addr} {m : Str → Option Value}
theorem tup_up (x : IsTup h₀ a vs) (F : Fr h₀ L s.heap m) : IsTup s.heap a vs := isTup_keep x (Ext.tup (show Ext h₀ s.heap from F.keep))
theorem isi_ti (F : Fr h₀ L s.heap m) (x : IsTup h₀ a vs) (h : Q (.bool false) { s with toks := s.toks + 1 }) : wpAny (model prog w) A (call (.builtin "isinstance") [.ref a, .type "int"]) Q E s :=
  let ⟨_, ho, hc, _⟩ := tup_up x F; call_isinstance (isinstance_false_tuple (by decide +kernel) PySem.F.isi_meta_int PySem.F.sub_tuple_int) ⟨⟨_, ho, hc⟩, h⟩
theorem isi_ts (F : Fr h₀ L s.heap m) (x : IsTup h₀ a vs) (h : Q (.bool false) { s with toks := s.toks + 1 }) : wpAny (model prog w) A (call (.builtin "isinstance") [.ref a, .type "str"]) Q E s :=
  let ⟨_, ho, hc, _⟩ := tup_up x F; call_isinstance (isinstance_false_tuple (by decide +kernel) PySem.F.isi_meta_str PySem.F.sub_tuple_str) ⟨⟨_, ho, hc⟩, h⟩
theorem isi_tt (F : Fr h₀ L s.heap m) (x : IsTup h₀ a vs) (h : Q (.bool true) s) : wpAny (model prog w) A (call (.builtin "isinstance") [.ref a, .type "tuple"]) Q E s :=
  let ⟨_, ho, hc, _⟩ := tup_up x F; call_isinstance (isinstance_true (Tx := "tuple") PySem.F.isi_meta_tuple PySem.F.sub_tuple_tuple) ⟨⟨_, ho, hc⟩, h⟩
end

/-- a weaker round is enough -/
abbrev Ar (dp un : Nat) : Around := { handled := none, depth := dp, frames := none, guards := none, units := un }
theorem wpAny_ar {α : Type} {M : Model} {A : Around} {t : Sem α} {Q : α → Shared → Prop} {E : Value → Shared → Prop} {s : Shared} {dp un : Nat} (h : wpAny M (Ar dp un) t Q E s) (hh : A.handled = none) (hd : A.depth ≤ dp) (hu : A.units ≤ un) : wpAny M A t Q E s :=
  fun Γ p hΓ => h Γ p ⟨hΓ.1.trans hh, Nat.le_trans hΓ.2.1 hd, fun _ e => (nomatch e), fun _ e => (nomatch e), Nat.le_trans hΓ.2.2.2.2 hu⟩

/-- the stop ahead of a loop -/
def ForTodo (prog : Program) (w : World) (A : Around) (env : Env) (x : Str) (px : Pos) (body : List Stmt) (Q : Flow → Shared → Prop) (xv : Value) (s₁ : Shared) : Prop :=
  wpAny (model prog w) A (pyIter xv) (fun it s₂ => codeAny (model prog w) A (.forLoop (.Name x px) it body [] env) (fun r s' => match r with | .ok f => Q f s' | .error _ => False) s₂) (fun _ _ => False) s₁
theorem For_todo {prog : Program} {w : World} {A : Around} {env : Env} {x : Str} {px pos : Pos} {iter : Expr} {body : List Stmt} {Q : Flow → Shared → Prop} {s : Shared}
    (h : wpAny (model prog w) A (eval iter env) (ForTodo prog w A env x px body Q) (fun _ _ => False) s) (hs : ∀ x, foldedSetIterable iter env x = pure x := by intro _; rfl) :
    wpAny (model prog w) A (exec (.For (.Name x px) iter body [] pos) env) Q (fun _ _ => False) s := by
  refine wpAny_For (wpAny_mono h (fun xv s₁ h₁ => ?_) fun _ _ e => e) hs
  exact wpAny_mono h₁ (fun it s₂ h₂ => codeAny_mono h₂ fun r s' hr => by cases r with | ok f => exact hr | error _ => exact hr.elim) fun _ _ e => e.elim

theorem enter {prog : Program} {w : World} {A : Around} {E : Value → Shared → Prop} {s : Shared} {Q : Value → Shared → Prop} {K : Frag}
    {name qual : Str} {params : Arguments} {body : List Stmt} {scope : Scope} {dV kV doc pm cdv ct oc : Value} {an od : Option Addr} {osl : Array (Option Value)} {f : Addr} {args : List Value} {binds : List (Str × Value)}
    (X : K.In s.heap) (hlim : s.heap.NoLimit)
    (ho : K.lookup f = some ⟨oc, od, .func (fnOf name qual params body scope dV kV doc pm an cdv ct), osl⟩) (hcd : codeIn K cdv qual = true) (hroom : A.depth < recursionLimit)
    (hbind : BindsTo s (fnOf name qual params body scope dV kV doc pm an cdv ct) ⟨args, []⟩ binds) (hloc : ∀ y ∈ binds, scope.names.lookup y.1 = some .local)
    (h : ∀ h₁, Fr s.heap s.heap.objs.size h₁ (fun y => binds.reverse.lookup y) →
      wpAny (model prog w) (A.deeper (envOf qual scope s.heap.objs.size f cdv)) (execs body (envOf qual scope s.heap.objs.size f cdv))
        (fun fl s' => Q (match fl with | .ret v => v | _ => .none) s') (fun _ _ => False)
        { s with heap := h₁, toks := s.toks + binds.length })
    (hco : scope.isCoroutine = false) (hgen : scope.isGenerator = false) (hk : scope.kind = .function)
    (hcell : ∀ x ∈ scope.names, x.2 ≠ .cell) : wpAny (model prog w) A (call (.ref f) args) Q E s := by
  refine wpAny_call ?_
  refine codeAny_call_def (fd := fnOf name qual params body scope dV kV doc pm an cdv ct) (body := body) (binds := binds) hroom (X _ _ ho) rfl hlim (codeRec_of X hcd) rfl hbind hcell hloc (fun h₁ hns hk₁ => ?_) hco hgen hk
  exact wpAny_mono (h h₁ ⟨hns, hk₁, Nat.le_refl _⟩) (fun _ _ x => x) fun _ _ x => x.elim
end Mine

namespace Mine
/-- the stop at a subscript's tail -/
def TailTodo (prog : Program) (w : World) (A : Around) (value slice : Expr) (v k : Value) (Q : Value → Shared → Prop) (s : Shared) : Prop :=
  wpAny (model prog w) A (subscriptTail value slice v k) Q (fun _ _ => False) s
theorem tail_todo {prog : Program} {w : World} {A : Around} {value slice : Expr} {v k : Value} {Q : Value → Shared → Prop} {s : Shared} (h : TailTodo prog w A value slice v k Q s) : wpAny (model prog w) A (subscriptTail value slice v k) Q (fun _ _ => False) s := h

/-- the stop at a comparison -/
def CmpTodo (prog : Program) (w : World) (A : Around) (op : CmpOp) (a b : Value) (Q : Value → Shared → Prop) (s : Shared) : Prop :=
  wpAny (model prog w) A (compareOp op a b) Q (fun _ _ => False) s
theorem cmp_todo {prog : Program} {w : World} {A : Around} {op : CmpOp} {a b : Value} {Q : Value → Shared → Prop} {s : Shared} (h : CmpTodo prog w A op a b Q s) : wpAny (model prog w) A (compareOp op a b) Q (fun _ _ => False) s := h

/-- the stop at a call -/
def CallTodo (prog : Program) (w : World) (A : Around) (f : Value) (args : List Value) (Q : Value → Shared → Prop) (s : Shared) : Prop :=
  wpAny (model prog w) A (call f args) Q (fun _ _ => False) s
theorem call_todo {prog : Program} {w : World} {A : Around} {f : Value} {args : List Value} {Q : Value → Shared → Prop} {s : Shared} (h : CallTodo prog w A f args Q s) : wpAny (model prog w) A (call f args) Q (fun _ _ => False) s := h

theorem adjust_to (b n : Nat) (hb : b ≤ n) : Builtin.Slice.sliceAdjust none (some (b : Int)) 1 (n : Int) = (0, (b : Int)) := by
  unfold Builtin.Slice.sliceAdjust
  have h1 : ¬ ((1 : Int) < 0) := by omega
  have h2 : ¬ ((b : Int) < 0) := by omega
  simp only [h1, h2, if_false]
  congr 1
  omega
theorem places_to (b : Nat) : Builtin.Slice.slicePlaces 0 (b : Int) 1 = b := by
  unfold Builtin.Slice.slicePlaces
  have h1 : (1 : Int) > 0 := by omega
  simp only [h1, if_true, Int.ediv_one]
  split <;> omega
section
variable {prog : Program} {w : World} {A : Around} {E : Value → Shared → Prop} {s : Shared}
theorem sliceApplied_to {sl : Addr} {b n : Nat} {u : Tok} {Q : Int × Int × Nat → Shared → Prop} (hs : s.heap.IsSliceOf sl .none (.int b u) .none) (hb : b ≤ n) (h : Q (0, 1, b) s) :
    wpAny (model prog w) A (Builtin.Slice.sliceApplied (.ref sl) (pure (n : Int))) Q E s := by
  obtain ⟨os, hos, hcs, hds⟩ := id hs
  unfold Builtin.Slice.sliceApplied Builtin.Slice.sliceFields
  refine wpAny_bind (wpAny_bind (wpAny_field hos hds (x := .none) rfl (wpAny_bind (wpAny_field hos hds (x := .int b u) rfl (wpAny_bind (wpAny_field hos hds (x := .none) rfl (wpAny_pure ?_)))))))
  refine wpAny_bind (slicePart_none ?_)
  show wpAny _ _ (if ((1 : Int) == 0) = true then _ else _) _ _ s
  rw [if_neg (by decide)]
  refine wpAny_bind (slicePart_none (wpAny_bind (slicePart_int (wpAny_bind (wpAny_pure ?_)))))
  show wpAny _ _ (match Builtin.Slice.sliceAdjust none (some (b : Int)) 1 (n : Int) with | (lo, hi) => pure (lo, (1 : Int), Builtin.Slice.slicePlaces lo hi 1)) _ _ s
  rw [adjust_to b n hb]
  show wpAny _ _ (pure ((0 : Int), (1 : Int), Builtin.Slice.slicePlaces 0 (b : Int) 1)) _ _ s
  rw [places_to b]
  exact wpAny_pure h
theorem pick_to (xs : Array Value) (b : Nat) : ((List.range b).filterMap fun (k : Nat) => xs[((0 : Int) + (k : Int) * 1).toNat]?).toArray = (xs.toList.take b).toArray := by
  have e : (fun (k : Nat) => xs[((0 : Int) + (k : Int) * 1).toNat]?) = fun k => xs[0 + k]? := by
    funext k
    have : ((0 : Int) + (k : Int) * 1).toNat = 0 + k := by omega
    rw [this]
  rw [e]
  have := pick_run xs 0 b
  rw [List.filterMap_map] at this
  have e2 : ((fun x => xs[x]?) ∘ fun x => 0 + x) = fun k => xs[0 + k]? := rfl
  rw [e2] at this
  rw [this]; simp

theorem getItem_tuple_to {t sl : Addr} {items : Array Value} {b : Nat} {u : Tok} {Q : Value → Shared → Prop} (ht : IsTup s.heap t items) (hs : s.heap.IsSliceOf sl .none (.int b u) .none) (hb : b ≤ items.size) (hsz : items.size ≤ 1000)
    (h : ∀ r h', Ext s.heap h' → IsTup h' r (items.toList.take b).toArray → Q (.ref r) { s with heap := h' }) : wpAny (model prog w) A (getItem (.ref t) (.ref sl)) Q E s := by
  have hdrop : sizeOk (.seq (items.toList.take b).toArray) := by
    show (items.toList.take b).toArray.size ≤ sizeLine
    rw [List.size_toArray, List.length_take, Array.length_toList, sizeLine_eq]
    omega
  obtain ⟨os, hos, hcs, hds⟩ := id hs
  obtain ⟨ot, hot, hct, nt, hdt⟩ := id ht
  have hTs : s.TypeIs (.ref sl) "slice" := ⟨os, hos, hcs⟩
  unfold getItem
  try with_reducible refine wpAny_holding ?_
  first | refine wpAny_bind (wpAny_pure ?_) | skip
  refine wpAny_bind (wpAny_sequenceKey ht.typeIs (by decide) ?_)
  refine wpAny_bind (wpAny_callSpecial?_slot (name := Str.ofString "__getitem__") ht.typeIs slot_tuple_getitem
    (wpAny_call_entry slot_tuple_getitem ht.typeIs entry_tuple_getitem ?_ (args_tuple_getitem _ _)))
  show wpAny _ _ (Builtin.Tuple.tupleItemsOf (.ref t) >>= _) _ _ s
  refine wpAny_bind (tupleItemsOf_ ht ?_)
  refine wpAny_bind (wpAny_typeOf hTs ?_)
  rw [if_pos (by decide)]
  refine wpAny_bind (sliceApplied_to hs hb ?_)
  show wpAny _ _ (if ((0 : Int) == 0 && (1 : Int) == 1 && b == items.size) = true then _ else _) _ _ s
  by_cases hw : b = items.size
  · rw [if_pos (by simp [hw])]
    have hq := h t s.heap Ext.rfl' (by rw [hw, List.take_of_length_le (by simp)]; simpa using ht)
    unfold Builtin.Tuple.tupleIsExact
    have hx : (Value.type "tuple" == Value.type "tuple") = true := by decide
    refine wpAny_bind (wpAny_bind (wpAny_typeOf ht.typeIs (wpAny_pure ?_)))
    rw [if_pos hx]
    refine wpAny_bind (wpAny_rule ?_)
    first
      | exact wpAny_pure ⟨_, rfl, wpAny_pure hq⟩
      | exact wpAny_bind (wpAny_pure (wpAny_pure ⟨_, rfl, wpAny_pure hq⟩))
  · rw [if_neg (by simp [hw]), pick_to items b]
    have hq := h s.heap.objs.size (s.heap.push { cls := .type "tuple", data := .seq (items.toList.take b).toArray }) (fun _ _ e => Heap.get?_push_of_some _ e) ⟨_, Heap.get?_push_size _ rfl, rfl, 0, rfl⟩
    first
      | exact wpAny_bind (m := Builtin.Tuple.tupleExact _) (wpAny_newObj_type (wpAny_pure ⟨_, rfl, wpAny_pure hq⟩) hdrop)
      | exact wpAny_bind (m := Builtin.Tuple.tupleExact _) (wpAny_newObj_type (wpAny_bind (wpAny_pure (wpAny_pure ⟨_, rfl, wpAny_pure hq⟩))) hdrop)
      | exact wpAny_bind (wpAny_bind (m := Builtin.Tuple.tupleExact _) (wpAny_newObj_type (wpAny_pure (wpAny_pure ⟨_, rfl, wpAny_pure hq⟩)) hdrop))
      | exact wpAny_bind (wpAny_bind (m := Builtin.Tuple.tupleExact _) (wpAny_newObj_type (wpAny_pure ⟨_, rfl, wpAny_pure hq⟩) hdrop))
theorem seqIndex_nat {i n : Nat} (h : i < n) : seqIndex? (i : Int) n = some i := by
  unfold seqIndex?
  have h1 : ¬ ((i : Int) < 0) := by omega
  simp [h1, h]
theorem item_tup_nat {value slice : Expr} {t : Addr} {items : Array Value} {i : Nat} {u : Tok} {x : Value} {Q : Value → Shared → Prop} (ht : IsTup s.heap t items) (hi : (i : Int) < 2 ^ 62) (hx : items[((i : Nat) : Int).toNat]? = some x) (h : Q x s)
    (hs : subscripted slice false (.ref t) (.int (i : Int) u) = operate [.ref t, .int (i : Int) u] (getItem (.ref t) (.int (i : Int) u)) := by with_unfolding_all rfl) (hg : ∀ r, letTemporaryGo value (.ref t) r = pure () := by intro _; with_unfolding_all rfl) :
    wpAny (model prog w) A (subscriptTail value slice (.ref t) (.int (i : Int) u)) Q E s := by
  have hx' : items[i]? = some x := by simpa using hx
  exact item_tuple ht (by omega) (by omega) (seqIndex_nat (Array.getElem?_eq_some_iff.mp hx').1) hx' h hs hg
theorem natint_beq (a b : Nat) : ((a : Int) == (b : Int)) = decide (a = b) := by
  by_cases h : a = b
  · simp [h]
  · rw [decide_eq_false h, beq_eq_false_iff_ne]; omega
/-- the i-th of (int,), str, tuple -/
def isTy (h : Heap) (i : Nat) (v : Value) : Prop := (i = 0 ∧ ∃ tp, v = .ref tp ∧ h.get? tp = some { cls := .type "tuple", data := .seq [Value.type "int"].toArray }) ∨ (i = 1 ∧ v = .type "str") ∨ (i = 2 ∧ v = .type "tuple")
theorem isTy.ext {h h' : Heap} {i : Nat} {v : Value} (x : isTy h i v) (k : Ext h h') : isTy h' i v := by
  rcases x with ⟨e, tp, e2, ht⟩ | x | x
  · exact .inl ⟨e, tp, e2, k _ _ ht⟩
  · exact .inr (.inl x)
  · exact .inr (.inr x)
theorem isi_part {u v : Value} {p : Part} {i : Nat} {Q : Value → Shared → Prop} (hp : PartAt s.heap u p) (hv : isTy s.heap i v) (h : ∀ tk, Q (.bool (decide (p.kind = i))) { s with toks := tk }) : wpAny (model prog w) A (call (.builtin "isinstance") [u, v]) Q E s := by
  rcases hv with ⟨rfl, tp, rfl, ht⟩ | ⟨rfl, rfl⟩ | ⟨rfl, rfl⟩
  · cases hp with
    | int n t => exact IsiPair.tupleOfB (.cons (.of_true PySem.F.isi_meta_int PySem.F.sub_int_int) .nil) (typeIs_int s n t) ht rfl h
    | str x t => exact IsiPair.tupleOfB (.cons (.of_false_str (by decide +kernel) PySem.F.isi_meta_int PySem.F.sub_str_int) .nil) (typeIs_str s x t) ht rfl h
    | tup a b => exact IsiPair.tupleOfB (.cons (.of_false_tuple (by decide +kernel) PySem.F.isi_meta_int PySem.F.sub_tuple_int) .nil) a.typeIs ht rfl h
  · cases hp with
    | int n t => exact IsiPair.int_str (h _)
    | str x t => exact IsiPair.str_str (h _)
    | tup a b => obtain ⟨o, ho, hc, _⟩ := a; exact IsiPair.tuple_str ho hc (h _)
  · cases hp with
    | int n t => exact IsiPair.int_tuple (h _)
    | str x t => exact IsiPair.str_tuple (h _)
    | tup a b => obtain ⟨o, ho, hc, _⟩ := a; exact IsiPair.tuple_tuple ho hc (h _)
theorem tail_tuple_to {value slice : Expr} {t sl : Addr} {items : Array Value} {b : Nat} {u : Tok} {Q : Value → Shared → Prop} {ops : List Value} (ht : IsTup s.heap t items) (hs : s.heap.IsSliceOf sl .none (.int b u) .none) (hb : b ≤ items.size) (hsz : items.size ≤ 1000)
    (h : ∀ r h', Ext s.heap h' → IsTup h' r (items.toList.take b).toArray → Q (.ref r) { s with heap := h' })
    (ho : subscripted slice false (.ref t) (.ref sl) = operate ops (getItem (.ref t) (.ref sl))) (hg : ∀ r, letTemporaryGo value (.ref t) r = pure ()) : TailTodo prog w A value slice (.ref t) (.ref sl) Q s :=
  subscriptTail_ops ht.typeIs slot_tuple_getitem.lookup (getItem_tuple_to ht hs hb hsz h) ho hg
end
end Mine

namespace Mine
/-- as enter, for a def whose locals are captured -/
theorem enterC {prog : Program} {w : World} {A : Around} {E : Value → Shared → Prop} {s : Shared} {Q : Value → Shared → Prop} {K : Frag}
    {name qual : Str} {params : Arguments} {body : List Stmt} {scope : Scope} {dV kV doc pm cdv ct oc : Value} {an od : Option Addr} {osl : Array (Option Value)} {f : Addr} {args : List Value} {binds : List (Str × Value)}
    (X : K.In s.heap) (hlim : s.heap.NoLimit)
    (ho : K.lookup f = some ⟨oc, od, .func (fnOf name qual params body scope dV kV doc pm an cdv ct), osl⟩) (hcd : codeIn K cdv qual = true) (hroom : A.depth < recursionLimit)
    (hbind : BindsTo s (fnOf name qual params body scope dV kV doc pm an cdv ct) ⟨args, []⟩ binds)
    (hkind : (binds.all fun y => scope.names.lookup y.1 == some .local || scope.names.lookup y.1 == some .cell) = true)
    (hnd : ((cellsFrom 0 scope.names []).map (·.1)).Nodup)
    (h : ∀ h₁ tk cells, Fr s.heap s.heap.objs.size h₁ (bindL (envOfC qual scope s.heap.objs.size f cdv).kindOf binds fun _ => none) → News s.heap s.heap.objs.size h₁ cells →
      CellsAre (bindC (envOfC qual scope s.heap.objs.size f cdv).kindOf binds fun _ => none) (cellsFrom (s.heap.objs.size + 1) scope.names []) cells →
      wpAny (model prog w) (A.deeper (envOfC qual scope s.heap.objs.size f cdv)) (execs body (envOfC qual scope s.heap.objs.size f cdv))
        (fun fl s' => Q (match fl with | .ret v => v | _ => .none) s') (fun _ _ => False)
        { s with heap := h₁, toks := tk })
    (hco : scope.isCoroutine = false) (hgen : scope.isGenerator = false) (hk : scope.kind = .function) : wpAny (model prog w) A (call (.ref f) args) Q E s := by
  refine wpAny_call ?_
  refine codeAny_call_function (fd := fnOf name qual params body scope dV kV doc pm an cdv ct) (body := body) hroom (X _ _ ho) rfl hco hgen rfl (codeRec_of X hcd) (hbind _ _ _ _ ?_)
  refine wpAny_newFunctionEnv_cells hk (kindsX hkind _) fun env' he s' x => ?_
  subst he
  refine ⟨hlim.keeps x.toInCall.keep, codeAny_func ?_⟩
  obtain ⟨h₁, tk, rfl, _⟩ := x.done
  obtain ⟨cells, NC, Y⟩ := Cl.news (h₀ := s.heap) (Nat.le_refl _) fun n c hm => ⟨x.cell n c (lookup_of_mem_nodup (cellsFrom_names scope.names 0 (s.heap.objs.size + 1) [] [] rfl ▸ hnd) hm), x.above n c hm⟩
  exact wpAny_mono (h h₁ tk cells ⟨x.toInCall.ns, x.toInCall.keep, Nat.le_refl _⟩ NC Y) (fun _ _ x => x) fun _ _ x => x.elim
end Mine

namespace Mine
section
variable {prog : Program} {w : World} {A : Around} {env : Env}
/-- all is kept but three -/
def K3 (D C I : Addr) (h X : Heap) : Prop := ∀ a o, h.get? a = some o → a ≠ D → a ≠ C → a ≠ I → X.get? a = some o
/-- what stands at the three -/
structure Tri (D C I : Addr) (h : Heap) : Prop where
  list : ∃ vs k, h.get? D = some { cls := .type "list", data := .seq vs k }
  ns : ∃ m, h.Ns C m
  iter : ∃ o vs, h.get? I = some o ∧ o.data = .fields vs
theorem Tri.ext {D C I : Addr} {h h' : Heap} (x : Tri D C I h) (k : Ext h h') : Tri D C I h' :=
  ⟨let ⟨vs, n, e⟩ := x.list; ⟨vs, n, k _ _ e⟩, let ⟨m, e⟩ := x.ns; ⟨m, e.keeps k⟩, let ⟨o, vs, e, d⟩ := x.iter; ⟨o, vs, k _ _ e, d⟩⟩
theorem K3.tup {D C I : Addr} {h X : Heap} (k : K3 D C I h X) (x : Tri D C I h) : TupKeep h X := fun a o vs n e c d => by
  refine k a o e (fun q => ?_) (fun q => ?_) fun q => ?_
  · obtain ⟨vs', k', e'⟩ := x.list
    rw [q, e'] at e; cases e
    exact absurd (Value.type.inj c) (by decide)
  · obtain ⟨m, o', es, ep, e', d', _⟩ := x.ns
    rw [q, e'] at e; cases e
    rw [d'] at d; cases d
  · obtain ⟨o', vs', e', d'⟩ := x.iter
    rw [q, e'] at e; cases e
    rw [d'] at d; cases d
/-- a comprehension over one source: what its items are is told at any heap that keeps all but the three -/
theorem comp_block {elt iter : Expr} {x : Str} {px : Pos} {scope : Scope} {cl : List (Str × Addr)} {pos : Pos} {s₂ : Shared} {I : Addr} {fp : List Addr} {n : Nat} {P : Nat → Value → Prop}
    {St : Nat → Heap → Prop} (W : Walks prog w A I fp [I] n P St) (hsz : n ≤ 1000) (R : Nat → Heap → Value → Prop) {RR : Value → Addr → Result → Shared → Prop}
    (hcell : ∀ y ∈ scope.names, y.2 ≠ .cell) (hkind : scope.kind = .function) (hx : scope.names.lookup x = some .local) (hst : St 0 s₂.heap) (hfp : ∀ b ∈ fp, b < s₂.heap.objs.size)
    (hit : ∀ i h, St i h → ∃ o vs, h.get? I = some o ∧ o.data = .fields vs)
    (elt' : ∀ i v D C h tk m, i < n → P i v → s₂.heap.get? C = none → s₂.heap.get? D = none → Tri D C I h → h.Ns C m → m x = some v → (∀ b o, b ≠ I → s₂.heap.get? b = some o → h.get? b = some o) →
      wpAny (model prog w) A (eval elt (compEnvC scope cl C env)) (fun y s₄ => ∃ h' tk', s₄ = { s₂ with heap := h', toks := tk' } ∧ Ext h h' ∧ ∀ X, K3 D C I h' X → R i X y) (fun _ _ => False) { s₂ with heap := h, toks := tk })
    (hRR : ∀ D C h' tk m' (ys : List Value), s₂.heap.get? D = none → s₂.heap.get? C = none → D ≠ C → h'.Ns C m' → h'.PlainList D ys.toArray → ys.length = n → (∀ i (hi : i < ys.length) X, K3 D C I h' X → R i X ys[i]) →
      (∀ b o, b ≠ I → s₂.heap.get? b = some o → h'.get? b = some o) → RR (.ref D) C (.ok .next) { s₂ with heap := h', toks := tk }) :
    wpAny (model prog w) A (newList []) (fun acc s₃ => wpAny (model prog w) A (newFunctionEnv scope env.globals cl [] env.qual none .none (some env)) (fun cenv s₄ =>
      codeAny (model prog w) A (.compStart (.ListComp elt [⟨.Name x px, iter, [], 0⟩] scope pos) 0 (.ref I) acc { cenv with scope := relabel scope env }) (RR acc cenv.locals) s₄) (fun _ _ => False) s₃) (fun _ _ => False) s₂ := by
  refine wpAny_newObj_type (wpAny_newFunctionEnv hcell (by intro y hy; simp at hy) (fun h₁ hns₁ hsb₁ => ?_) hkind)
  dsimp only at hns₁ hsb₁ ⊢
  generalize hH2 : s₂.heap.push { cls := .type "list", dict := none, data := .seq ([] : List Value).toArray } = H2 at hns₁ hsb₁ ⊢
  have hC : H2.objs.size = s₂.heap.objs.size + 1 := by rw [← hH2, Heap.size_push]
  have hDC : s₂.heap.objs.size ≠ H2.objs.size := by rw [hC]; exact Nat.ne_of_lt (Nat.lt_succ_self _)
  have below : ∀ b, b < s₂.heap.objs.size → b ≠ H2.objs.size ∧ b ≠ s₂.heap.objs.size := fun b hb => ⟨by rw [hC]; exact Nat.ne_of_lt (Nat.lt_succ_of_lt hb), Nat.ne_of_lt hb⟩
  have hDf : s₂.heap.objs.size ∉ fp := fun hm => Nat.lt_irrefl _ (hfp _ hm)
  have hCf : H2.objs.size ∉ fp := fun hm => by have := hfp _ hm; rw [hC] at this; exact Nat.lt_irrefl _ (Nat.lt_of_succ_lt this)
  have old : ∀ b o, s₂.heap.get? b = some o → h₁.get? b = some o := fun b o e => hsb₁.extBut b o (below b (Heap.lt_size e)).1 (Heap.get?_push_of_some _ (hH2 ▸ Heap.get?_push_of_some _ e))
  have hacc : h₁.PlainList s₂.heap.objs.size #[] := ⟨_, hsb₁.extBut _ _ hDC (Heap.get?_push_of_some _ (hH2 ▸ Heap.get?_push_size _ rfl))⟩
  have hst₁ : St 0 h₁ := W.frame _ _ _ hst fun b _ o e => old b o e
  have fresh : ∀ a, s₂.heap.objs.size ≤ a → s₂.heap.get? a = none := fun a ha => by
    cases e : s₂.heap.get? a with
    | none => rfl
    | some o' => exact absurd (Heap.lt_size e) (Nat.not_lt.mpr ha)
  have hfD := fresh _ (Nat.le_refl _)
  have hfC := fresh H2.objs.size (by rw [hC]; exact Nat.le_succ _)
  have hIf : I ∈ fp := W.sub _ (.head _)
  have hDI : s₂.heap.objs.size ≠ I := fun q => hDf (q ▸ hIf)
  have hCI : H2.objs.size ≠ I := fun q => hCf (q ▸ hIf)
  generalize hD : s₂.heap.objs.size = D at *
  generalize hCC : H2.objs.size = C at *
  have loop : ∀ s₃ : Shared, s₃ = { s₂ with heap := h₁, toks := s₂.toks + ([] : List (Str × Value)).length } →
      codeAny (model prog w) A (.compLoop (.ListComp elt [⟨.Name x px, iter, [], 0⟩] scope pos) 0 (.ref I) (.ref D) (compEnvC scope cl C env)) (RR (.ref D) C) s₃ := by
    rintro s₃ rfl
    refine codeAny_compLoop_tests
      (fun k s' => ∃ h tk m, ∃ ys : List Value, s' = { s₂ with heap := h, toks := tk } ∧ St ys.length h ∧ h.PlainList D ys.toArray ∧ h.Ns C m ∧ (∀ i (hi : i < ys.length) X, K3 D C I h X → R i X ys[i]) ∧ ys.length ≤ n ∧ k = n + 1 - ys.length ∧
        (∀ b o, b ≠ I → s₂.heap.get? b = some o → h.get? b = some o)) ?_ (n + 1)
      ⟨h₁, _, _, [], rfl, hst₁, hacc, hns₁, by simp, Nat.zero_le _, rfl, fun b o _ e => old b o e⟩
    rintro k s' ⟨h, tk, m, ys, rfl, hst', hacc', hn', hR, hi, rfl, hk⟩
    by_cases hlt : ys.length < n
    · refine W.item ys.length _ _ _ hlt hst' fun v h₂ tk₂ hPv hst₂ hk₂ => ?_
      refine wpAny_assign_Name (wpAny_storeName_local (lookup_relabel_local hx) (hn'.at' fun o e => hk₂ _ o (by simpa using hCI) e) (fun h₃ hn₃ hs₃ => ?_) (by simp [compEnvC, relabel, hkind]))
      have hst₃ : St (ys.length + 1) h₃ := W.frame _ _ _ hst₂ fun b hb o e => hs₃.extBut b o (fun q => hCf ((show b = C from q) ▸ hb)) e
      have hacc₃ : h₃.PlainList D ys.toArray := hacc'.at fun o e => hs₃.extBut _ o hDC (hk₂ _ o (by simpa using hDI) e)
      have hk₃ : ∀ b o, b ≠ I → s₂.heap.get? b = some o → h₃.get? b = some o := fun b o hb e => hs₃.extBut b o (fun q => by rw [show b = C from q, hfC] at e; cases e) (hk₂ b o (by simpa using hb) (hk b o hb e))
      have k₃ : K3 D C I h h₃ := fun a o e _ hc hi => hs₃.extBut a o hc (hk₂ a o (by simpa using hi) e)
      refine wpAny_pure ?_
      simp only [if_true]
      have tri : Tri D C I h₃ := ⟨let ⟨q, e⟩ := hacc₃; ⟨_, q, e⟩, ⟨_, hn₃⟩, hit _ _ hst₃⟩
      refine wpAny_mono (elt' ys.length v D C h₃ _ _ hlt hPv hfC hfD tri hn₃ (by simp) hk₃) (fun y s₄ h₄ => ?_) fun _ _ e => e.elim
      obtain ⟨h₄, tk₄, rfl, x₄, hRy⟩ := h₄
      have hys : ys.toArray.size ≤ sizeLine := by rw [List.size_toArray, sizeLine_eq]; omega
      refine wpAny_list_append_plain (hsz := hys) (hacc₃.at fun o e => x₄ _ o e) fun h₅ hl₅ hs₅ => ?_
      have hst₄ : St (ys.length + 1) h₄ := W.frame _ _ _ hst₃ fun b _ o e => x₄ b o e
      have k₅ : K3 D C I h₄ h₅ := fun a o e hd _ _ => hs₅.extBut a o hd e
      refine ⟨n + 1 - (ys.length + 1), by omega, h₅, tk₄, _, ys ++ [y], rfl, ?_, by simpa using hl₅, (hn₃.keeps x₄).sameBut hs₅ (Ne.symm hDC), ?_, by rw [List.length_append, List.length_singleton]; exact hlt, by rw [List.length_append, List.length_singleton], fun b o hb e => hs₅.extBut b o (fun q => by rw [q, hfD] at e; cases e) (x₄ b o (hk₃ b o hb e))⟩
      · have := W.frame _ _ h₅ hst₄ fun b hb o e => hs₅.extBut b o (fun q => hDf (q ▸ hb)) e
        simpa using this
      · intro i hi' X hX
        rw [List.length_append, List.length_singleton] at hi'
        by_cases hil : i < ys.length
        · rw [List.getElem_append_left hil]
          exact hR i hil X fun a o e hd hc hI => hX a o (k₅ a o (x₄ a o (k₃ a o e hd hc hI)) hd hc hI) hd hc hI
        · have e0 : i = ys.length := by omega
          subst e0
          have e1 : (ys ++ [y])[ys.length] = y := by simp
          rw [e1]
          exact hRy X fun a o e hd hc hI => hX a o (k₅ a o e hd hc hI) hd hc hI
    · have hin : ys.length = n := by omega
      refine W.done _ _ _ (hin ▸ hst') fun h₂ tk₂ hk₂ => ?_
      refine hRR D C h₂ tk₂ m ys hfD hfC hDC (hn'.at' fun o e => hk₂ _ o (by simpa using hCI) e) (hacc'.at fun o e => hk₂ _ o (by simpa using hDI) e) hin (fun i hi' X hX => hR i hi' X fun a o e hd hc hI => hX a o (hk₂ a o (by simpa using hI) e) hd hc hI) fun b o hb e => hk₂ b o (by simpa using hb) (hk b o hb e)
  exact codeAny_compStart_list (loop _ rfl) (W.self 0 _ _ _ hst₁ (loop _ rfl))

/-- the stop at a comprehension -/
def CompTodo (prog : Program) (w : World) (A : Around) (env : Env) (cl : List (Str × Addr)) (elt : Expr) (x : Str) (px : Pos) (iter : Expr) (scope : Scope) (pos : Pos) (Q : Value → Shared → Prop) (xv : Value) (s₁ : Shared) : Prop :=
  wpAny (model prog w) A (pyIter xv) (fun it s₂ => wpAny (model prog w) A (newList []) (fun acc s₃ => wpAny (model prog w) A (newFunctionEnv scope env.globals cl [] env.qual none .none (some env)) (fun cenv s₄ =>
      codeAny (model prog w) A (.compStart (.ListComp elt [⟨.Name x px, iter, [], 0⟩] scope pos) 0 it acc { cenv with scope := relabel scope env }) (compPost (model prog w) A (fun _ _ => False) none Q acc cenv.locals) s₄) (fun _ _ => False) s₃) (fun _ _ => False) s₂) (fun _ _ => False) s₁
theorem comp_todo {s : Shared} {elt iter : Expr} {x : Str} {px : Pos} {scope : Scope} {cl : List (Str × Addr)} {pos : Pos} {Q : Value → Shared → Prop} (hclos : closureFor scope env = pure cl) (hkind : scope.kind = .function)
    (hnames : ∀ y ∈ scope.names, y.2 = .local → scope.names.lookup y.1 = some .local)
    (h : wpAny (model prog w) A (eval iter env) (CompTodo prog w A env cl elt x px iter scope pos Q) (fun _ _ => False) s) (hs : ∀ x, foldedSetIterable iter env x = pure x := by intro _; rfl) :
    wpAny (model prog w) A (eval (.ListComp elt [⟨.Name x px, iter, [], 0⟩] scope pos) env) Q (fun _ _ => False) s := by
  rw [eval_ListComp]
  exact wpAny_comprehension_free (use := none) rfl hs hclos hkind hnames (wpAny_mono h (fun xv s₁ h₁ => wpAny_mono h₁ (fun it s₂ h₂ => h₂) fun _ _ e => e) fun _ _ e => e)

theorem comp_range {s₁ : Shared} {cl : List (Str × Addr)} {elt iter : Expr} {x : Str} {px : Pos} {scope : Scope} {pos : Pos} {Q : Value → Shared → Prop} {r : Addr} {b : Int} {t₀ u₀ v₀ : Tok} {n : Nat} (hh : A.handled = none) (hr : IsRange s₁.heap r 0 b 1 t₀ u₀ v₀)
    (hsmall : Builtin.Range.small 0 b 1 = true) (hn : Builtin.Range.rangeSize 0 b 1 = (n : Int)) (hsz : n ≤ 1000) (hcell : ∀ y ∈ scope.names, y.2 ≠ .cell) (hkind : scope.kind = .function) (hx : scope.names.lookup x = some .local) (R : Nat → Heap → Value → Prop)
    (elt' : ∀ i t D C I h tk m, i < n → s₁.heap.get? C = none → s₁.heap.get? D = none → s₁.heap.get? I = none → Tri D C I h → h.Ns C m → m x = some (.int (i : Int) t) → (∀ b o, s₁.heap.get? b = some o → h.get? b = some o) →
      wpAny (model prog w) A (eval elt (compEnvC scope cl C env)) (fun y s₄ => ∃ h' tk', s₄ = { s₁ with heap := h', toks := tk' } ∧ Ext h h' ∧ ∀ X, K3 D C I h' X → R i X y) (fun _ _ => False) { s₁ with heap := h, toks := tk })
    (done : ∀ D h' tk (ys : List Value), s₁.heap.get? D = none → h'.PlainList D ys.toArray → ys.length = n → (∀ i (hi : i < ys.length), R i h' ys[i]) → Ext s₁.heap h' → Q (.ref D) { s₁ with heap := h', toks := tk }) :
    CompTodo prog w A env cl elt x px iter scope pos Q (.ref r) s₁ := by
  refine wpAny_pyIter_range hr hsmall ?_
  rw [hn]
  have fr : s₁.heap.get? s₁.heap.objs.size = none := by
    cases e : s₁.heap.get? s₁.heap.objs.size with
    | none => rfl
    | some o => exact absurd (Heap.lt_size e) (Nat.lt_irrefl _)
  have up : ∀ {a o}, s₁.heap.get? a = some o → (s₁.heap.push { cls := .type "range_iterator", data := .fields #[rawInt 0, rawInt n, rawInt 1] }).get? a = some o := fun e => Heap.get?_push_of_some _ e
  have dn : ∀ {a}, (s₁.heap.push { cls := .type "range_iterator", data := .fields #[rawInt 0, rawInt n, rawInt 1] }).get? a = none → s₁.heap.get? a = none := fun {a} e => by
    cases q : s₁.heap.get? a with
    | none => rfl
    | some o => rw [up q] at e; cases e
  refine comp_block (s₂ := { s₁ with heap := s₁.heap.push _ }) (Walks.range hh s₁.heap.objs.size 0 1 n) hsz R hcell hkind hx (by show IsRangeIter _ _ _ _ _; simpa using Heap.get?_push_size _ rfl) ?_ (fun i h hi => ⟨_, _, hi, rfl⟩) ?_ ?_
  · intro b hb
    rw [List.mem_singleton.mp hb]
    show _ < (Heap.push _ _).objs.size
    rw [Heap.size_push]; exact Nat.lt_succ_self _
  · rintro i v D C h tk m hi ⟨t, rfl⟩ hC hD tri hns hm hk
    have e1 : (0 : Int) + (i : Int) * 1 = (i : Int) := by omega
    rw [e1] at hm
    exact elt' i t D C _ h tk m hi (dn hC) (dn hD) fr tri hns hm fun b o e => hk b o (Nat.ne_of_lt (Heap.lt_size e)) (up e)
  · intro D C h' tk m' ys hD hC hDC hn' hl hlen hR hk
    refine ⟨m', hn', fun h'' hs'' => ?_⟩
    have hl'' : h''.PlainList D ys.toArray := hl.at fun o e => hs''.extBut _ o hDC e
    exact done D h'' tk ys (dn hD) hl'' hlen (fun i hi => hR i hi h'' fun a o e _ hc _ => hs''.extBut a o hc e) fun b o e => hs''.extBut b o (fun q => by rw [q] at e; rw [up e] at hC; cases hC) (hk b o (Nat.ne_of_lt (Heap.lt_size e)) (up e))
/-- over a list -/
theorem comp_list {s₁ : Shared} {cl : List (Str × Addr)} {elt iter : Expr} {x : Str} {px : Pos} {scope : Scope} {pos : Pos} {Q : Value → Shared → Prop} {l : Addr} {vs : List Value} (hh : A.handled = none) (hl : s₁.heap.IsList l vs.toArray)
    (hsz : vs.length ≤ 1000) (hcell : ∀ y ∈ scope.names, y.2 ≠ .cell) (hkind : scope.kind = .function) (hx : scope.names.lookup x = some .local) (R : Nat → Heap → Value → Prop)
    (elt' : ∀ i v D C I h tk m, vs[i]? = some v → s₁.heap.get? C = none → s₁.heap.get? D = none → s₁.heap.get? I = none → Tri D C I h → h.Ns C m → m x = some v → (∀ b o, s₁.heap.get? b = some o → h.get? b = some o) →
      wpAny (model prog w) A (eval elt (compEnvC scope cl C env)) (fun y s₄ => ∃ h' tk', s₄ = { s₁ with heap := h', toks := tk' } ∧ Ext h h' ∧ ∀ X, K3 D C I h' X → R i X y) (fun _ _ => False) { s₁ with heap := h, toks := tk })
    (done : ∀ D h' tk (ys : List Value), s₁.heap.get? D = none → h'.PlainList D ys.toArray → ys.length = vs.length → (∀ i (hi : i < ys.length), R i h' ys[i]) → Ext s₁.heap h' → Q (.ref D) { s₁ with heap := h', toks := tk }) :
    CompTodo prog w A env cl elt x px iter scope pos Q (.ref l) s₁ := by
  refine wpAny_pyIter_list hl ?_
  obtain ⟨ol, hol, _⟩ := id hl
  have hlt : l < s₁.heap.objs.size := Heap.lt_size hol
  have hne : l ≠ s₁.heap.objs.size := Nat.ne_of_lt hlt
  have fr : s₁.heap.get? s₁.heap.objs.size = none := by
    cases e : s₁.heap.get? s₁.heap.objs.size with
    | none => rfl
    | some o => exact absurd (Heap.lt_size e) (Nat.lt_irrefl _)
  have up : ∀ {a o}, s₁.heap.get? a = some o → (s₁.heap.push { cls := .type "list_iterator", data := .fields #[.ref l, .int 0 0] }).get? a = some o := fun e => Heap.get?_push_of_some _ e
  have dn : ∀ {a}, (s₁.heap.push { cls := .type "list_iterator", data := .fields #[.ref l, .int 0 0] }).get? a = none → s₁.heap.get? a = none := fun {a} e => by
    cases q : s₁.heap.get? a with
    | none => rfl
    | some o => rw [up q] at e; cases e
  have hsize : vs.toArray.size = vs.length := by simp
  refine comp_block (s₂ := { s₁ with heap := s₁.heap.push _ }) (hsize ▸ Walks.list hh s₁.heap.objs.size l hne vs.toArray) hsz R hcell hkind hx ⟨⟨_, Heap.get?_push_size _ rfl, rfl, rfl⟩, hl.push _⟩ ?_ (fun i h hi => let ⟨⟨o, ho, _, hd⟩, _⟩ := hi; ⟨o, _, ho, hd⟩) ?_ ?_
  · intro b hb
    show _ < (Heap.push _ _).objs.size
    rw [Heap.size_push]
    simp only [List.mem_cons, List.not_mem_nil, or_false] at hb
    rcases hb with rfl | rfl
    · exact Nat.lt_succ_self _
    · exact Nat.lt_succ_of_lt hlt
  · rintro i v D C h tk m hi hv hC hD tri hns hm hk
    exact elt' i v D C _ h tk m (by simpa using hv) (dn hC) (dn hD) fr tri hns hm fun b o e => hk b o (Nat.ne_of_lt (Heap.lt_size e)) (up e)
  · intro D C h' tk m' ys hD hC hDC hn' hl hlen hR hk
    refine ⟨m', hn', fun h'' hs'' => ?_⟩
    have hl'' : h''.PlainList D ys.toArray := hl.at fun o e => hs''.extBut _ o hDC e
    exact done D h'' tk ys (dn hD) hl'' hlen (fun i hi => hR i hi h'' fun a o e _ hc _ => hs''.extBut a o hc e) fun b o e => hs''.extBut b o (fun q => by rw [q] at e; rw [up e] at hC; cases hC) (hk b o (Nat.ne_of_lt (Heap.lt_size e)) (up e))
end
end Mine

namespace Mine
section
variable {prog : Program} {w : World} {A : Around} {env : Env}
/-- the stop at a comprehension whose target is a local of the same line: it is stored first, the comprehension's names go after -/
def AsgTodo (prog : Program) (w : World) (A : Around) (env : Env) (cl : List (Str × Addr)) (elt : Expr) (x : Str) (px : Pos) (iter : Expr) (scope : Scope) (pos : Pos) (y : Str) (py : Pos) (Q : Flow → Shared → Prop) (xv : Value) (s₁ : Shared) : Prop :=
  wpAny (model prog w) A (pyIter xv) (fun it s₂ => wpAny (model prog w) A (newList []) (fun acc s₃ => wpAny (model prog w) A (newFunctionEnv scope env.globals cl [] env.qual none .none (some env)) (fun cenv s₄ =>
      codeAny (model prog w) A (.compStart (.ListComp elt [⟨.Name x px, iter, [], 0⟩] scope pos) 0 it acc { cenv with scope := relabel scope env }) (compPost (model prog w) A (fun _ _ => False) (some (assign (.Name y py) env)) (fun _ s' => Q .next s') acc cenv.locals) s₄) (fun _ _ => False) s₃) (fun _ _ => False) s₂) (fun _ _ => False) s₁
theorem asg_todo {s : Shared} {elt iter : Expr} {x y : Str} {px py : Pos} {scope : Scope} {cl : List (Str × Addr)} {pos spos : Pos} {Q : Flow → Shared → Prop}
    (hsw : swapsWith (.ListComp elt [⟨.Name x px, iter, [], 0⟩] scope pos) (some (.Name y py)) spos.line env = pure true) (hclos : closureFor scope env = pure cl) (hkind : scope.kind = .function)
    (hnames : ∀ z ∈ scope.names, z.2 = .local → scope.names.lookup z.1 = some .local)
    (h : wpAny (model prog w) A (eval iter env) (AsgTodo prog w A env cl elt x px iter scope pos y py Q) (fun _ _ => False) s) (hs : ∀ x, foldedSetIterable iter env x = pure x := by intro _; rfl) :
    wpAny (model prog w) A (exec (.Assign [.Name y py] (.ListComp elt [⟨.Name x px, iter, [], 0⟩] scope pos) spos) env) Q (fun _ _ => False) s := by
  rw [exec_Assign_Name_used _ _ _ _ hsw]
  refine wpAny_bind (wpAny_standAt (wpAny_bind ?_))
  show wpAny _ A (do let _ ← comprehension (.ListComp elt [⟨.Name x px, iter, [], 0⟩] scope pos) scope env _ (newList []) false (eval iter env) (some (assign (.Name y py) env))) _ _ s
  refine wpAny_bind (wpAny_mono (wpAny_comprehension_free (use := some (assign (.Name y py) env)) (Q := fun _ s' => Q .next s') rfl hs hclos hkind hnames
    (wpAny_mono h (fun xv s₁ h₁ => h₁) fun _ _ e => e)) (fun _ s' hq => wpAny_pure (wpAny_pure hq)) fun _ _ e => e)

theorem asg_end {s₁ : Shared} {h₀ h' : Heap} {m m' : Str → Option Value} {y : Str} {py : Pos} {Q : Flow → Shared → Prop} {D C I : Addr} {tk n : Nat} {ys : List Value} {R : Nat → Heap → Value → Prop}
    (F : Fr h₀ env.locals s₁.heap m) (hy : env.kindOf y = some .local) (hp : (env.scope.kind == .class || (env.scope.kind == .module && env.locals != env.globals)) = false)
    (hD : s₁.heap.get? D = none) (hC : s₁.heap.get? C = none) (hDC : D ≠ C) (hn' : h'.Ns C m') (hl : h'.PlainList D ys.toArray) (hlen : ys.length = n)
    (hR : ∀ i (hi : i < ys.length) X, K3 D C I h' X → ∀ X', Kp env.locals [] X X' → R i X' ys[i]) (hk : Ext s₁.heap h')
    (done : ∀ D h' tk (ys : List Value), s₁.heap.get? D = none → h'.PlainList D ys.toArray → ys.length = n → (∀ i (hi : i < ys.length), R i h' ys[i]) →
      Fr h₀ env.locals h' (fun z => if z = y then some (.ref D) else m z) → Kp env.locals [] s₁.heap h' → Q .next { s₁ with heap := h', toks := tk }) :
    compPost (model prog w) A (fun _ _ => False) (some (assign (.Name y py) env)) (fun _ s' => Q .next s') (.ref D) C (.ok .next) { s₁ with heap := h', toks := tk } := by
  have F' : Fr h₀ env.locals h' m := F.keeps hk
  have hLe : ∀ a, s₁.heap.get? a = none → a ≠ env.locals := fun a ha q => by
    obtain ⟨o, es, k, ho, _⟩ := F.ns
    rw [q, ho] at ha; cases ha
  have hC₀ : h₀.get? C = none := by
    cases z : h₀.get? C with
    | none => rfl
    | some o => rw [F.keep _ _ z] at hC; cases hC
  have hCL := hLe _ hC
  have hDL := hLe _ hD
  show wpAny _ A (assign (.Name y py) env (.ref D)) _ _ _
  refine wpAny_assign_Name (wpAny_storeName_local hy F'.ns (fun h₂ hn₂ hs₂ => ?_) hp)
  have hL₀ : h₀.get? env.locals = none := Heap.get?_none_of_le F'.above
  have F₂ : Fr h₀ env.locals h₂ (fun z => if z = y then some (.ref D) else m z) := ⟨hn₂, fun b o e => hs₂.extBut b o (fun q => by rw [q, hL₀] at e; cases e) (F'.keep b o e), F'.above⟩
  refine ⟨m', hn'.sameBut hs₂ hCL, fun h'' hs'' => ?_⟩
  refine done D h'' _ ys hD (hl.at fun o e => hs''.extBut _ o hDC (hs₂.extBut _ o hDL e)) hlen (fun i hi => ?_) (F₂.change hs'' hCL hC₀) fun a o e hL _ => ?_
  · refine hR i hi (hideAll h' [C]) (fun a o e _ hc _ => hideAll_get _ e (by simpa using hc)) h'' fun a o e hL _ => ?_
    have hac : a ≠ C := fun q => by rw [q, hideAll_none _ (by simp)] at e; cases e
    exact hs''.extBut a o hac (hs₂.extBut a o hL (of_hideAll _ e))
  · exact hs''.extBut a o (fun q => by rw [q, hC] at e; cases e) (hs₂.extBut a o hL (hk a o e))

theorem asg_range {s₁ : Shared} {cl : List (Str × Addr)} {elt iter : Expr} {x y : Str} {px py : Pos} {scope : Scope} {pos : Pos} {Q : Flow → Shared → Prop} {r : Addr} {b : Int} {t₀ u₀ v₀ : Tok} {n : Nat} {h₀ : Heap} {m₀ : Str → Option Value}
    (F : Fr h₀ env.locals s₁.heap m₀) (hh : A.handled = none) (hr : IsRange s₁.heap r 0 b 1 t₀ u₀ v₀)
    (hsmall : Builtin.Range.small 0 b 1 = true) (hn : Builtin.Range.rangeSize 0 b 1 = (n : Int)) (hsz : n ≤ 1000) (hcell : ∀ y ∈ scope.names, y.2 ≠ .cell) (hkind : scope.kind = .function) (hx : scope.names.lookup x = some .local)
    (hy : env.kindOf y = some .local) (hp : (env.scope.kind == .class || (env.scope.kind == .module && env.locals != env.globals)) = false) (R : Nat → Heap → Value → Prop)
    (elt' : ∀ i t D C I h tk m, i < n → s₁.heap.get? C = none → s₁.heap.get? D = none → s₁.heap.get? I = none → Tri D C I h → h.Ns C m → m x = some (.int (i : Int) t) → (∀ b o, s₁.heap.get? b = some o → h.get? b = some o) →
      wpAny (model prog w) A (eval elt (compEnvC scope cl C env)) (fun y s₄ => ∃ h' tk', s₄ = { s₁ with heap := h', toks := tk' } ∧ Ext h h' ∧ ∀ X, K3 D C I h' X → ∀ X', Kp env.locals [] X X' → R i X' y) (fun _ _ => False) { s₁ with heap := h, toks := tk })
    (done : ∀ D h' tk (ys : List Value), s₁.heap.get? D = none → h'.PlainList D ys.toArray → ys.length = n → (∀ i (hi : i < ys.length), R i h' ys[i]) →
      Fr h₀ env.locals h' (fun z => if z = y then some (.ref D) else m₀ z) → Kp env.locals [] s₁.heap h' → Q .next { s₁ with heap := h', toks := tk }) :
    AsgTodo prog w A env cl elt x px iter scope pos y py Q (.ref r) s₁ := by
  refine wpAny_pyIter_range hr hsmall ?_
  rw [hn]
  have fr : s₁.heap.get? s₁.heap.objs.size = none := by
    cases e : s₁.heap.get? s₁.heap.objs.size with
    | none => rfl
    | some o => exact absurd (Heap.lt_size e) (Nat.lt_irrefl _)
  have up : ∀ {a o}, s₁.heap.get? a = some o → (s₁.heap.push { cls := .type "range_iterator", data := .fields #[rawInt 0, rawInt n, rawInt 1] }).get? a = some o := fun e => Heap.get?_push_of_some _ e
  have dn : ∀ {a}, (s₁.heap.push { cls := .type "range_iterator", data := .fields #[rawInt 0, rawInt n, rawInt 1] }).get? a = none → s₁.heap.get? a = none := fun {a} e => by
    cases q : s₁.heap.get? a with
    | none => rfl
    | some o => rw [up q] at e; cases e
  refine comp_block (s₂ := { s₁ with heap := s₁.heap.push _ }) (Walks.range hh s₁.heap.objs.size 0 1 n) hsz (fun i X v => ∀ X', Kp env.locals [] X X' → R i X' v) hcell hkind hx (by show IsRangeIter _ _ _ _ _; simpa using Heap.get?_push_size _ rfl) ?_ (fun i h hi => ⟨_, _, hi, rfl⟩) ?_ ?_
  · intro b hb
    rw [List.mem_singleton.mp hb]
    show _ < (Heap.push _ _).objs.size
    rw [Heap.size_push]; exact Nat.lt_succ_self _
  · rintro i v D C h tk m hi ⟨t, rfl⟩ hC hD tri hns hm hk
    have e1 : (0 : Int) + (i : Int) * 1 = (i : Int) := by omega
    rw [e1] at hm
    exact elt' i t D C _ h tk m hi (dn hC) (dn hD) fr tri hns hm fun b o e => hk b o (Nat.ne_of_lt (Heap.lt_size e)) (up e)
  · intro D C h' tk m' ys hD hC hDC hn' hl hlen hR hk
    exact asg_end (s₁ := s₁) F hy hp (dn hD) (dn hC) hDC hn' hl hlen hR (fun b o e => hk b o (Nat.ne_of_lt (Heap.lt_size e)) (up e)) done
/-- over a list -/
theorem asg_list {s₁ : Shared} {cl : List (Str × Addr)} {elt iter : Expr} {x y : Str} {px py : Pos} {scope : Scope} {pos : Pos} {Q : Flow → Shared → Prop} {l : Addr} {vs : List Value} {h₀ : Heap} {m₀ : Str → Option Value}
    (F : Fr h₀ env.locals s₁.heap m₀) (hh : A.handled = none) (hl : s₁.heap.IsList l vs.toArray)
    (hsz : vs.length ≤ 1000) (hcell : ∀ y ∈ scope.names, y.2 ≠ .cell) (hkind : scope.kind = .function) (hx : scope.names.lookup x = some .local)
    (hy : env.kindOf y = some .local) (hp : (env.scope.kind == .class || (env.scope.kind == .module && env.locals != env.globals)) = false) (R : Nat → Heap → Value → Prop)
    (elt' : ∀ i v D C I h tk m, vs[i]? = some v → s₁.heap.get? C = none → s₁.heap.get? D = none → s₁.heap.get? I = none → Tri D C I h → h.Ns C m → m x = some v → (∀ b o, s₁.heap.get? b = some o → h.get? b = some o) →
      wpAny (model prog w) A (eval elt (compEnvC scope cl C env)) (fun y s₄ => ∃ h' tk', s₄ = { s₁ with heap := h', toks := tk' } ∧ Ext h h' ∧ ∀ X, K3 D C I h' X → ∀ X', Kp env.locals [] X X' → R i X' y) (fun _ _ => False) { s₁ with heap := h, toks := tk })
    (done : ∀ D h' tk (ys : List Value), s₁.heap.get? D = none → h'.PlainList D ys.toArray → ys.length = vs.length → (∀ i (hi : i < ys.length), R i h' ys[i]) →
      Fr h₀ env.locals h' (fun z => if z = y then some (.ref D) else m₀ z) → Kp env.locals [] s₁.heap h' → Q .next { s₁ with heap := h', toks := tk }) :
    AsgTodo prog w A env cl elt x px iter scope pos y py Q (.ref l) s₁ := by
  refine wpAny_pyIter_list hl ?_
  obtain ⟨ol, hol, _⟩ := id hl
  have hlt : l < s₁.heap.objs.size := Heap.lt_size hol
  have hne : l ≠ s₁.heap.objs.size := Nat.ne_of_lt hlt
  have fr : s₁.heap.get? s₁.heap.objs.size = none := by
    cases e : s₁.heap.get? s₁.heap.objs.size with
    | none => rfl
    | some o => exact absurd (Heap.lt_size e) (Nat.lt_irrefl _)
  have up : ∀ {a o}, s₁.heap.get? a = some o → (s₁.heap.push { cls := .type "list_iterator", data := .fields #[.ref l, .int 0 0] }).get? a = some o := fun e => Heap.get?_push_of_some _ e
  have dn : ∀ {a}, (s₁.heap.push { cls := .type "list_iterator", data := .fields #[.ref l, .int 0 0] }).get? a = none → s₁.heap.get? a = none := fun {a} e => by
    cases q : s₁.heap.get? a with
    | none => rfl
    | some o => rw [up q] at e; cases e
  have hsize : vs.toArray.size = vs.length := by simp
  refine comp_block (s₂ := { s₁ with heap := s₁.heap.push _ }) (hsize ▸ Walks.list hh s₁.heap.objs.size l hne vs.toArray) hsz (fun i X v => ∀ X', Kp env.locals [] X X' → R i X' v) hcell hkind hx ⟨⟨_, Heap.get?_push_size _ rfl, rfl, rfl⟩, hl.push _⟩ ?_ (fun i h hi => let ⟨⟨o, ho, _, hd⟩, _⟩ := hi; ⟨o, _, ho, hd⟩) ?_ ?_
  · intro b hb
    show _ < (Heap.push _ _).objs.size
    rw [Heap.size_push]
    simp only [List.mem_cons, List.not_mem_nil, or_false] at hb
    rcases hb with rfl | rfl
    · exact Nat.lt_succ_self _
    · exact Nat.lt_succ_of_lt hlt
  · rintro i v D C h tk m hi hv hC hD tri hns hm hk
    exact elt' i v D C _ h tk m (by simpa using hv) (dn hC) (dn hD) fr tri hns hm fun b o e => hk b o (Nat.ne_of_lt (Heap.lt_size e)) (up e)
  · intro D C h' tk m' ys hD hC hDC hn' hl hlen hR hk
    exact asg_end (s₁ := s₁) F hy hp (dn hD) (dn hC) hDC hn' hl hlen hR (fun b o e => hk b o (Nat.ne_of_lt (Heap.lt_size e)) (up e)) done
end
end Mine

namespace Mine
local macro_rules | `(tactic| walk_at "my pad 0") => `(tactic| skip)
local macro_rules | `(tactic| walk_at "my pad 1") => `(tactic| skip)
local macro_rules | `(tactic| walk_at "my pad 2") => `(tactic| skip)
local macro_rules | `(tactic| walk_at "my pad 3") => `(tactic| skip)
local macro_rules | `(tactic| walk_at "my pad 4") => `(tactic| skip)
local macro_rules | `(tactic| walk_at "my pad 5") => `(tactic| skip)
local macro_rules | `(tactic| walk_at "my pad 6") => `(tactic| skip)
local macro_rules | `(tactic| walk_at "my pad 7") => `(tactic| skip)
local macro_rules | `(tactic| walk_at "my pad 8") => `(tactic| skip)
local macro_rules | `(tactic| walk_at "my pad 9") => `(tactic| skip)
local macro_rules | `(tactic| walk_at "my pad 10") => `(tactic| skip)
local macro_rules | `(tactic| walk_at "my pad 11") => `(tactic| skip)
local macro_rules | `(tactic| walk_at "my pad 12") => `(tactic| skip)
local macro_rules | `(tactic| walk_at "my pad 13") => `(tactic| skip)
local macro_rules | `(tactic| walk_at "my pad 14") => `(tactic| skip)
local macro_rules | `(tactic| walk_at "my pad 15") => `(tactic| skip)
local macro_rules | `(tactic| walk_at "my pad 16") => `(tactic| skip)
local macro_rules | `(tactic| walk_at "my pad 17") => `(tactic| skip)
local macro_rules | `(tactic| walk_at "my pad 18") => `(tactic| skip)
local macro_rules | `(tactic| walk_at "my pad 19") => `(tactic| skip)
local macro_rules | `(tactic| walk_at "my pad 20") => `(tactic| skip)
local macro_rules | `(tactic| walk_at "my pad 21") => `(tactic| skip)
local macro_rules | `(tactic| walk_at "my pad 22") => `(tactic| skip)
local macro_rules | `(tactic| walk_at "my pad 23") => `(tactic| skip)
local macro_rules | `(tactic| walk_at "my pad 24") => `(tactic| skip)
local macro_rules | `(tactic| walk_at "exec For Name Call cons nil") => `(tactic| (k_here; k_dflt (refine For_todo ?_)))
local macro_rules | `(tactic| walk_at "exec For Name Name cons nil") => `(tactic| (k_here; k_dflt (refine For_todo ?_)))
local macro_rules | `(tactic| walk_at "call builtin:len") => `(tactic| (k_here; (with_reducible show wpAny _ _ (call (Value.builtin "len") [Value.ref _]) _ _ _); k_dflt (first
  | (refine' len_list (Fr.lst (by assumption) (by assumption)) ?fit ?_; (case fit => simp only [List.size_toArray]; omega); k_whole)
  | (refine' len_tuple (Fr.tup (by assumption) (by assumption)) ?fit ?_; (case fit => simp only [List.size_toArray]; omega); k_whole)); (try simp only [List.size_toArray])))
local macro_rules | `(tactic| walk_at "my enter") => `(tactic| (
  (k_dflt (refine' enter (K := hd.heap_39 _) ?k1 ?k2 ?k6 ?k7 ?k8 ?k9 ?kB ?_ ?c2 ?c3 ?c4 ?c5; (case k1 => assumption); (case k2 => exact Top.nolimit (by assumption)); (case k6 => k_is); (case k7 => k_is); (case k8 => decide); (case k9 => exact BindsTo.of_eq rfl); (case c5 => decide); (case kB => exact locs rfl); (case c2 => exact rfl); (case c3 => exact rfl); (case c4 => exact rfl)));
  dsimp only))
local macro_rules | `(tactic| walk_at "subscriptTail Name Name ref int") => `(tactic| (k_here; k_dflt (first
  | (refine' item_list (Fr.lst (by assumption) (by assumption)) ?h0 ?hf ?hx ?_; (case h0 => omega); (case hf => omega); (case hx => assumption); k_whole)
  | (refine' item_tup_nat (Fr.tup (by assumption) (by assumption)) ?hf ?hx ?_; (case hf => omega); (case hx => assumption); k_whole))))
local macro_rules | `(tactic| walk_at "compareOp NotEq ref ref") => `(tactic| (k_here; k_dflt (
  (refine' ent_ne (EntryAt.keep ?a ?ka) (EntryAt.keep ?b ?kb) ?oa ?ob ?u ?_; (case a => assumption); (case b => assumption); (case ka => exact Ext.tup (Fr.keep (by assumption))); (case kb => exact Ext.tup (Fr.keep (by assumption))); (case oa => assumption); (case ob => assumption); (case u => k_units); k_whole))))
local macro_rules | `(tactic| walk_at "call builtin:isinstance") => `(tactic| (k_here; (with_reducible show wpAny _ _ (call (Value.builtin "isinstance") [Value.ref _, Value.type _]) _ _ _); k_dflt (first
  | (refine' isi_ti ?F ?x ?_; (case F => assumption); (case x => assumption); k_whole)
  | (refine' isi_ts ?F ?x ?_; (case F => assumption); (case x => assumption); k_whole)
  | (refine' isi_tt ?F ?x ?_; (case F => assumption); (case x => assumption); k_whole))))
local macro_rules | `(tactic| walk_at "subscriptTail Name Slice ref ref") => `(tactic| (k_here; k_dflt (refine tail_todo ?_)))
local macro_rules | `(tactic| walk_at "call ref") => `(tactic| (k_here; k_dflt (refine call_todo ?_)))
local macro_rules | `(tactic| walk_at "eval ListComp") => `(tactic| (k_here; k_dflt (refine' comp_todo ?hclos ?hkind ?hnames ?_; (case hclos => exact rfl); (case hkind => exact rfl); (case hnames => decide))))
local macro_rules | `(tactic| walk_at "my enterC") => `(tactic| (
  (k_dflt (refine' enterC (K := hd.heap_39 _) ?k1 ?k2 ?k6 ?k7 ?k8 ?k9 ?kB ?kD ?_ ?c2 ?c3 ?c4; (case k1 => assumption); (case k2 => exact Top.nolimit (by assumption)); (case k6 => k_is); (case k7 => k_is); (case k8 => decide); (case k9 => exact BindsTo.of_eq rfl); (case kB => exact rfl); (case kD => decide +kernel); (case c2 => exact rfl); (case c3 => exact rfl); (case c4 => exact rfl)));
  dsimp only))
section
variable {prog : Program} {w : World} {A : Around} {env : Env} {h₀ : Heap}
theorem turn_in (elt t1 i1 t2 i2 : Expr) (scope : Scope) (pos : Pos) (it acc : Value) (env : Env) :
    compTurn (.ListComp elt [⟨t1, i1, [], 0⟩, ⟨t2, i2, [], 0⟩] scope pos) 1 it acc env = (standAt i2.pos >>= fun _ => pyNext it >>= fun r => match r with
      | none => pure (.done .next)
      | some v => letOwnedTupleGo t2 it v >>= fun _ => assign t2 env v >>= fun _ =>
        (eval elt env >>= fun x => call (.builtin "list.append") [acc, x] >>= fun _ => pure ()) >>= fun _ =>
          again (.compLoop (.ListComp elt [⟨t1, i1, [], 0⟩, ⟨t2, i2, [], 0⟩] scope pos) 1 it acc env)) := by rfl
theorem turn_out (elt t1 i1 t2 i2 : Expr) (scope : Scope) (pos : Pos) (it acc : Value) (env : Env) :
    compTurn (.ListComp elt [⟨t1, i1, [], 0⟩, ⟨t2, i2, [], 0⟩] scope pos) 0 it acc env = (standAt i1.pos >>= fun _ => pyNext it >>= fun r => match r with
      | none => pure (.done .next)
      | some v => letOwnedTupleGo t1 it v >>= fun _ => assign t1 env v >>= fun _ =>
        (eval i2 env >>= fun x => standAt i2.pos >>= fun _ => foldedSetIterable i2 env x >>= fun x => holding [x] (pyIter x) >>= fun it2 => runOwn (.compStart (.ListComp elt [⟨t1, i1, [], 0⟩, ⟨t2, i2, [], 0⟩] scope pos) 1 it2 acc env) env >>= fun _ =>
          again (.compLoop (.ListComp elt [⟨t1, i1, [], 0⟩, ⟨t2, i2, [], 0⟩] scope pos) 0 it acc env))) := by rfl
theorem loop_in {R : Result → Shared → Prop} {s : Shared} {elt t1 i1 t2 i2 : Expr} {scope : Scope} {pos : Pos} {it acc : Value} (I : Nat → Shared → Prop)
    (turn : ∀ n s, I n s → wpAny (model prog w) A (pyNext it) (fun r s₁ => match r with
      | none => R (.ok .next) s₁
      | some v => wpAny (model prog w) A (assign t2 env v) (fun _ s₂ => wpAny (model prog w) A (eval elt env) (fun x s₃ =>
          wpAny (model prog w) A (call (.builtin "list.append") [acc, x]) (fun _ s₄ => ∃ m, m < n ∧ I m s₄) (fun _ _ => False) s₃)
          (fun _ _ => False) s₂) (fun _ _ => False) s₁) (fun _ _ => False) s)
    (n : Nat) (h : I n s) (ht : ∀ v, letOwnedTupleGo t2 it v = pure () := by intro _; rfl) :
    codeAny (model prog w) A (.compLoop (.ListComp elt [⟨t1, i1, [], 0⟩, ⟨t2, i2, [], 0⟩] scope pos) 1 it acc env) R s := by
  refine codeAny_loop rfl I (fun n s hI => ?_) n h
  show wpAny _ _ ((compTurn (.ListComp elt [⟨t1, i1, [], 0⟩, ⟨t2, i2, [], 0⟩] scope pos) 1 it acc env).onRaise (fun x => do noteFrame x env; theTreesLotGoes x)) _ _ s
  refine wpAny_noted ?_
  rw [turn_in]
  refine wpAny_bind (wpAny_standAt (wpAny_bind (wpAny_mono (turn n s hI) (fun r s₁ h₁ => ?_) fun _ _ h' => h'.elim)))
  cases r with
  | none => exact wpAny_pure h₁
  | some v =>
    refine wpAny_bind (wpAny_of_eq (ht v) ?_)
    exact wpAny_bind (wpAny_mono h₁ (fun _ s₂ h₂ => wpAny_bind (wpAny_bind (wpAny_mono h₂ (fun x s₃ h₃ => wpAny_bind (wpAny_mono h₃
      (fun _ s₄ h₄ => wpAny_pure (wpAny_pure ⟨rfl, h₄⟩)) fun _ _ h' => h'.elim)) fun _ _ h' => h'.elim))) fun _ _ h' => h'.elim)
theorem loop_out {R : Result → Shared → Prop} {s : Shared} {elt t1 i1 t2 i2 : Expr} {scope : Scope} {pos : Pos} {it acc : Value} (I : Nat → Shared → Prop)
    (turn : ∀ n s, I n s → wpAny (model prog w) A (pyNext it) (fun r s₁ => match r with
      | none => R (.ok .next) s₁
      | some v => wpAny (model prog w) A (assign t1 env v) (fun _ s₂ => wpAny (model prog w) A (eval i2 env) (fun x s₃ =>
          wpAny (model prog w) A (pyIter x) (fun it2 s₄ => codeAny (model prog w) A (.compStart (.ListComp elt [⟨t1, i1, [], 0⟩, ⟨t2, i2, [], 0⟩] scope pos) 1 it2 acc env) (fun r s₅ => match r with | .ok _ => ∃ m, m < n ∧ I m s₅ | .error _ => False) s₄) (fun _ _ => False) s₃)
          (fun _ _ => False) s₂) (fun _ _ => False) s₁) (fun _ _ => False) s)
    (n : Nat) (h : I n s) (ht : ∀ v, letOwnedTupleGo t1 it v = pure () := by intro _; rfl) (hs2 : ∀ x, foldedSetIterable i2 env x = pure x) :
    codeAny (model prog w) A (.compLoop (.ListComp elt [⟨t1, i1, [], 0⟩, ⟨t2, i2, [], 0⟩] scope pos) 0 it acc env) R s := by
  refine codeAny_loop rfl I (fun n s hI => ?_) n h
  show wpAny _ _ ((compTurn (.ListComp elt [⟨t1, i1, [], 0⟩, ⟨t2, i2, [], 0⟩] scope pos) 0 it acc env).onRaise (fun x => do noteFrame x env; theTreesLotGoes x)) _ _ s
  refine wpAny_noted ?_
  rw [turn_out]
  refine wpAny_bind (wpAny_standAt (wpAny_bind (wpAny_mono (turn n s hI) (fun r s₁ h₁ => ?_) fun _ _ h' => h'.elim)))
  cases r with
  | none => exact wpAny_pure h₁
  | some v =>
    refine wpAny_bind (wpAny_of_eq (ht v) ?_)
    refine wpAny_bind (wpAny_mono h₁ (fun _ s₂ h₂ => wpAny_bind (wpAny_mono h₂ (fun x s₃ h₃ => ?_) fun _ _ h' => h'.elim)) fun _ _ h' => h'.elim)
    refine wpAny_bind (wpAny_standAt (wpAny_bind (wpAny_of_eq (hs2 x) (wpAny_bind (wpAny_holding (wpAny_mono h₃ (fun it2 s₄ h₄ => ?_) fun _ _ h' => h'.elim))))))
    refine wpAny_bind (wpAny_runOwn (codeAny_mono h₄ fun r s₅ h₅ => ?_))
    cases r with
    | ok f => exact wpAny_pure ⟨rfl, h₅⟩
    | error e => exact h₅.elim
theorem start_in {R : Result → Shared → Prop} {s : Shared} {elt t1 i1 t2 i2 : Expr} {scope : Scope} {pos : Pos} {it acc : Value}
    (h0 : codeAny (model prog w) A (.compLoop (.ListComp elt [⟨t1, i1, [], 0⟩, ⟨t2, i2, [], 0⟩] scope pos) 1 it acc env) R s)
    (h : wpAny (model prog w) A (pyIter it) (fun it' s' => codeAny (model prog w) A (.compLoop (.ListComp elt [⟨t1, i1, [], 0⟩, ⟨t2, i2, [], 0⟩] scope pos) 1 it' acc env) R s') (fun _ _ => False) s) :
    codeAny (model prog w) A (.compStart (.ListComp elt [⟨t1, i1, [], 0⟩, ⟨t2, i2, [], 0⟩] scope pos) 1 it acc env) R s := by
  refine codeAny_of_tree ?_
  show wpAny _ _ ((compStart (.ListComp elt [⟨t1, i1, [], 0⟩, ⟨t2, i2, [], 0⟩] scope pos) 1 it acc env).onRaise (fun x => do noteFrame x env; standAt theWindowsPlace)) _ _ s
  refine wpAny_notedAt ?_
  unfold compStart
  show wpAny _ _ (ask >>= _) _ _ s
  refine wpAny_bind (wpAny_askSetting (wpAny_ite ?_))
  split
  · first
      | exact wpAny_bind (wpAny_pure (wpAny_pure (And.intro rfl h0)))
      | exact wpAny_pure (And.intro rfl h0)
  · refine wpAny_bind (wpAny_rule ?_)
    show wpAny _ _ (standAt i2.pos >>= _) _ _ s
    exact wpAny_bind (wpAny_standAt (wpAny_bind (wpAny_mono h (fun it' s' h' => wpAny_pure (And.intro rfl h')) fun _ _ x => x.elim)))
theorem K3.trans {D C I : Addr} {a b c : Heap} (x : K3 D C I a b) (y : K3 D C I b c) : K3 D C I a c := fun p o e h1 h2 h3 => y p o (x p o e h1 h2 h3) h1 h2 h3
theorem inner_ok {R : Result → Shared → Prop} {elt t1 i1 i2 : Expr} {y : Str} {py : Pos} {scope : Scope} {pos : Pos} {I2 D : Addr} {k : Nat} {s : Shared} {ys0 : List Value} {m0 : Str → Option Value} (hh : A.handled = none)
    (RR : Nat → Heap → Value → Prop) (stab : ∀ i h h' v, RR i h v → TupKeep h h' → RR i h' v)
    (hy : env.kindOf y = some .local) (hp : (env.scope.kind == .class || (env.scope.kind == .module && env.locals != env.globals)) = false)
    (hDC : D ≠ env.locals) (hDI : D ≠ I2) (hCI : env.locals ≠ I2) (hsz : ys0.length + k ≤ 1000)
    (hit : IsRangeIter s.heap I2 (0 + ((0 : Nat) : Int) * 1) ((k : Int) - ((0 : Nat) : Int)) 1) (hl : s.heap.PlainList D ys0.toArray) (hn : s.heap.Ns env.locals m0) (hR : ∀ i (hi : i < ys0.length), RR i s.heap ys0[i])
    (elt' : ∀ j t h tk m, j < k → h.Ns env.locals m → m y = some (.int (j : Int) t) → (∀ z, z ≠ y → m z = m0 z) → K3 D env.locals I2 s.heap h → Tri D env.locals I2 h →
      wpAny (model prog w) A (eval elt env) (fun u s₄ => ∃ h' tk', s₄ = { s with heap := h', toks := tk' } ∧ Ext h h' ∧ RR (ys0.length + j) h' u) (fun _ _ => False) { s with heap := h, toks := tk })
    (done : ∀ h tk m (ys : List Value), ys.length = ys0.length + k → h.PlainList D ys.toArray → h.Ns env.locals m → (∀ z, z ≠ y → m z = m0 z) → (∀ i (hi : i < ys.length), RR i h ys[i]) → K3 D env.locals I2 s.heap h → R (.ok .next) { s with heap := h, toks := tk }) :
    codeAny (model prog w) A (.compLoop (.ListComp elt [⟨t1, i1, [], 0⟩, ⟨.Name y py, i2, [], 0⟩] scope pos) 1 (.ref I2) (.ref D) env) R s := by
  have W := Walks.range (prog := prog) (w := w) hh I2 0 1 k
  refine loop_in (fun q s' => ∃ h tk m, ∃ ys : List Value, ∃ j : Nat, s' = { s with heap := h, toks := tk } ∧ ys.length = ys0.length + j ∧ j ≤ k ∧ q = k + 1 - j ∧ IsRangeIter h I2 (0 + (j : Int) * 1) ((k : Int) - (j : Int)) 1 ∧ h.PlainList D ys.toArray ∧ h.Ns env.locals m ∧ (∀ z, z ≠ y → m z = m0 z) ∧ (∀ i (hi : i < ys.length), RR i h ys[i]) ∧ K3 D env.locals I2 s.heap h)
    ?_ (k + 1) ⟨s.heap, s.toks, m0, ys0, 0, rfl, rfl, Nat.zero_le _, rfl, hit, hl, hn, fun _ _ => rfl, hR, fun a o e _ _ _ => e⟩
  rintro q s' ⟨h, tk, m, ys, j, rfl, hlen, hj, rfl, hst, hacc, hns, hm, hRR, hK⟩
  have tri0 : Tri D env.locals I2 h := ⟨let ⟨q, e⟩ := hacc; ⟨_, q, e⟩, ⟨_, hns⟩, ⟨_, _, hst, rfl⟩⟩
  by_cases hlt : j < k
  · refine W.item j _ _ _ hlt hst fun v h₂ tk₂ hPv hst₂ hk₂ => ?_
    obtain ⟨t, rfl⟩ := hPv
    have e1 : (0 : Int) + (j : Int) * 1 = (j : Int) := by omega
    rw [e1]
    refine wpAny_assign_Name (wpAny_storeName_local hy (hns.at' fun o e => hk₂ _ o (by simpa using hCI) e) (fun h₃ hn₃ hs₃ => ?_) hp)
    have k₃ : K3 D env.locals I2 h h₃ := fun a o e _ hc hi => hs₃.extBut a o hc (hk₂ a o (by simpa using hi) e)
    have hst₃ : IsRangeIter h₃ I2 (0 + ((j + 1 : Nat) : Int) * 1) ((k : Int) - ((j + 1 : Nat) : Int)) 1 := hs₃.extBut _ _ hCI.symm hst₂
    have hacc₃ : h₃.PlainList D ys.toArray := hacc.at fun o e => hs₃.extBut _ o hDC (hk₂ _ o (by simpa using hDI) e)
    have tri₃ : Tri D env.locals I2 h₃ := ⟨let ⟨q, e⟩ := hacc₃; ⟨_, q, e⟩, ⟨_, hn₃⟩, ⟨_, _, hst₃, rfl⟩⟩
    refine wpAny_mono (elt' j t h₃ _ _ hlt hn₃ (by simp) (fun z hz => by simp [hz, hm z hz]) (hK.trans k₃) tri₃) (fun u s₄ h₄ => ?_) fun _ _ e => e.elim
    obtain ⟨h₄, tk₄, rfl, x₄, hRu⟩ := h₄
    have hys : ys.toArray.size ≤ sizeLine := by rw [List.size_toArray, sizeLine_eq]; omega
    refine wpAny_list_append_plain (hsz := hys) (hacc₃.at fun o e => x₄ _ o e) fun h₅ hl₅ hs₅ => ?_
    have k₅ : K3 D env.locals I2 h₃ h₅ := fun a o e hd _ _ => hs₅.extBut a o hd (x₄ a o e)
    have t₅ : TupKeep h₄ h₅ := K3.tup (D := D) (C := env.locals) (I := I2) (fun a o e hd _ _ => hs₅.extBut a o hd e) (tri₃.ext x₄)
    have t₀ : TupKeep h h₅ := K3.tup (k₃.trans k₅) tri0
    refine ⟨k + 1 - (j + 1), by omega, h₅, tk₄, _, ys ++ [u], j + 1, rfl, by rw [List.length_append, List.length_singleton]; omega, hlt, rfl, ?_, by simpa using hl₅, (hn₃.keeps x₄).sameBut hs₅ (Ne.symm hDC), fun z hz => by simp [hz, hm z hz], ?_, (hK.trans k₃).trans k₅⟩
    · exact hs₅.extBut _ _ (Ne.symm hDI) (x₄ _ _ hst₃)
    · intro i hi
      rw [List.length_append, List.length_singleton] at hi
      by_cases hil : i < ys.length
      · rw [List.getElem_append_left hil]
        exact stab _ _ _ _ (hRR i hil) t₀
      · have e0 : i = ys.length := by omega
        subst e0
        have e1 : (ys ++ [u])[ys.length] = u := by simp
        rw [e1, hlen]
        exact stab _ _ _ _ hRu t₅
  · have hjk : j = k := by omega
    subst hjk
    refine W.done _ _ _ hst fun h₂ tk₂ hk₂ => ?_
    have k₂ : K3 D env.locals I2 h h₂ := fun a o e _ _ hi => hk₂ a o (by simpa using hi) e
    exact done h₂ tk₂ m ys hlen (hacc.at fun o e => hk₂ _ o (by simpa using hDI) e) (hns.at' fun o e => hk₂ _ o (by simpa using hCI) e) hm (fun i hi => stab _ _ _ _ (hRR i hi) (K3.tup k₂ tri0)) (hK.trans k₂)
end
end Mine

namespace Mine
local macro_rules | `(tactic| walk_at "exec For Name Call cons nil") => `(tactic| (k_here; k_dflt (refine For_todo ?_)))
local macro_rules | `(tactic| walk_at "exec For Name Name cons nil") => `(tactic| (k_here; k_dflt (refine For_todo ?_)))
local macro_rules | `(tactic| walk_at "call builtin:len") => `(tactic| (k_here; (with_reducible show wpAny _ _ (call (Value.builtin "len") [Value.ref _]) _ _ _); k_dflt (first
  | (refine' len_list (Fr.lst (by assumption) (by assumption)) ?fit ?_; (case fit => simp only [List.size_toArray]; omega); k_whole)
  | (refine' len_tuple (Fr.tup (by assumption) (by assumption)) ?fit ?_; (case fit => simp only [List.size_toArray]; omega); k_whole)); (try simp only [List.size_toArray])))
local macro_rules | `(tactic| walk_at "my enter") => `(tactic| (
  (k_dflt (refine' enter (K := hd.heap_39 _) ?k1 ?k2 ?k6 ?k7 ?k8 ?k9 ?kB ?_ ?c2 ?c3 ?c4 ?c5; (case k1 => assumption); (case k2 => exact Top.nolimit (by assumption)); (case k6 => k_is); (case k7 => k_is); (case k8 => decide); (case k9 => exact BindsTo.of_eq rfl); (case c5 => decide); (case kB => exact locs rfl); (case c2 => exact rfl); (case c3 => exact rfl); (case c4 => exact rfl)));
  dsimp only))
local macro_rules | `(tactic| walk_at "subscriptTail Name Name ref int") => `(tactic| (k_here; k_dflt (first
  | (refine' item_list (Fr.lst (by assumption) (by assumption)) ?h0 ?hf ?hx ?_; (case h0 => omega); (case hf => omega); (case hx => assumption); k_whole)
  | (refine' item_tup_nat (Fr.tup (by assumption) (by assumption)) ?hf ?hx ?_; (case hf => omega); (case hx => assumption); k_whole))))
local macro_rules | `(tactic| walk_at "compareOp NotEq ref ref") => `(tactic| (k_here; k_dflt (
  (refine' ent_ne (EntryAt.keep ?a ?ka) (EntryAt.keep ?b ?kb) ?oa ?ob ?u ?_; (case a => assumption); (case b => assumption); (case ka => exact Ext.tup (Fr.keep (by assumption))); (case kb => exact Ext.tup (Fr.keep (by assumption))); (case oa => assumption); (case ob => assumption); (case u => k_units); k_whole))))
local macro_rules | `(tactic| walk_at "call builtin:isinstance") => `(tactic| (k_here; (with_reducible show wpAny _ _ (call (Value.builtin "isinstance") [Value.ref _, Value.type _]) _ _ _); k_dflt (first
  | (refine' isi_ti ?F ?x ?_; (case F => assumption); (case x => assumption); k_whole)
  | (refine' isi_ts ?F ?x ?_; (case F => assumption); (case x => assumption); k_whole)
  | (refine' isi_tt ?F ?x ?_; (case F => assumption); (case x => assumption); k_whole))))
local macro_rules | `(tactic| walk_at "subscriptTail Name Slice ref ref") => `(tactic| (k_here; k_dflt (refine tail_todo ?_)))
local macro_rules | `(tactic| walk_at "call ref") => `(tactic| (k_here; k_dflt (refine call_todo ?_)))
local macro_rules | `(tactic| walk_at "eval ListComp") => `(tactic| (k_here; k_dflt (refine' comp_todo ?hclos ?hkind ?hnames ?_; (case hclos => exact rfl); (case hkind => exact rfl); (case hnames => decide))))
local macro_rules | `(tactic| walk_at "my enterC") => `(tactic| (
  (k_dflt (refine' enterC (K := hd.heap_39 _) ?k1 ?k2 ?k6 ?k7 ?k8 ?k9 ?kB ?kD ?_ ?c2 ?c3 ?c4; (case k1 => assumption); (case k2 => exact Top.nolimit (by assumption)); (case k6 => k_is); (case k7 => k_is); (case k8 => decide); (case k9 => exact BindsTo.of_eq rfl); (case kB => exact rfl); (case kD => decide +kernel); (case c2 => exact rfl); (case c3 => exact rfl); (case c4 => exact rfl)));
  dsimp only))
def Comp2Todo (prog : Program) (w : World) (A : Around) (env : Env) (cl : List (Str × Addr)) (elt : Expr) (x : Str) (px : Pos) (iter : Expr) (g2 : Comprehension) (scope : Scope) (pos : Pos) (Q : Value → Shared → Prop) (xv : Value) (s₁ : Shared) : Prop :=
  wpAny (model prog w) A (pyIter xv) (fun it s₂ => wpAny (model prog w) A (newList []) (fun acc s₃ => wpAny (model prog w) A (newFunctionEnv scope env.globals cl [] env.qual none .none (some env)) (fun cenv s₄ =>
      codeAny (model prog w) A (.compStart (.ListComp elt [⟨.Name x px, iter, [], 0⟩, g2] scope pos) 0 it acc { cenv with scope := relabel scope env }) (compPost (model prog w) A (fun _ _ => False) none Q acc cenv.locals) s₄) (fun _ _ => False) s₃) (fun _ _ => False) s₂) (fun _ _ => False) s₁
section
variable {prog : Program} {w : World} {A : Around} {env : Env}
theorem comp2_todo {s : Shared} {elt iter : Expr} {x : Str} {px : Pos} {g2 : Comprehension} {scope : Scope} {cl : List (Str × Addr)} {pos : Pos} {Q : Value → Shared → Prop} (hclos : closureFor scope env = pure cl) (hkind : scope.kind = .function)
    (hnames : ∀ y ∈ scope.names, y.2 = .local → scope.names.lookup y.1 = some .local)
    (h : wpAny (model prog w) A (eval iter env) (Comp2Todo prog w A env cl elt x px iter g2 scope pos Q) (fun _ _ => False) s) (hs : ∀ x, foldedSetIterable iter env x = pure x := by intro _; rfl) :
    wpAny (model prog w) A (eval (.ListComp elt [⟨.Name x px, iter, [], 0⟩, g2] scope pos) env) Q (fun _ _ => False) s := by
  rw [eval_ListComp]
  exact wpAny_comprehension_free (use := none) rfl hs hclos hkind hnames (wpAny_mono h (fun xv s₁ h₁ => wpAny_mono h₁ (fun it s₂ h₂ => h₂) fun _ _ e => e) fun _ _ e => e)
theorem comp_range2 {s₁ : Shared} {cl : List (Str × Addr)} {elt iter i2 : Expr} {x y : Str} {px py : Pos} {scope : Scope} {pos : Pos} {Q : Value → Shared → Prop} {r : Addr} {b b2 : Int} {t₀ u₀ v₀ : Tok} {n k : Nat} (hh : A.handled = none) (hr : IsRange s₁.heap r 0 b 1 t₀ u₀ v₀)
    (hsmall : Builtin.Range.small 0 b 1 = true) (hn : Builtin.Range.rangeSize 0 b 1 = (n : Int)) (hsz : n * k + k ≤ 1000) (hcell : ∀ y ∈ scope.names, y.2 ≠ .cell) (hkind : scope.kind = .function) (hx : scope.names.lookup x = some .local) (hy : scope.names.lookup y = some .local) (hxy : x ≠ y)
    (RR : Nat → Heap → Value → Prop) (stab : ∀ i h h' v, RR i h v → TupKeep h h' → RR i h' v)
    (hs2 : ∀ C x, foldedSetIterable i2 (compEnvC scope cl C env) x = pure x) (hsmall2 : Builtin.Range.small 0 b2 1 = true) (hn2 : Builtin.Range.rangeSize 0 b2 1 = (k : Int))
    (iter' : ∀ C h tk m, s₁.heap.get? C = none → h.Ns C m → (∀ b o, s₁.heap.get? b = some o → h.get? b = some o) → wpAny (model prog w) A (eval i2 (compEnvC scope cl C env)) (fun v s₄ => ∃ r2 h' tk' t0 u0 v0, v = .ref r2 ∧ s₄ = { s₁ with heap := h', toks := tk' } ∧ Ext h h' ∧ IsRange h' r2 0 b2 1 t0 u0 v0) (fun _ _ => False) { s₁ with heap := h, toks := tk })
    (elt' : ∀ i j ti tj C h tk m, i < n → j < k → s₁.heap.get? C = none → h.Ns C m → m x = some (.int (i : Int) ti) → m y = some (.int (j : Int) tj) → (∀ b o, s₁.heap.get? b = some o → h.get? b = some o) →
      wpAny (model prog w) A (eval elt (compEnvC scope cl C env)) (fun u s₄ => ∃ h' tk', s₄ = { s₁ with heap := h', toks := tk' } ∧ Ext h h' ∧ RR (i * k + j) h' u) (fun _ _ => False) { s₁ with heap := h, toks := tk })
    (done : ∀ D h' tk (ys : List Value), s₁.heap.get? D = none → h'.PlainList D ys.toArray → ys.length = n * k → (∀ i (hi : i < ys.length), RR i h' ys[i]) → Ext s₁.heap h' → Q (.ref D) { s₁ with heap := h', toks := tk }) :
    Comp2Todo prog w A env cl elt x px iter ⟨.Name y py, i2, [], 0⟩ scope pos Q (.ref r) s₁ := by
  refine wpAny_pyIter_range hr hsmall ?_
  rw [hn]
  have fr : ∀ a, s₁.heap.objs.size ≤ a → s₁.heap.get? a = none := fun a ha => by
    cases e : s₁.heap.get? a with
    | none => rfl
    | some o => exact absurd (Heap.lt_size e) (Nat.not_lt.mpr ha)
  generalize hHI : s₁.heap.push { cls := .type "range_iterator", data := .fields #[rawInt 0, rawInt n, rawInt 1] } = HI
  have hI0 : IsRangeIter HI s₁.heap.objs.size (0 + ((0 : Nat) : Int) * 1) ((n : Int) - ((0 : Nat) : Int)) 1 := by
    rw [← hHI]; show IsRangeIter _ _ _ _ _; simpa using Heap.get?_push_size _ rfl
  have sI : HI.objs.size = s₁.heap.objs.size + 1 := by rw [← hHI, Heap.size_push]
  have upI : ∀ b o, s₁.heap.get? b = some o → HI.get? b = some o := fun b o e => hHI ▸ Heap.get?_push_of_some _ e
  refine wpAny_newObj_type (wpAny_newFunctionEnv hcell (by intro y hy; simp at hy) (fun h₁ hns₁ hsb₁ => ?_) hkind)
  dsimp only at hns₁ hsb₁ ⊢
  generalize hH2 : HI.push { cls := .type "list", dict := none, data := .seq ([] : List Value).toArray } = H2 at hns₁ hsb₁ ⊢
  have s2 : H2.objs.size = s₁.heap.objs.size + 1 + 1 := by rw [← hH2, Heap.size_push, sI]
  have hl2 : H2.PlainList HI.objs.size #[] := ⟨_, hH2 ▸ Heap.get?_push_size _ rfl⟩
  have up2 : ∀ b o, HI.get? b = some o → H2.get? b = some o := fun b o e => hH2 ▸ Heap.get?_push_of_some _ e
  have nIC : s₁.heap.objs.size ≠ H2.objs.size := by rw [s2]; exact Nat.ne_of_lt (Nat.lt_succ_of_lt (Nat.lt_succ_self _))
  have nDC : HI.objs.size ≠ H2.objs.size := by rw [s2, sI]; exact Nat.ne_of_lt (Nat.lt_succ_self _)
  have nDI : HI.objs.size ≠ s₁.heap.objs.size := by rw [sI]; exact Nat.ne_of_gt (Nat.lt_succ_self _)
  have fI := fr _ (Nat.le_refl _)
  have fD := fr HI.objs.size (by rw [sI]; exact Nat.le_succ _)
  have fC := fr H2.objs.size (by rw [s2]; exact Nat.le_succ_of_le (Nat.le_succ _))
  have old₁ : Ext s₁.heap h₁ := fun b o e => hsb₁.extBut b o (fun q => by rw [q, fC] at e; cases e) (Heap.get?_push_of_some _ (up2 _ _ (upI _ _ e)))
  have acc₁ : h₁.PlainList HI.objs.size #[] := hl2.at fun o e => hsb₁.extBut _ o nDC (Heap.get?_push_of_some _ e)
  have hit₁ : IsRangeIter h₁ s₁.heap.objs.size (0 + ((0 : Nat) : Int) * 1) ((n : Int) - ((0 : Nat) : Int)) 1 := hsb₁.extBut _ _ nIC (Heap.get?_push_of_some _ (up2 _ _ hI0))
  clear hl2 hI0
  generalize HI.objs.size = D at *
  generalize H2.objs.size = C at *
  generalize hIe : s₁.heap.objs.size = I at *
  have W := Walks.range (prog := prog) (w := w) hh I 0 1 n
  have loop : ∀ s₃ : Shared, s₃ = { s₁ with heap := h₁, toks := s₁.toks + ([] : List (Str × Value)).length } →
      codeAny (model prog w) A (.compLoop (.ListComp elt [⟨.Name x px, iter, [], 0⟩, ⟨.Name y py, i2, [], 0⟩] scope pos) 0 (.ref I) (.ref D) (compEnvC scope cl C env)) (compPost (model prog w) A (fun _ _ => False) none Q (.ref D) C) s₃ := by
    rintro s₃ rfl
    refine loop_out (fun q s' => ∃ h tk m, ∃ ys : List Value, ∃ i : Nat, s' = { s₁ with heap := h, toks := tk } ∧ ys.length = i * k ∧ i ≤ n ∧ q = n + 1 - i ∧ IsRangeIter h I (0 + (i : Int) * 1) ((n : Int) - (i : Int)) 1 ∧ h.PlainList D ys.toArray ∧ h.Ns C m ∧ (∀ a (ha : a < ys.length), RR a h ys[a]) ∧ Ext s₁.heap h)
      ?_ (n + 1) ⟨h₁, _, _, [], 0, rfl, by simp, Nat.zero_le _, rfl, hit₁, acc₁, hns₁, by simp, old₁⟩ (by intro _; rfl) (hs2 C)
    rintro q s' ⟨h, tk, m, ys, i, rfl, hlen, hi, rfl, hst, hacc, hns, hRR, hE⟩
    have tri0 : Tri D C I h := ⟨let ⟨q, e⟩ := hacc; ⟨_, q, e⟩, ⟨_, hns⟩, ⟨_, _, hst, rfl⟩⟩
    by_cases hlt : i < n
    · refine W.item i _ _ _ hlt hst fun v h₂ tk₂ hPv hst₂ hk₂ => ?_
      obtain ⟨t, rfl⟩ := hPv
      have e1 : (0 : Int) + (i : Int) * 1 = (i : Int) := by omega
      rw [e1]
      refine wpAny_assign_Name (wpAny_storeName_local (lookup_relabel_local hx) (hns.at' fun o e => hk₂ _ o (by simpa using nIC.symm) e) (fun h₃ hn₃ hs₃ => ?_) (by simp [compEnvC, relabel, hkind]))
      have k₃ : K3 D C I h h₃ := fun a o e _ hc hi => hs₃.extBut a o hc (hk₂ a o (by simpa using hi) e)
      have hst₃ : IsRangeIter h₃ I (0 + ((i + 1 : Nat) : Int) * 1) ((n : Int) - ((i + 1 : Nat) : Int)) 1 := hs₃.extBut _ _ nIC hst₂
      have hacc₃ : h₃.PlainList D ys.toArray := hacc.at fun o e => hs₃.extBut _ o nDC (hk₂ _ o (by simpa using nDI) e)
      have hE₃ : Ext s₁.heap h₃ := fun a o e => k₃ a o (hE a o e) (fun q => by rw [q, fD] at e; cases e) (fun q => by rw [q, fC] at e; cases e) (fun q => by rw [q, fI] at e; cases e)
      refine wpAny_mono (iter' C h₃ _ _ fC hn₃ hE₃) (fun v2 s₄ h₄ => ?_) fun _ _ e => e.elim
      obtain ⟨r2, h₄, tk₄, t0, u0, v0, rfl, rfl, x₄, hr2⟩ := h₄
      refine wpAny_pyIter_range hr2 hsmall2 ?_
      rw [hn2]
      have fr4 : h₄.get? h₄.objs.size = none := by
        cases e : h₄.get? h₄.objs.size with
        | none => rfl
        | some o => exact absurd (Heap.lt_size e) (Nat.lt_irrefl _)
      have lt4 : ∀ {a o}, h₄.get? a = some o → a ≠ h₄.objs.size := fun e => Nat.ne_of_lt (Heap.lt_size e)
      have x₅ : Ext h₄ (h₄.push { cls := .type "range_iterator", data := .fields #[rawInt 0, rawInt k, rawInt 1] }) := fun a o e => Heap.get?_push_of_some _ e
      have hit5 : IsRangeIter (h₄.push { cls := .type "range_iterator", data := .fields #[rawInt 0, rawInt k, rawInt 1] }) h₄.objs.size (0 + ((0 : Nat) : Int) * 1) ((k : Int) - ((0 : Nat) : Int)) 1 := by
        show IsRangeIter _ _ _ _ _; simpa using Heap.get?_push_size _ rfl
      show codeAny _ _ (.compStart _ 1 (.ref h₄.objs.size) _ _) _ { s₁ with heap := h₄.push { cls := .type "range_iterator", data := .fields #[rawInt 0, rawInt k, rawInt 1] }, toks := tk₄ }
      generalize hI2 : h₄.objs.size = I2 at *
      generalize hH5 : h₄.push { cls := .type "range_iterator", data := .fields #[rawInt 0, rawInt k, rawInt 1] } = h₅ at *
      have acc₅ : h₅.PlainList D ys.toArray := (hacc₃.at fun o e => x₄ _ o e).at fun o e => x₅ _ o e
      have ns₅ := (hn₃.at' fun o e => x₄ _ _ e).at' fun o e => x₅ _ _ e
      have hE₅ : Ext s₁.heap h₅ := fun a o e => x₅ _ _ (x₄ _ _ (hE₃ _ _ e))
      have dI2 : D ≠ I2 := by obtain ⟨z, e⟩ := hacc₃; exact lt4 (x₄ _ _ e)
      have cI2 : C ≠ I2 := by obtain ⟨o, es, ep, e, _⟩ := hn₃; exact lt4 (x₄ _ _ e)
      have iI2 : I ≠ I2 := lt4 (x₄ _ _ hst₃)
      have sI2 : s₁.heap.get? I2 = none := by
        cases e : s₁.heap.get? I2 with
        | none => rfl
        | some o => have := x₄ _ _ (hE₃ _ _ e); rw [fr4] at this; cases this
      have t₀ : TupKeep h h₅ := K3.tup (K3.trans k₃ (fun a o e _ _ _ => x₅ _ _ (x₄ _ _ e))) tri0
      have ext₆ : ∀ {h₆}, K3 D C I2 h₅ h₆ → Ext s₁.heap h₆ := fun K a o e => K a o (hE₅ a o e) (fun q => by rw [q, fD] at e; cases e) (fun q => by rw [q, fC] at e; cases e) (fun q => by rw [q, sI2] at e; cases e)
      have inner : codeAny (model prog w) A (.compLoop (.ListComp elt [⟨.Name x px, iter, [], 0⟩, ⟨.Name y py, i2, [], 0⟩] scope pos) 1 (.ref I2) (.ref D) (compEnvC scope cl C env)) (fun r s₅ => match r with | .ok _ => ∃ m, m < n + 1 - i ∧ (∃ h tk m_1, ∃ ys : List Value, ∃ i : Nat, s₅ = { s₁ with heap := h, toks := tk } ∧ ys.length = i * k ∧ i ≤ n ∧ m = n + 1 - i ∧ IsRangeIter h I (0 + (i : Int) * 1) ((n : Int) - (i : Int)) 1 ∧ h.PlainList D ys.toArray ∧ h.Ns C m_1 ∧ (∀ a (ha : a < ys.length), RR a h ys[a]) ∧ Ext s₁.heap h) | .error _ => False) { s₁ with heap := h₅, toks := tk₄ } := by
        refine inner_ok (env := compEnvC scope cl C env) (s := { s₁ with heap := h₅, toks := tk₄ }) (k := k) hh RR stab (lookup_relabel_local hy) (by simp [compEnvC, relabel, hkind]) nDC dI2 cI2 ?_ hit5 acc₅ ns₅ (fun a ha => stab _ _ _ _ (hRR a ha) t₀) ?_ ?_
        · have : i * k ≤ n * k := Nat.mul_le_mul_right k hi
          omega
        · intro j tj h₆ tk₆ m₆ hj hns₆ hmy hmz K₆ tri₆
          have := elt' i j _ tj C h₆ tk₆ m₆ hlt hj fC hns₆ ((hmz x hxy).trans (if_pos rfl)) hmy (ext₆ K₆)
          rw [hlen]
          exact this
        · intro h₆ tk₆ m₆ zs hlz hlp hns₆ hmz hRz K₆
          exact ⟨n + 1 - (i + 1), by omega, h₆, tk₆, m₆, zs, i + 1, rfl, by rw [hlz, hlen, Nat.succ_mul], hlt, rfl, K₆ _ _ (x₅ _ _ (x₄ _ _ hst₃)) nDI.symm nIC iI2, hlp, hns₆, hRz, ext₆ K₆⟩
      have W2 := Walks.range (prog := prog) (w := w) hh I2 0 1 k
      exact start_in inner (W2.self 0 _ _ _ hit5 inner)
    · have hin : i = n := by omega
      subst hin
      refine W.done _ _ _ hst fun h₂ tk₂ hk₂ => ?_
      have k₂ : K3 D C I h h₂ := fun a o e _ _ hi => hk₂ a o (by simpa using hi) e
      refine ⟨m, hns.at' fun o e => hk₂ _ o (by simpa using nIC.symm) e, fun h'' hs'' => ?_⟩
      have k₄ : K3 D C I h h'' := fun a o e hd hc hi => hs''.extBut a o hc (k₂ a o e hd hc hi)
      exact done D h'' tk₂ ys fD (hacc.at fun o e => hs''.extBut _ o nDC (hk₂ _ o (by simpa using nDI) e)) hlen (fun a ha => stab _ _ _ _ (hRR a ha) (K3.tup k₄ tri0)) fun a o e => k₄ a o (hE a o e) (fun q => by rw [q, fD] at e; cases e) (fun q => by rw [q, fC] at e; cases e) (fun q => by rw [q, fI] at e; cases e)
  exact codeAny_compStart_list (loop _ rfl) (W.self 0 _ _ _ hit₁ (loop _ rfl))
end
end Mine
open_top Mine.hd for PySem.Challenge.rw_az6001_01
set_option rowWalk.seconds 0
namespace Mine
theorem quiet : True := by
  w_top off
  trivial
end Mine

namespace Mine
local macro_rules | `(tactic| walk_at "my pad 0") => `(tactic| skip)
local macro_rules | `(tactic| walk_at "my pad 1") => `(tactic| skip)
local macro_rules | `(tactic| walk_at "my pad 2") => `(tactic| skip)
local macro_rules | `(tactic| walk_at "my pad 3") => `(tactic| skip)
local macro_rules | `(tactic| walk_at "my pad 4") => `(tactic| skip)
local macro_rules | `(tactic| walk_at "my pad 5") => `(tactic| skip)
local macro_rules | `(tactic| walk_at "my pad 6") => `(tactic| skip)
local macro_rules | `(tactic| walk_at "my pad 7") => `(tactic| skip)
local macro_rules | `(tactic| walk_at "my pad 8") => `(tactic| skip)
local macro_rules | `(tactic| walk_at "my pad 9") => `(tactic| skip)
local macro_rules | `(tactic| walk_at "my pad 10") => `(tactic| skip)
local macro_rules | `(tactic| walk_at "my pad 11") => `(tactic| skip)
local macro_rules | `(tactic| walk_at "my pad 12") => `(tactic| skip)
local macro_rules | `(tactic| walk_at "my pad 13") => `(tactic| skip)
local macro_rules | `(tactic| walk_at "my pad 14") => `(tactic| skip)
local macro_rules | `(tactic| walk_at "my pad 15") => `(tactic| skip)
local macro_rules | `(tactic| walk_at "my pad 16") => `(tactic| skip)
local macro_rules | `(tactic| walk_at "my pad 17") => `(tactic| skip)
local macro_rules | `(tactic| walk_at "my pad 18") => `(tactic| skip)
local macro_rules | `(tactic| walk_at "my pad 19") => `(tactic| skip)
local macro_rules | `(tactic| walk_at "my pad 20") => `(tactic| skip)
local macro_rules | `(tactic| walk_at "my pad 21") => `(tactic| skip)
local macro_rules | `(tactic| walk_at "my pad 22") => `(tactic| skip)
local macro_rules | `(tactic| walk_at "my pad 23") => `(tactic| skip)
local macro_rules | `(tactic| walk_at "my pad 24") => `(tactic| skip)
noncomputable abbrev loose0 : List Str := looseW hd.view_39 [Str.ofString "_int_types", Str.ofString "_str_type", Str.ofString "ValidationError"]

local macro_rules | `(tactic| walk_at "exec For Name Call cons nil") => `(tactic| (k_here; k_dflt (refine For_todo ?_)))
local macro_rules | `(tactic| walk_at "exec For Name Name cons nil") => `(tactic| (k_here; k_dflt (refine For_todo ?_)))
local macro_rules | `(tactic| walk_at "call builtin:len") => `(tactic| (k_here; (with_reducible show wpAny _ _ (call (Value.builtin "len") [Value.ref _]) _ _ _); k_dflt (first
  | (refine' len_list (Fr.lst (by assumption) (by assumption)) ?fit ?_; (case fit => simp only [List.size_toArray]; omega); k_whole)
  | (refine' len_tuple (Fr.tup (by assumption) (by assumption)) ?fit ?_; (case fit => simp only [List.size_toArray]; omega); k_whole)); (try simp only [List.size_toArray])))
local macro_rules | `(tactic| walk_at "my enter") => `(tactic| (
  (k_dflt (refine' enter (K := hd.heap_39 _) ?k1 ?k2 ?k6 ?k7 ?k8 ?k9 ?kB ?_ ?c2 ?c3 ?c4 ?c5; (case k1 => assumption); (case k2 => exact Top.nolimit (by assumption)); (case k6 => k_is); (case k7 => k_is); (case k8 => decide); (case k9 => exact BindsTo.of_eq rfl); (case c5 => decide); (case kB => exact locs rfl); (case c2 => exact rfl); (case c3 => exact rfl); (case c4 => exact rfl)));
  dsimp only))

theorem turn_step {x y : List Part} {i : Nat} (hx : i < x.length) (hy : i < y.length) : turnRec (x.drop i) (y.drop i) = if pEq x[i] y[i] = true then turnRec (x.drop (i + 1)) (y.drop (i + 1)) else decide (y[i].kind < x[i].kind) := by
  rw [List.drop_eq_getElem_cons hx, List.drop_eq_getElem_cons hy]; rfl
theorem turn_end {x y : List Part} {i : Nat} (h : min x.length y.length ≤ i) : turnRec (x.drop i) (y.drop i) = false := by
  rcases Nat.le_total x.length y.length with q | q
  · rw [List.drop_of_length_le (by omega)]; cases y.drop i <;> rfl
  · rw [List.drop_of_length_le (l := y) (by omega)]; cases x.drop i <;> rfl
local macro_rules | `(tactic| walk_at "subscriptTail Name Name ref int") => `(tactic| (k_here; k_dflt (
  (refine' item_list (Fr.lst (by assumption) (by assumption)) ?h0 ?hf ?hx ?_; (case h0 => omega); (case hf => omega); (case hx => assumption); k_whole))))
local macro_rules | `(tactic| walk_at "compareOp NotEq ref ref") => `(tactic| (k_here; k_dflt (
  (refine' ent_ne (EntryAt.keep ?a ?ka) (EntryAt.keep ?b ?kb) ?oa ?ob ?u ?_; (case a => assumption); (case b => assumption); (case ka => exact Ext.tup (Fr.keep (by assumption))); (case kb => exact Ext.tup (Fr.keep (by assumption))); (case oa => assumption); (case ob => assumption); (case u => k_units); k_whole))))
theorem turned_ok {w : World} {E : Value → Shared → Prop} {s : Shared} {Q : Value → Shared → Prop}
    {mean : ExcName → Option Value} {mg mb : Str → Option Value} {u v : Value} {x y : List Part}
    (X : (hd.heap_39 w.params).In s.heap) (T : Top hd.view_39 loose0 mean mg mb s.heap)
    (hx : KeyAt s.heap u x) (hy : KeyAt s.heap v y) (ox : ∀ p ∈ x, p.ok = true) (oy : ∀ p ∈ y, p.ok = true) (lx : x.length ≤ 3) (ly : y.length ≤ 3)
    (hQ : ∀ h' tk', Ext s.heap h' → Q (.bool (turnRec x y)) { s with heap := h', toks := tk' }) :
    wpAny (model PySem.Challenge.rw_az6001_01.row.prog w) (Ar 400 300) (call (.ref 138) [u, v]) Q E s := by
  revert X; k_fill; intro X
  obtain ⟨l1, vs, rfl, hl1, hp1⟩ := hx
  obtain ⟨l2, ws, rfl, hl2, hp2⟩ := hy
  have e1 := paired_length hp1
  have e2 := paired_length hp2
  walk_at "my enter"
  intro h₁ F
  have N : News s.heap s.heap.objs.size h₁ [] := News.nil
  k_steps
  clear F
  rename_i _ _ F₀ N₀ h₂ tk₂ _ _ _ hr F₂ N₂ hk₂
  clear F₀ N₀
  have hmin : (if (ws.length : Int) < (vs.length : Int) then (ws.length : Int) else (vs.length : Int)) = ((min x.length y.length : Nat) : Int) := by split <;> omega
  rw [hmin] at hr
  unfold ForTodo
  refine for_range (n := min x.length y.length) rfl hr (small_n (by omega)) size_n rfl rfl F₂ N₂ (ex := []) rfl
    (fun i h m mu => m (Str.ofString "one") = some (.ref l1) ∧ m (Str.ofString "two") = some (.ref l2) ∧ turnRec x y = turnRec (x.drop i) (y.drop i)) (fun _ _ _ _ _ a _ => a) ⟨rfl, rfl, rfl⟩ ?_ ?_
  · intro i t h tk m₁ mu₁ tl hlt hJ hs hmu F N Z
    obtain ⟨j1, j2, j3⟩ := hJ
    obtain rfl := mu_nil hmu
    clear hr F₂ N₂
    replace F := fr_known [(Str.ofString "one", .ref l1), (Str.ofString "two", .ref l2)] F (by simp [j1, j2])
    have hix : i < x.length := by omega
    have hiy : i < y.length := by omega
    obtain ⟨a, ha, hea⟩ := paired_get hp1 i hix
    obtain ⟨b, hb, heb⟩ := paired_get hp2 i hiy
    have hoa := ox _ (List.getElem_mem hix)
    have hob := oy _ (List.getElem_mem hiy)
    have hea' := hea
    have heb' := heb
    obtain ⟨aa, ta, ua, rfl, hta, _⟩ := hea'
    obtain ⟨ab, tb, ub, rfl, htb, _⟩ := heb'
    have ha' : vs.toArray[((i : Nat) : Int).toNat]? = some (.ref aa) := by simpa using ha
    have hb' : ws.toArray[((i : Nat) : Int).toNat]? = some (.ref ab) := by simpa using hb
    rw [turn_step hix hiy] at j3
    simp only [List.nil_append] at N
    k_steps
    · rename_i hq
      refine ⟨_, _, _, [], rfl, F, by simpa using N, rfl, rfl, rfl, ?_⟩
      rw [j3, if_pos (by simpa using hq)]
    · rename_i hq
      have := hQ h (tk + 1 + 1) F.keep
      rw [j3, if_neg (by simpa using hq), show decide (y[i].kind < x[i].kind) = decide ((y[i].kind : Int) < (x[i].kind : Int)) by simp] at this
      exact this
  · intro h tk m₁ mu₁ tl hJ hs hmu F N Z
    obtain ⟨j1, j2, j3⟩ := hJ
    obtain rfl := mu_nil hmu
    clear hr F₂ N₂
    simp only [List.nil_append] at N
    show wpAny _ _ _ _ _ _
    k_steps
    have := hQ h tk F.keep
    rw [j3, turn_end (Nat.le_refl _)] at this
    exact this
end Mine

namespace Mine
local macro_rules | `(tactic| walk_at "exec For Name Call cons nil") => `(tactic| (k_here; k_dflt (refine For_todo ?_)))
local macro_rules | `(tactic| walk_at "exec For Name Name cons nil") => `(tactic| (k_here; k_dflt (refine For_todo ?_)))
local macro_rules | `(tactic| walk_at "call builtin:len") => `(tactic| (k_here; (with_reducible show wpAny _ _ (call (Value.builtin "len") [Value.ref _]) _ _ _); k_dflt (first
  | (refine' len_list (Fr.lst (by assumption) (by assumption)) ?fit ?_; (case fit => simp only [List.size_toArray]; omega); k_whole)
  | (refine' len_tuple (Fr.tup (by assumption) (by assumption)) ?fit ?_; (case fit => simp only [List.size_toArray]; omega); k_whole)); (try simp only [List.size_toArray])))
local macro_rules | `(tactic| walk_at "my enter") => `(tactic| (
  (k_dflt (refine' enter (K := hd.heap_39 _) ?k1 ?k2 ?k6 ?k7 ?k8 ?k9 ?kB ?_ ?c2 ?c3 ?c4 ?c5; (case k1 => assumption); (case k2 => exact Top.nolimit (by assumption)); (case k6 => k_is); (case k7 => k_is); (case k8 => decide); (case k9 => exact BindsTo.of_eq rfl); (case c5 => decide); (case kB => exact locs rfl); (case c2 => exact rfl); (case c3 => exact rfl); (case c4 => exact rfl)));
  dsimp only))
local macro_rules | `(tactic| walk_at "subscriptTail Name Name ref int") => `(tactic| (k_here; k_dflt (first
  | (refine' item_list (Fr.lst (by assumption) (by assumption)) ?h0 ?hf ?hx ?_; (case h0 => omega); (case hf => omega); (case hx => assumption); k_whole)
  | (refine' item_tup_nat (Fr.tup (by assumption) (by assumption)) ?hf ?hx ?_; (case hf => omega); (case hx => assumption); k_whole))))
local macro_rules | `(tactic| walk_at "compareOp NotEq ref ref") => `(tactic| (k_here; k_dflt (
  (refine' ent_ne (EntryAt.keep ?a ?ka) (EntryAt.keep ?b ?kb) ?oa ?ob ?u ?_; (case a => assumption); (case b => assumption); (case ka => exact Ext.tup (Fr.keep (by assumption))); (case kb => exact Ext.tup (Fr.keep (by assumption))); (case oa => assumption); (case ob => assumption); (case u => k_units); k_whole))))
local macro_rules | `(tactic| walk_at "call builtin:isinstance") => `(tactic| (k_here; (with_reducible show wpAny _ _ (call (Value.builtin "isinstance") [Value.ref _, Value.type _]) _ _ _); k_dflt (first
  | (refine' isi_ti ?F ?x ?_; (case F => assumption); (case x => assumption); k_whole)
  | (refine' isi_ts ?F ?x ?_; (case F => assumption); (case x => assumption); k_whole)
  | (refine' isi_tt ?F ?x ?_; (case F => assumption); (case x => assumption); k_whole))))
theorem kind_cast (p : Part) : (p.kind : Int) = match p with | .int _ => 0 | .str _ => 1 | .tup _ => 2 := by cases p <;> rfl
theorem entry_of {h : Heap} {a : Addr} {o : Obj} {n : Nat} {t : Tok} {u : Value} {p : Part} {k : Int} (ho : h.get? a = some o) (hc : o.cls = .type "tuple") (hd : o.data = .seq [Value.int k t, u].toArray n) (hk : k = p.kind) (hu : PartAt h u p) : EntryAt h (.ref a) p := by
  subst hk
  exact ⟨a, t, u, rfl, ⟨o, ho, hc, n, hd⟩, hu⟩
theorem key_ok {w : World} {E : Value → Shared → Prop} {s : Shared} {Q : Value → Shared → Prop}
    {mean : ExcName → Option Value} {mg mb : Str → Option Value} {u : Value} {x : List Part}
    (X : (hd.heap_39 w.params).In s.heap) (T : Top hd.view_39 loose0 mean mg mb s.heap)
    (hx : PathAt s.heap u x) (lx : x.length ≤ 3)
    (hQ : ∀ v h' tk', Ext s.heap h' → KeyAt h' v x → Q v { s with heap := h', toks := tk' }) :
    wpAny (model PySem.Challenge.rw_az6001_01.row.prog w) (Ar 400 300) (call (.ref 131) [u]) Q E s := by
  revert X; k_fill; intro X
  obtain ⟨l1, vs, rfl, hl1, hp1⟩ := hx
  have e1 := paired_length hp1
  walk_at "my enter"
  intro h₁ F
  have N : News s.heap s.heap.objs.size h₁ [] := News.nil
  k_steps
  rename_i l _ _ h₂ F₂ N₂
  unfold ForTodo
  have hT : IsTup h₂ l1 vs.toArray := isTup_keep hl1 (Ext.tup (show Ext s.heap h₂ from F₂.keep))
  refine for_tuple rfl hT ?_ rfl rfl F₂ N₂ (ex := [l]) rfl
    (fun i h m mu => ∃ ws n, mu = [(l, W.listOf (List.toArray ws) n)] ∧ m (Str.ofString "made") = some (.ref l) ∧ Paired (EntryAt h) ws (x.take i))
    ?_ ⟨[], 0, rfl, rfl, by simpa using Paired.nil⟩ ?_ ?_
  · have hl : s.heap.get? l = none := (N₂ _ (.head _)).2.2
    obtain ⟨o, ho, _⟩ := hl1
    intro q
    rw [List.mem_singleton.mp q] at ho
    rw [hl] at ho; cases ho
  · rintro i h h' m mu ⟨ws, n, e, hm, hw⟩ k
    exact ⟨ws, n, e, hm, Paired.imp (fun _ _ q => q.keep k.tup0) hw⟩
  · rintro i v h tk m₁ mu₁ tl hi ⟨ws, n, rfl, hm, hw⟩ hs _ F N Z
    clear F₂ N₂
    replace F := fr_known [(Str.ofString "made", .ref l)] F (by simp [hm])
    have hix : i < x.length := by
      have : i < vs.toArray.size := (Array.getElem?_eq_some_iff.mp hi).1
      simpa [e1] using this
    obtain ⟨v', hv, hp⟩ := paired_get hp1 i hix
    obtain rfl : v = v' := by simpa [hv] using hi.symm
    have htk : x.take (i + 1) = x.take i ++ [x[i]] := by rw [List.take_add_one, List.getElem?_eq_getElem hix]; rfl
    have hoff := Z.off
    have hlen : ws.length ≤ 3 := by have := paired_length hw; rw [List.length_take] at this; omega
    simp only [List.cons_append, List.nil_append] at N
    have fin : ∀ (h' : Heap) (tk' : Nat) (m' : Str → Option Value) (t : Addr) (n' : Nat) (k : Int) (kt : Tok) (nn : Nat) (news : List (Addr × Obj)), k = x[i].kind → Fr s.heap s.heap.objs.size h' m' → News s.heap s.heap.objs.size h' news →
        (l, W.listOf ((List.toArray ws).push (.ref t)) n') ∈ news → (t, ({ cls := .type "tuple", data := .seq [Value.int k kt, v].toArray nn } : Obj)) ∈ news → (∀ p ∈ tl, p ∈ news) → m' (Str.ofString "made") = some (.ref l) →
        TurnEnd s.heap s.heap.objs.size tl [l] (fun h m mu => ∃ ws n, mu = [(l, W.listOf (List.toArray ws) n)] ∧ m (Str.ofString "made") = some (.ref l) ∧ Paired (EntryAt h) ws (x.take (i + 1))) { s with heap := h, toks := tk } { s with heap := h', toks := tk' } := by
      intro h' tk' m' t n' k kt nn news hk F' N' hl ht hs hm'
      have sk := Z.skN F' N' hs
      have tup : TupKeep h h' := sk.tup fun a ha o ho => by
        rw [List.mem_singleton.mp ha, (N _ (.head _)).1] at ho
        cases ho
        exact fun q => absurd (Value.type.inj q) (by decide)
      refine ⟨h', tk', m', [(l, W.listOf (List.toArray (ws ++ [.ref t])) n')], rfl, F', fun p hp => ?_, rfl, ws ++ [.ref t], n', rfl, hm', ?_⟩
      · rcases List.mem_append.mp hp with hp | hp
        · rw [List.mem_singleton.mp hp]; exact N' _ (by simpa using hl)
        · exact N' p (hs p hp)
      · rw [htk]
        exact paired_append (Paired.imp (fun _ _ q => q.keep tup) hw) (.cons (entry_of (N' _ ht).1 rfl rfl hk (hp.keep (Ext.tup F'.keep))) .nil)
    generalize x[i] = q at hp fin
    cases hp with
    | int j t =>
      k_steps
      refine' fin _ _ _ _ _ 0 _ _ _ rfl ?f ?n ?a ?b ?c ?d
      (case f => assumption)
      (case n => assumption)
      (case a => k_mem)
      (case b => k_mem)
      (case c => intro p hp; exact .tail _ (.tail _ hp))
      (case d => rfl)
    | str y t =>
      k_steps
      refine' fin _ _ _ _ _ 1 _ _ _ rfl ?f ?n ?a ?b ?c ?d
      (case f => assumption)
      (case n => assumption)
      (case a => k_mem)
      (case b => k_mem)
      (case c => intro p hp; exact .tail _ (.tail _ hp))
      (case d => rfl)
    | tup a b =>
      k_steps
      refine' fin _ _ _ _ _ 2 _ _ _ rfl ?f ?n ?a ?b ?c ?d
      (case f => assumption)
      (case n => assumption)
      (case a => k_mem)
      (case b => k_mem)
      (case c => intro p hp; exact .tail _ (.tail _ hp))
      (case d => rfl)
  · rintro h tk m₁ mu₁ tl ⟨ws, n, rfl, hm, hw⟩ hs _ F N Z
    clear F₂ N₂
    replace F := fr_known0 [(Str.ofString "made", .ref l)] F (by simp [hm])
    simp only [List.cons_append, List.nil_append] at N
    show wpAny _ _ _ _ _ _
    k_steps
    refine hQ _ _ _ F.keep ⟨l, ws, rfl, ⟨_, (N _ (.head _)).1, rfl, n, rfl⟩, ?_⟩
    rwa [List.take_of_length_le (by simp [e1])] at hw
end Mine

namespace Mine
local macro_rules | `(tactic| walk_at "my pad 0") => `(tactic| skip)
local macro_rules | `(tactic| walk_at "my pad 1") => `(tactic| skip)
local macro_rules | `(tactic| walk_at "my pad 2") => `(tactic| skip)
local macro_rules | `(tactic| walk_at "my pad 3") => `(tactic| skip)
local macro_rules | `(tactic| walk_at "my pad 4") => `(tactic| skip)
local macro_rules | `(tactic| walk_at "my pad 5") => `(tactic| skip)
local macro_rules | `(tactic| walk_at "my pad 6") => `(tactic| skip)
local macro_rules | `(tactic| walk_at "my pad 7") => `(tactic| skip)
local macro_rules | `(tactic| walk_at "my pad 8") => `(tactic| skip)
local macro_rules | `(tactic| walk_at "my pad 9") => `(tactic| skip)
local macro_rules | `(tactic| walk_at "my pad 10") => `(tactic| skip)
local macro_rules | `(tactic| walk_at "my pad 11") => `(tactic| skip)
local macro_rules | `(tactic| walk_at "my pad 12") => `(tactic| skip)
local macro_rules | `(tactic| walk_at "my pad 13") => `(tactic| skip)
local macro_rules | `(tactic| walk_at "my pad 14") => `(tactic| skip)
local macro_rules | `(tactic| walk_at "my pad 15") => `(tactic| skip)
local macro_rules | `(tactic| walk_at "my pad 16") => `(tactic| skip)
local macro_rules | `(tactic| walk_at "my pad 17") => `(tactic| skip)
local macro_rules | `(tactic| walk_at "my pad 18") => `(tactic| skip)
local macro_rules | `(tactic| walk_at "my pad 19") => `(tactic| skip)
local macro_rules | `(tactic| walk_at "my pad 20") => `(tactic| skip)
local macro_rules | `(tactic| walk_at "my pad 21") => `(tactic| skip)
local macro_rules | `(tactic| walk_at "my pad 22") => `(tactic| skip)
local macro_rules | `(tactic| walk_at "my pad 23") => `(tactic| skip)
local macro_rules | `(tactic| walk_at "my pad 24") => `(tactic| skip)
local macro_rules | `(tactic| walk_at "exec For Name Call cons nil") => `(tactic| (k_here; k_dflt (refine For_todo ?_)))
local macro_rules | `(tactic| walk_at "exec For Name Name cons nil") => `(tactic| (k_here; k_dflt (refine For_todo ?_)))
local macro_rules | `(tactic| walk_at "call builtin:len") => `(tactic| (k_here; (with_reducible show wpAny _ _ (call (Value.builtin "len") [Value.ref _]) _ _ _); k_dflt (first
  | (refine' len_list (Fr.lst (by assumption) (by assumption)) ?fit ?_; (case fit => simp only [List.size_toArray]; omega); k_whole)
  | (refine' len_tuple (Fr.tup (by assumption) (by assumption)) ?fit ?_; (case fit => simp only [List.size_toArray]; omega); k_whole)); (try simp only [List.size_toArray])))
local macro_rules | `(tactic| walk_at "my enter") => `(tactic| (
  (k_dflt (refine' enter (K := hd.heap_39 _) ?k1 ?k2 ?k6 ?k7 ?k8 ?k9 ?kB ?_ ?c2 ?c3 ?c4 ?c5; (case k1 => assumption); (case k2 => exact Top.nolimit (by assumption)); (case k6 => k_is); (case k7 => k_is); (case k8 => decide); (case k9 => exact BindsTo.of_eq rfl); (case c5 => decide); (case kB => exact locs rfl); (case c2 => exact rfl); (case c3 => exact rfl); (case c4 => exact rfl)));
  dsimp only))
local macro_rules | `(tactic| walk_at "subscriptTail Name Name ref int") => `(tactic| (k_here; k_dflt (first
  | (refine' item_list (Fr.lst (by assumption) (by assumption)) ?h0 ?hf ?hx ?_; (case h0 => omega); (case hf => omega); (case hx => assumption); k_whole)
  | (refine' item_tup_nat (Fr.tup (by assumption) (by assumption)) ?hf ?hx ?_; (case hf => omega); (case hx => assumption); k_whole))))
local macro_rules | `(tactic| walk_at "compareOp NotEq ref ref") => `(tactic| (k_here; k_dflt (
  (refine' ent_ne (EntryAt.keep ?a ?ka) (EntryAt.keep ?b ?kb) ?oa ?ob ?u ?_; (case a => assumption); (case b => assumption); (case ka => exact Ext.tup (Fr.keep (by assumption))); (case kb => exact Ext.tup (Fr.keep (by assumption))); (case oa => assumption); (case ob => assumption); (case u => k_units); k_whole))))
local macro_rules | `(tactic| walk_at "call builtin:isinstance") => `(tactic| (k_here; (with_reducible show wpAny _ _ (call (Value.builtin "isinstance") [Value.ref _, Value.type _]) _ _ _); k_dflt (first
  | (refine' isi_ti ?F ?x ?_; (case F => assumption); (case x => assumption); k_whole)
  | (refine' isi_ts ?F ?x ?_; (case F => assumption); (case x => assumption); k_whole)
  | (refine' isi_tt ?F ?x ?_; (case F => assumption); (case x => assumption); k_whole))))
theorem cmp_take : ∀ {x y : List Part} {mn : Nat}, mn = min x.length y.length → lexE pEq (x.take mn) (y.take mn) = true → cmpRec x y = decide (x.length = mn)
  | [], y, mn, h, _ => by simp at h; subst h; simp [cmpRec]
  | a :: x, [], mn, h, _ => by simp at h; subst h; simp [cmpRec]
  | a :: x, b :: y, mn, h, e => by
    obtain ⟨k, rfl⟩ : ∃ k, mn = k + 1 := ⟨min x.length y.length, by simp at h; omega⟩
    simp only [List.take_succ_cons, lexE, Bool.and_eq_true] at e
    simp only [cmpRec, if_pos e.1, List.length_cons, Nat.add_right_cancel_iff]
    exact cmp_take (by simp at h; omega) e.2
theorem cmp_step {x y : List Part} {i : Nat} (hx : i < x.length) (hy : i < y.length) : cmpRec (x.drop i) (y.drop i) = if pEq x[i] y[i] = true then cmpRec (x.drop (i + 1)) (y.drop (i + 1)) else if x[i].kind = y[i].kind then pLt x[i] y[i] else true := by
  rw [List.drop_eq_getElem_cons hx, List.drop_eq_getElem_cons hy]; rfl
theorem lexE_snoc {x y : List Part} {i : Nat} (hx : i < x.length) (hy : i < y.length) (h : lexE pEq (x.take i) (y.take i) = true) (e : pEq x[i] y[i] = true) : lexE pEq (x.take (i + 1)) (y.take (i + 1)) = true := by
  have h1 := (lin_part.lex.eq_iff _ _).mp h
  have h2 := (lin_part.eq_iff _ _).mp e
  refine (lin_part.lex.eq_iff _ _).mpr ?_
  rw [List.take_add_one, List.take_add_one, List.getElem?_eq_getElem hx, List.getElem?_eq_getElem hy, h1, h2]
local macro_rules | `(tactic| walk_at "subscriptTail Name Slice ref ref") => `(tactic| (k_here; k_dflt (refine tail_todo ?_)))
local macro_rules | `(tactic| walk_at "compareOp Eq") => `(tactic| (k_here; k_dflt (refine cmp_todo ?_)))
local macro_rules | `(tactic| walk_at "compareOp Lt") => `(tactic| (k_here; k_dflt (refine cmp_todo ?_)))
local macro_rules | `(tactic| walk_at "exec For Name Tuple cons nil") => `(tactic| (k_here; k_dflt (refine For_todo ?_)))
local macro_rules | `(tactic| walk_at "call builtin:isinstance") => `(tactic| (k_here; k_dflt (
  (refine' isi_part ?p ?v ?_; (case p => exact PartAt.keep (by assumption) (Ext.tup (Fr.keep (by assumption)))); (case v => exact isTy.ext (by assumption) (Fr.keep (by assumption))); intro tk'))))
theorem compare_ok {w : World} {E : Value → Shared → Prop} {s : Shared} {Q : Value → Shared → Prop}
    {mean : ExcName → Option Value} {mg mb : Str → Option Value} {u v : Value} {x y : List Part}
    (X : (hd.heap_39 w.params).In s.heap) (T : Top hd.view_39 loose0 mean mg mb s.heap)
    (hx : PathAt s.heap u x) (hy : PathAt s.heap v y) (ox : ∀ p ∈ x, p.ok = true) (oy : ∀ p ∈ y, p.ok = true) (lx : x.length ≤ 3) (ly : y.length ≤ 3)
    (hQ : ∀ h' tk', Ext s.heap h' → Q (.bool (cmpRec x y)) { s with heap := h', toks := tk' }) :
    wpAny (model PySem.Challenge.rw_az6001_01.row.prog w) (Ar 400 300) (call (.ref 29) [u, v]) Q E s := by
  revert X; k_fill; intro X
  obtain ⟨l1, vs, rfl, hl1, hp1⟩ := hx
  obtain ⟨l2, ws, rfl, hl2, hp2⟩ := hy
  have e1 := paired_length hp1
  have e2 := paired_length hp2
  walk_at "my enter"
  intro h₁ F
  have N : News s.heap s.heap.objs.size h₁ [] := News.nil
  k_steps
  try clear F
  try clear N
  rename_i _ _ h₂ F₂ N₂
  have hmin : (if (ws.length : Int) < (vs.length : Int) then (ws.length : Int) else (vs.length : Int)) = ((min x.length y.length : Nat) : Int) := by split <;> omega
  rw [hmin] at F₂
  simp only [hmin]
  have hm1 : min x.length y.length ≤ vs.length := by omega
  have hm2 : min x.length y.length ≤ ws.length := by omega
  generalize hm : min x.length y.length = mn at *
  refine tail_tuple_to (items := vs.toArray) (b := mn) (IsTup.push (tup_up (s := { s with heap := h₂ }) hl1 F₂) _) (Heap.IsSliceOf.new ..) (by simpa using hm1) (by simp; omega) ?_ rfl (fun _ => rfl)
  intro r₁ h₃ k₃ hr₁
  obtain ⟨tl₃, F₃, N₃, Z₃⟩ := after [] F₂ N₂ (show Ext h₂ h₃ from fun a o e => k₃ a o (Heap.get?_push_of_some _ e)) (fun _ h => nomatch h)
  clear F₂ N₂ k₃
  rw [List.nil_append] at N₃
  dsimp only
  k_steps
  refine tail_tuple_to (items := ws.toArray) (b := mn) (IsTup.push (tup_up (s := { s with heap := h₃ }) hl2 F₃) _) (Heap.IsSliceOf.new ..) (by simpa using hm2) (by simp; omega) ?_ rfl (fun _ => rfl)
  intro r₂ h₄ k₄ hr₂
  have hr₁' := isTup_keep hr₁ (show Ext h₃ h₄ from fun a o e => k₄ a o (Heap.get?_push_of_some _ e)).tup
  obtain ⟨tl₄, F₄, N₄, Z₄⟩ := after [] F₃ N₃ (show Ext h₃ h₄ from fun a o e => k₄ a o (Heap.get?_push_of_some _ e)) (fun _ h => nomatch h)
  clear F₃ N₃ k₄ Z₃ hr₁
  rw [List.nil_append] at N₄
  dsimp only
  k_steps
  refine path_eq (x := x.take mn) (y := y.take mn) ⟨r₁, vs.take mn, rfl, by simpa using hr₁', Paired.imp (fun _ _ q => q.keep (Ext.tup (show Ext s.heap h₄ from F₄.keep))) (paired_take mn hp1)⟩ ⟨r₂, ws.take mn, rfl, by simpa using hr₂, Paired.imp (fun _ _ q => q.keep (Ext.tup (show Ext s.heap h₄ from F₄.keep))) (paired_take mn hp2)⟩
    (fun p hp => ox p (List.mem_of_mem_take hp)) (fun p hp => oy p (List.mem_of_mem_take hp)) (by k_units) ?_
  k_steps
  · rename_i hq
    have := fun tk => hQ h₄ tk F₄.keep
    rw [cmp_take hm.symm hq, ← natint_beq, ← e1] at this
    exact this _
  · rename_i hq h₅ tk₅ _ _ _ hr₅ F₅ N₅ _
    unfold ForTodo
    refine for_range (mu := []) (n := mn) rfl hr₅ (small_n (by omega)) size_n rfl rfl F₅ News.nil (ex := []) rfl
      (fun i h m mu => m (Str.ofString "x") = some (.ref l1) ∧ m (Str.ofString "y") = some (.ref l2) ∧ cmpRec x y = cmpRec (x.drop i) (y.drop i) ∧ lexE pEq (x.take i) (y.take i) = true) (fun _ _ _ _ _ a _ => a) ⟨rfl, rfl, rfl, rfl⟩ ?_ ?_
    · intro i t h tk m₁ mu₁ tl hlt hJ hs hmu F N Z
      obtain ⟨j1, j2, j3, j4⟩ := hJ
      obtain rfl := mu_nil hmu
      clear hr₅ F₅ N₅ Z₄
      try clear N₄
      try clear F₄
      replace F := fr_known [(Str.ofString "x", .ref l1), (Str.ofString "y", .ref l2)] F (by simp [j1, j2])
      have hix : i < x.length := by omega
      have hiy : i < y.length := by omega
      obtain ⟨a, ha, hea⟩ := paired_get hp1 i hix
      obtain ⟨b, hb, heb⟩ := paired_get hp2 i hiy
      have hoa := ox _ (List.getElem_mem hix)
      have hob := oy _ (List.getElem_mem hiy)
      have ha' : vs.toArray[((i : Nat) : Int).toNat]? = some a := by simpa using ha
      have hb' : ws.toArray[((i : Nat) : Int).toNat]? = some b := by simpa using hb
      rw [cmp_step hix hiy] at j3
      simp only [List.nil_append] at N
      have j5 : pEq x[i] y[i] = true → lexE pEq (x.take (i + 1)) (y.take (i + 1)) = true := lexE_snoc hix hiy j4
      generalize x[i] = p at *
      generalize y[i] = q at *
      k_steps
      (rename Fr _ _ _ _ => F₆)
      (rename News _ _ _ _ => N₆)
      have h22 : s.heap.get? 22 = some { cls := .type "tuple", data := .seq [Value.type "int"].toArray } := X _ _ (by k_is)
      unfold ForTodo
      have hT := (N₆ _ (.head _)).1
      refine for_tuple (mu := []) rfl ⟨_, hT, rfl, _, rfl⟩ (fun h => nomatch h) rfl rfl F₆ News.nil (ex := []) rfl
        (fun j h m mu => m (Str.ofString "x") = some (.ref l1) ∧ m (Str.ofString "y") = some (.ref l2) ∧ m (Str.ofString "a") = some a ∧ m (Str.ofString "b") = some b ∧ j ≤ p.kind)
        (fun _ _ _ _ _ z _ => z) ⟨rfl, rfl, rfl, rfl, Nat.zero_le _⟩ ?_ ?_
      · rintro j v h' tk' m₂ mu₂ tl₂ hv ⟨q1, q2, q3, q4, q5⟩ K₂ hmu₂ F' N' Z₂
        obtain rfl := mu_nil hmu₂
        have hsub := Z₂.carry (news_sub N₆ (a := tl) fun p hp => .tail _ (.tail _ hp)) K₂ (fun _ _ _ h => nomatch h)
        have hty : isTy s.heap j v := by
          match j, hv with
          | 0, hv => exact .inl ⟨rfl, 22, by simpa using hv.symm, h22⟩
          | 1, hv => exact .inr (.inl ⟨rfl, by simpa using hv.symm⟩)
          | 2, hv => exact .inr (.inr ⟨rfl, by simpa using hv.symm⟩)
          | n + 3, hv => simp at hv
        clear F₆ N₆ hT
        replace F' := fr_known [(Str.ofString "x", .ref l1), (Str.ofString "y", .ref l2), (Str.ofString "a", a), (Str.ofString "b", b)] F' (by simp [q1, q2, q3, q4])
        simp only [List.nil_append] at N'
        try clear N
        try clear F
        try clear Z
        k_steps
        · rename_i hk1 _ hk2
          show wpAny _ _ _ _ _ _
          k_steps
          refine part_eq (PartAt.keep hea (Ext.tup (show Ext s.heap h' from F'.keep))) (PartAt.keep heb (Ext.tup (show Ext s.heap h' from F'.keep))) hoa hob (by k_units) ?_
          have hend : ∀ b tk, cmpRec x y = b → Q (.bool b) { s with heap := h', toks := tk } := fun b tk e => e ▸ hQ h' tk F'.keep
          k_steps
          · rename_i hpe
            refine ⟨_, _, _, [], rfl, F', fun p hp => N' p (hsub p (by simpa using hp)), rfl, rfl, rfl, ?_, j5 hpe⟩
            rw [j3, if_pos hpe]
          · rename_i hpe
            refine part_lt (PartAt.keep hea (Ext.tup (show Ext s.heap h' from F'.keep))) (PartAt.keep heb (Ext.tup (show Ext s.heap h' from F'.keep))) (hk1.trans hk2.symm) (by k_units) _ _ _ _ ?_
            k_steps
            · rename_i hlt'
              refine hend true _ ?_
              rw [j3, if_neg (by simp [hpe]), if_pos (hk1.trans hk2.symm)]; exact hlt'
            · rename_i hlt'
              refine hend false _ ?_
              rw [j3, if_neg (by simp [hpe]), if_pos (hk1.trans hk2.symm)]; exact hlt'
        · rename_i hk1 _ hk2
          have hne : p.kind ≠ q.kind := fun e => hk2 (e ▸ hk1)
          have hpe : ¬ pEq p q = true := fun e => hne (pEq_kind e)
          have := fun tk => hQ h' tk F'.keep
          rw [j3, if_neg hpe, if_neg hne] at this
          exact this _
        · rename_i hk1
          exact ⟨_, _, _, [], rfl, F', fun p hp => N' p (by simpa using hp), rfl, rfl, rfl, rfl, rfl, by omega⟩
      · rintro h' tk' m₂ mu₂ tl₂ ⟨q1, q2, q3, q4, q5⟩ K₂ hmu₂ F' N' Z₂
        exfalso
        have q6 : 3 ≤ p.kind := q5
        cases p <;> simp [Part.kind] at q6
    · rintro h' tk' m₂ mu₂ tl₂ ⟨q1, q2, q3, q4⟩ K₂ hmu₂ F' N' Z₂
      rw [hq] at q4; cases q4
end Mine

namespace Mine
local macro_rules | `(tactic| walk_at "exec For Name Call cons nil") => `(tactic| (k_here; k_dflt (refine For_todo ?_)))
local macro_rules | `(tactic| walk_at "exec For Name Name cons nil") => `(tactic| (k_here; k_dflt (refine For_todo ?_)))
local macro_rules | `(tactic| walk_at "call builtin:len") => `(tactic| (k_here; (with_reducible show wpAny _ _ (call (Value.builtin "len") [Value.ref _]) _ _ _); k_dflt (first
  | (refine' len_list (Fr.lst (by assumption) (by assumption)) ?fit ?_; (case fit => simp only [List.size_toArray]; omega); k_whole)
  | (refine' len_tuple (Fr.tup (by assumption) (by assumption)) ?fit ?_; (case fit => simp only [List.size_toArray]; omega); k_whole)); (try simp only [List.size_toArray])))
local macro_rules | `(tactic| walk_at "my enter") => `(tactic| (
  (k_dflt (refine' enter (K := hd.heap_39 _) ?k1 ?k2 ?k6 ?k7 ?k8 ?k9 ?kB ?_ ?c2 ?c3 ?c4 ?c5; (case k1 => assumption); (case k2 => exact Top.nolimit (by assumption)); (case k6 => k_is); (case k7 => k_is); (case k8 => decide); (case k9 => exact BindsTo.of_eq rfl); (case c5 => decide); (case kB => exact locs rfl); (case c2 => exact rfl); (case c3 => exact rfl); (case c4 => exact rfl)));
  dsimp only))
local macro_rules | `(tactic| walk_at "subscriptTail Name Name ref int") => `(tactic| (k_here; k_dflt (first
  | (refine' item_list (Fr.lst (by assumption) (by assumption)) ?h0 ?hf ?hx ?_; (case h0 => omega); (case hf => omega); (case hx => assumption); k_whole)
  | (refine' item_tup_nat (Fr.tup (by assumption) (by assumption)) ?hf ?hx ?_; (case hf => omega); (case hx => assumption); k_whole))))
local macro_rules | `(tactic| walk_at "compareOp NotEq ref ref") => `(tactic| (k_here; k_dflt (
  (refine' ent_ne (EntryAt.keep ?a ?ka) (EntryAt.keep ?b ?kb) ?oa ?ob ?u ?_; (case a => assumption); (case b => assumption); (case ka => exact Ext.tup (Fr.keep (by assumption))); (case kb => exact Ext.tup (Fr.keep (by assumption))); (case oa => assumption); (case ob => assumption); (case u => k_units); k_whole))))
local macro_rules | `(tactic| walk_at "call builtin:isinstance") => `(tactic| (k_here; (with_reducible show wpAny _ _ (call (Value.builtin "isinstance") [Value.ref _, Value.type _]) _ _ _); k_dflt (first
  | (refine' isi_ti ?F ?x ?_; (case F => assumption); (case x => assumption); k_whole)
  | (refine' isi_ts ?F ?x ?_; (case F => assumption); (case x => assumption); k_whole)
  | (refine' isi_tt ?F ?x ?_; (case F => assumption); (case x => assumption); k_whole))))
local macro_rules | `(tactic| walk_at "call ref") => `(tactic| (k_here; k_dflt (refine call_todo ?_)))
local macro_rules | `(tactic| walk_at "compareOp LtE") => `(tactic| (k_here; k_dflt (refine cmp_todo ?_)))
theorem turn_self : ∀ x : List Part, turnRec x x = false
  | [] => rfl
  | a :: x => by simp only [turnRec]; rw [if_pos (lin_part.rfl' a)]; exact turn_self x
theorem pairs_ok {w : World} {E : Value → Shared → Prop} {s : Shared} {Q : Value → Shared → Prop}
    {mean : ExcName → Option Value} {mg mb : Str → Option Value} {u : Value} {xs : List (List Part)}
    (X : (hd.heap_39 w.params).In s.heap) (T : Top hd.view_39 loose0 mean mg mb s.heap)
    (hx : RowAt s.heap u xs) (ok : ∀ x ∈ xs, good x)
    (hQ : ∀ n t h' tk', Ext s.heap h' → (xs.length : Int) ≤ n → Q (.int n t) { s with heap := h', toks := tk' }) :
    wpAny (model PySem.Challenge.rw_az6001_01.row.prog w) (Ar 390 250) (call (.ref 145) [u]) Q E s := by
  revert X; k_fill; intro X
  obtain ⟨l1, vs, rfl, hl1, hp1⟩ := hx
  have e1 := paired_length hp1
  walk_at "my enter"
  intro h₁ F
  have N : News s.heap s.heap.objs.size h₁ [] := News.nil
  k_steps
  (rename Fr _ _ _ _ => F₂)
  (rename News _ _ _ _ => N₂)
  unfold ForTodo
  refine for_list (mu := []) (ex := []) rfl (Fr.lst F₂ hl1) (fun h => nomatch h) rfl rfl F₂ News.nil rfl
    (fun i h m mu => m (Str.ofString "row") = some (.ref l1) ∧ ∃ n t, m (Str.ofString "asked") = some (.int n t) ∧ (i : Int) ≤ n) (fun _ _ _ _ _ z _ => z) ⟨rfl, _, _, rfl, by simp⟩ ?_ ?_
  · rintro i v h tk m₁ mu₁ tl hi ⟨j1, n, nt, j2, j3⟩ K₁ hmu F N Z
    obtain rfl := mu_nil hmu
    replace F := fr_known [(Str.ofString "row", .ref l1), (Str.ofString "asked", .int n nt)] F (by simp [j1, j2])
    have hix : i < xs.length := by
      have : i < vs.toArray.size := (Array.getElem?_eq_some_iff.mp hi).1
      simpa [e1] using this
    obtain ⟨v', hv, hp⟩ := paired_get hp1 i hix
    obtain rfl : v = v' := by simpa [hv] using hi.symm
    have gx := ok _ (List.getElem_mem hix)
    simp only [List.nil_append] at N
    clear F₂ N₂
    k_steps
    (rename Fr _ _ _ _ => F₂)
    (rename News _ _ _ _ => N₂)
    unfold ForTodo
    refine for_list (mu := []) (ex := []) rfl (Fr.lst F₂ hl1) (fun h => nomatch h) rfl rfl F₂ News.nil rfl
      (fun j h m mu => m (Str.ofString "row") = some (.ref l1) ∧ m (Str.ofString "x") = some v ∧ ∃ n t, m (Str.ofString "asked") = some (.int n t) ∧ (i : Int) + (if i < j then 1 else 0) ≤ n) (fun _ _ _ _ _ z _ => z) ⟨rfl, rfl, _, _, rfl, by simp; omega⟩ ?_ ?_
    · rintro j v₂ h' tk' m₂ mu₂ tl₂ hj ⟨q1, q2, n₂, t₂, q3, q4⟩ K₂ hmu₂ F' N' Z₂
      obtain rfl := mu_nil hmu₂
      have hsub := Z₂.carry (news_sub N₂ (a := tl) fun p hp => hp) K₂ (fun _ _ _ h => nomatch h)
      replace F' := fr_known [(Str.ofString "row", .ref l1), (Str.ofString "x", v), (Str.ofString "asked", .int n₂ t₂)] F' (by simp [q1, q2, q3])
      have hjx : j < xs.length := by
        have : j < vs.toArray.size := (Array.getElem?_eq_some_iff.mp hj).1
        simpa [e1] using this
      obtain ⟨v', hv', hp'⟩ := paired_get hp1 j hjx
      obtain rfl : v₂ = v' := by simpa [hv'] using hj.symm
      have gy := ok _ (List.getElem_mem hjx)
      simp only [List.nil_append] at N'
      clear F₂ N₂
      try clear F
      try clear N
      have kx : ∀ h₂ : Heap, Ext s.heap h₂ → PathAt h₂ v xs[i] := fun h₂ e => hp.keep e.tup
      have ky : ∀ h₂ : Heap, Ext s.heap h₂ → PathAt h₂ v₂ xs[j] := fun h₂ e => hp'.keep e.tup
      k_steps
      refine wpAny_ar (key_ok (X.keeps F'.keep) (T.keeps F'.keep) (kx _ F'.keep) gx.1 ?_) rfl (Nat.le_of_ble_eq_true rfl) (Nat.le_of_ble_eq_true rfl)
      intro one h₂ tk₂ x₂ ho
      obtain ⟨tl₂', F₂, N₂, Z₂'⟩ := after [] F' N' x₂ (fun _ h => nomatch h)
      have hsub₂ := Z₂'.carry N' x₂.kp (fun _ _ _ h => nomatch h)
      rw [List.nil_append] at N₂
      clear F' N'
      k_steps
      (rename Fr _ _ _ _ => F')
      (rename News _ _ _ _ => N')
      replace ho := ho.sk0 (Z₂'.skN F' N' (fun _ h => h))
      clear Z₂'
      refine wpAny_ar (key_ok (X.keeps F'.keep) (T.keeps F'.keep) (ky _ F'.keep) gy.1 ?_) rfl (Nat.le_of_ble_eq_true rfl) (Nat.le_of_ble_eq_true rfl)
      intro two h₃ tk₃ x₃ ht
      obtain ⟨tl₃', F₃, N₃, Z₃'⟩ := after [] F' N' x₃ (fun _ h => nomatch h)
      have hsub₃ := Z₃'.carry N' x₃.kp (fun _ _ _ h => nomatch h)
      rw [List.nil_append] at N₃
      replace ho := ho.ext x₃
      clear F' N' x₃
      k_steps
      (rename Fr _ _ _ _ => F')
      (rename News _ _ _ _ => N')
      have hs3 := Z₃'.skN F' N' (fun _ h => h)
      replace ho := ho.sk0 hs3
      replace ht := ht.sk0 hs3
      clear Z₃' hs3
      refine wpAny_ar (turned_ok (X.keeps F'.keep) (T.keeps F'.keep) ho ht gx.2 gy.2 gx.1 gy.1 ?_) rfl (Nat.le_of_ble_eq_true rfl) (Nat.le_of_ble_eq_true rfl)
      intro h₄ tk₄ x₄
      obtain ⟨tl₄', F₄, N₄, Z₄'⟩ := after [] F' N' x₄ (fun _ h => nomatch h)
      have hsub₄ := Z₄'.carry N' x₄.kp (fun _ _ _ h => nomatch h)
      rw [List.nil_append] at N₄
      replace ho := ho.ext x₄
      replace ht := ht.ext x₄
      clear F' N' x₄
      cases hturn : turnRec xs[i] xs[j] with
      | true =>
        k_steps
        have hij : i ≠ j := fun e => by subst e; rw [turn_self] at hturn; cases hturn
        refine ⟨_, _, _, [], rfl, F₄, fun p hp => N₄ p (hsub₄ p (hsub₃ p (hsub₂ p (by simpa using hp)))), rfl, rfl, rfl, _, _, rfl, ?_⟩
        by_cases h1 : i < j
        · rw [if_pos h1] at q4; rw [if_pos (by omega)]; exact q4
        · rw [if_neg h1] at q4; rw [if_neg (by omega)]; exact q4
      | false =>
        have hcmp := cmp_le _ _ hturn
        k_steps
        refine wpAny_ar (compare_ok (X.keeps F₄.keep) (T.keeps F₄.keep) (kx _ F₄.keep) (ky _ F₄.keep) gx.2 gy.2 gx.1 gy.1 ?_) rfl (Nat.le_of_ble_eq_true rfl) (Nat.le_of_ble_eq_true rfl)
        rw [hcmp]
        intro h₅ tk₅ x₅
        obtain ⟨tl₅', F₅, N₅, Z₅'⟩ := after [] F₄ N₄ x₅ (fun _ h => nomatch h)
        have hsub₅ := Z₅'.carry N₄ x₅.kp (fun _ _ _ h => nomatch h)
        rw [List.nil_append] at N₅
        replace ho := ho.ext x₅
        replace ht := ht.ext x₅
        clear F₄ N₄ x₅
        k_steps
        refine key_le ho ht gx.2 gy.2 (by k_units) ?_
        have hall : ∀ p ∈ tl₂, p ∈ tl₅' := fun p hp => hsub₅ p (hsub₄ p (hsub₃ p (hsub₂ p hp)))
        have q5 : (i : Int) + (if i < j + 1 then 1 else 0) ≤ n₂ + 1 := by
          by_cases h1 : i < j
          · rw [if_pos h1] at q4; rw [if_pos (by omega)]; omega
          · rw [if_neg h1] at q4; split <;> omega
        cases hle : leRec xs[i] xs[j] with
        | true =>
          k_steps
          (rename Fr _ _ _ _ => F')
          (rename News _ _ _ _ => N')
          exact ⟨_, _, _, [], rfl, F', fun p hp => N' p (hall p (by simpa using hp)), rfl, rfl, rfl, _, _, rfl, q5⟩
        | false =>
          k_steps
          (rename Fr _ _ _ _ => F')
          (rename News _ _ _ _ => N')
          exact ⟨_, _, _, [], rfl, F', fun p hp => N' p (hall p (by simpa using hp)), rfl, rfl, rfl, _, _, rfl, q5⟩
    · rintro h' tk' m₂ mu₂ tl₂ ⟨q1, q2, n₂, t₂, q3, q4⟩ K₂ hmu₂ F' N' Z₂
      obtain rfl := mu_nil hmu₂
      have hsub := Z₂.carry (news_sub N₂ (a := tl) fun p hp => hp) K₂ (fun _ _ _ h => nomatch h)
      replace F' := fr_known0 [(Str.ofString "row", .ref l1), (Str.ofString "asked", .int n₂ t₂)] F' (by simp [q1, q3])
      simp only [List.nil_append] at N'
      clear F₂ N₂
      have hlen : vs.toArray.size = xs.length := by simp [e1]
      rw [hlen, if_pos hix] at q4
      show wpAny _ _ _ _ _ _
      k_steps
      exact ⟨_, _, _, [], rfl, F', fun p hp => N' p (hsub p (by simpa using hp)), rfl, rfl, _, _, rfl, by simpa using q4⟩
  · rintro h tk m₁ mu₁ tl ⟨j1, n, nt, j2, j3⟩ K₁ hmu F N Z
    obtain rfl := mu_nil hmu
    replace F := fr_known0 [(Str.ofString "row", .ref l1), (Str.ofString "asked", .int n nt)] F (by simp [j1, j2])
    simp only [List.nil_append] at N
    clear F₂ N₂
    show wpAny _ _ _ _ _ _
    k_steps
    exact hQ _ _ _ _ F.keep (by simpa [e1] using j3)
end Mine

namespace Mine
local macro_rules | `(tactic| walk_at "my pad 0") => `(tactic| skip)
local macro_rules | `(tactic| walk_at "my pad 1") => `(tactic| skip)
local macro_rules | `(tactic| walk_at "my pad 2") => `(tactic| skip)
local macro_rules | `(tactic| walk_at "my pad 3") => `(tactic| skip)
local macro_rules | `(tactic| walk_at "my pad 4") => `(tactic| skip)
local macro_rules | `(tactic| walk_at "my pad 5") => `(tactic| skip)
local macro_rules | `(tactic| walk_at "my pad 6") => `(tactic| skip)
local macro_rules | `(tactic| walk_at "my pad 7") => `(tactic| skip)
local macro_rules | `(tactic| walk_at "my pad 8") => `(tactic| skip)
local macro_rules | `(tactic| walk_at "my pad 9") => `(tactic| skip)
local macro_rules | `(tactic| walk_at "my pad 10") => `(tactic| skip)
local macro_rules | `(tactic| walk_at "my pad 11") => `(tactic| skip)
local macro_rules | `(tactic| walk_at "my pad 12") => `(tactic| skip)
local macro_rules | `(tactic| walk_at "my pad 13") => `(tactic| skip)
local macro_rules | `(tactic| walk_at "my pad 14") => `(tactic| skip)
local macro_rules | `(tactic| walk_at "my pad 15") => `(tactic| skip)
local macro_rules | `(tactic| walk_at "my pad 16") => `(tactic| skip)
local macro_rules | `(tactic| walk_at "my pad 17") => `(tactic| skip)
local macro_rules | `(tactic| walk_at "my pad 18") => `(tactic| skip)
local macro_rules | `(tactic| walk_at "my pad 19") => `(tactic| skip)
local macro_rules | `(tactic| walk_at "my pad 20") => `(tactic| skip)
local macro_rules | `(tactic| walk_at "my pad 21") => `(tactic| skip)
local macro_rules | `(tactic| walk_at "my pad 22") => `(tactic| skip)
local macro_rules | `(tactic| walk_at "my pad 23") => `(tactic| skip)
local macro_rules | `(tactic| walk_at "my pad 24") => `(tactic| skip)
local macro_rules | `(tactic| walk_at "exec For Name Call cons nil") => `(tactic| (k_here; k_dflt (refine For_todo ?_)))
local macro_rules | `(tactic| walk_at "exec For Name Name cons nil") => `(tactic| (k_here; k_dflt (refine For_todo ?_)))
local macro_rules | `(tactic| walk_at "call builtin:len") => `(tactic| (k_here; (with_reducible show wpAny _ _ (call (Value.builtin "len") [Value.ref _]) _ _ _); k_dflt (first
  | (refine' len_list (Fr.lst (by assumption) (by assumption)) ?fit ?_; (case fit => simp only [List.size_toArray]; omega); k_whole)
  | (refine' len_tuple (Fr.tup (by assumption) (by assumption)) ?fit ?_; (case fit => simp only [List.size_toArray]; omega); k_whole)); (try simp only [List.size_toArray])))
local macro_rules | `(tactic| walk_at "my enter") => `(tactic| (
  (k_dflt (refine' enter (K := hd.heap_39 _) ?k1 ?k2 ?k6 ?k7 ?k8 ?k9 ?kB ?_ ?c2 ?c3 ?c4 ?c5; (case k1 => assumption); (case k2 => exact Top.nolimit (by assumption)); (case k6 => k_is); (case k7 => k_is); (case k8 => decide); (case k9 => exact BindsTo.of_eq rfl); (case c5 => decide); (case kB => exact locs rfl); (case c2 => exact rfl); (case c3 => exact rfl); (case c4 => exact rfl)));
  dsimp only))
local macro_rules | `(tactic| walk_at "subscriptTail Name Name ref int") => `(tactic| (k_here; k_dflt (first
  | (refine' item_list (Fr.lst (by assumption) (by assumption)) ?h0 ?hf ?hx ?_; (case h0 => omega); (case hf => omega); (case hx => assumption); k_whole)
  | (refine' item_tup_nat (Fr.tup (by assumption) (by assumption)) ?hf ?hx ?_; (case hf => omega); (case hx => assumption); k_whole))))
local macro_rules | `(tactic| walk_at "compareOp NotEq ref ref") => `(tactic| (k_here; k_dflt (
  (refine' ent_ne (EntryAt.keep ?a ?ka) (EntryAt.keep ?b ?kb) ?oa ?ob ?u ?_; (case a => assumption); (case b => assumption); (case ka => exact Ext.tup (Fr.keep (by assumption))); (case kb => exact Ext.tup (Fr.keep (by assumption))); (case oa => assumption); (case ob => assumption); (case u => k_units); k_whole))))
local macro_rules | `(tactic| walk_at "call builtin:isinstance") => `(tactic| (k_here; (with_reducible show wpAny _ _ (call (Value.builtin "isinstance") [Value.ref _, Value.type _]) _ _ _); k_dflt (first
  | (refine' isi_ti ?F ?x ?_; (case F => assumption); (case x => assumption); k_whole)
  | (refine' isi_ts ?F ?x ?_; (case F => assumption); (case x => assumption); k_whole)
  | (refine' isi_tt ?F ?x ?_; (case F => assumption); (case x => assumption); k_whole))))
local macro_rules | `(tactic| walk_at "subscriptTail Name Slice ref ref") => `(tactic| (k_here; k_dflt (refine tail_todo ?_)))
local macro_rules | `(tactic| walk_at "call ref") => `(tactic| (k_here; k_dflt (refine call_todo ?_)))
local macro_rules | `(tactic| walk_at "eval ListComp") => `(tactic| (k_here; k_dflt (refine' comp_todo ?hclos ?hkind ?hnames ?_; (case hclos => exact rfl); (case hkind => exact rfl); (case hnames => decide))))
local macro_rules | `(tactic| walk_at "my enterC") => `(tactic| (
  (k_dflt (refine' enterC (K := hd.heap_39 _) ?k1 ?k2 ?k6 ?k7 ?k8 ?k9 ?kB ?kD ?_ ?c2 ?c3 ?c4; (case k1 => assumption); (case k2 => exact Top.nolimit (by assumption)); (case k6 => k_is); (case k7 => k_is); (case k8 => decide); (case k9 => exact BindsTo.of_eq rfl); (case kB => exact rfl); (case kD => decide +kernel); (case c2 => exact rfl); (case c3 => exact rfl); (case c4 => exact rfl)));
  dsimp only))
def menu (i : Int) : Str := if i = 0 then Str.ofString "" else if i = 1 then Str.ofString "a" else if i = 2 then Str.ofString "ab" else if i = 3 then Str.ofString "b" else if i = 4 then Str.ofString "B" else if i = 5 then Str.ofString "10" else if i = 6 then Str.ofString "9" else Str.ofString "z"
def placeP (n k : Int) : Part :=
  if k = 0 then .int (if 0 < n.fmod 7 then n.fmod 13 - 6 else n) else if k = 1 then .str (menu (n.fmod 8)) else .tup ([n.fmod 3, n.fmod 2].take (n.fmod 3).toNat)
def kindOf (k : Int) : Nat := if k = 0 then 0 else if k = 1 then 1 else 2
theorem placeP_kind (n k : Int) : (placeP n k).kind = kindOf k := by
  unfold placeP kindOf
  split
  · rfl
  · split <;> rfl
theorem menu_ok (i : Int) : PyData.strOk (menu i) = true := by
  unfold menu
  split
  · decide +kernel
  · split
    · decide +kernel
    · split
      · decide +kernel
      · split
        · decide +kernel
        · split
          · decide +kernel
          · split
            · decide +kernel
            · split <;> decide +kernel
theorem placeP_ok (n k : Int) : (placeP n k).ok = true := by
  unfold placeP
  split
  · rfl
  · split
    · exact menu_ok _
    · rfl
theorem take_ints : ∀ {vs : List Value} {ns : List Int} (k : Nat), IntsAre vs ns → IntsAre (vs.take k) (ns.take k)
  | _, _, 0, _ => by simp; exact .nil
  | _, _, _ + 1, .nil => .nil
  | _, _, k + 1, .cons n t r => .cons n t (take_ints k r)
theorem place_ok {w : World} {E : Value → Shared → Prop} {s : Shared} {Q : Value → Shared → Prop}
    {mean : ExcName → Option Value} {mg mb : Str → Option Value} {n k : Int} {t t' : Tok}
    (X : (hd.heap_39 w.params).In s.heap) (T : Top hd.view_39 loose0 mean mg mb s.heap)
    (hQ : ∀ v h' tk', Ext s.heap h' → PartAt h' v (placeP n k) → Q v { s with heap := h', toks := tk' }) :
    wpAny (model PySem.Challenge.rw_az6001_01.row.prog w) (Ar 400 300) (call (.ref 119) [.int n t, .int k t']) Q E s := by
  revert X; k_fill; intro X
  walk_at "my enter"
  intro h₁ F
  have N : News s.heap s.heap.objs.size h₁ [] := News.nil
  k_steps
  all_goals first
    | (rename Fr _ _ _ _ => F')
      rename_i hk hz
      have := fun v tk e => hQ v _ tk (show Ext s.heap _ from F'.keep) e
      simp only [placeP, hk, hz, if_pos, if_true, if_false] at this
      exact this _ _ (.int _ _)
    | (rename Fr _ _ _ _ => F')
      (rename n.fmod 8 = _ => hz)
      have hk0 : k ≠ 0 := by assumption
      have hk1 : k = 1 := by assumption
      have := fun v tk e => hQ v _ tk (show Ext s.heap _ from F'.keep) e
      subst hk1
      simp only [placeP, menu, hz, if_true, if_false, Int.reduceEq] at this
      exact this _ _ (.str _ _)
    | skip
  (rename Fr _ _ _ _ => F')
  (rename News _ _ _ _ => N')
  have hk0 : k ≠ 0 := by assumption
  have hk1 : k ≠ 1 := by assumption
  obtain ⟨b, hb⟩ : ∃ b : Nat, n.fmod 3 = (b : Int) := ⟨(n.fmod 3).toNat, by have := Int.fmod_nonneg_of_pos n (show (0 : Int) < 3 by omega); omega⟩
  have hb3 : b < 3 := by have := Int.fmod_lt_of_pos n (show (0 : Int) < 3 by omega); omega
  rw [hb] at N'
  dsimp only
  simp only [hb]
  refine tail_tuple_to (items := [Value.int b _, Value.int (n.fmod 2) _].toArray) (b := b) (IsTup.push ⟨_, (N' _ (.head _)).1, rfl, _, rfl⟩ _) (Heap.IsSliceOf.new ..) (by simp; omega) (by simp) ?_ rfl (fun _ => rfl)
  intro r h₃ k₃ hr
  k_steps
  refine hQ _ _ _ (fun a o e => k₃ a o (Heap.get?_push_of_some _ (F'.keep a o e))) ?_
  rw [placeP, if_neg hk0, if_neg hk1, hb]
  exact .tup hr (take_ints b (.cons _ _ (.cons _ _ .nil)))
end Mine

namespace Mine
local macro_rules | `(tactic| walk_at "exec For Name Call cons nil") => `(tactic| (k_here; k_dflt (refine For_todo ?_)))
local macro_rules | `(tactic| walk_at "exec For Name Name cons nil") => `(tactic| (k_here; k_dflt (refine For_todo ?_)))
local macro_rules | `(tactic| walk_at "call builtin:len") => `(tactic| (k_here; (with_reducible show wpAny _ _ (call (Value.builtin "len") [Value.ref _]) _ _ _); k_dflt (first
  | (refine' len_list (Fr.lst (by assumption) (by assumption)) ?fit ?_; (case fit => simp only [List.size_toArray]; omega); k_whole)
  | (refine' len_tuple (Fr.tup (by assumption) (by assumption)) ?fit ?_; (case fit => simp only [List.size_toArray]; omega); k_whole)); (try simp only [List.size_toArray])))
local macro_rules | `(tactic| walk_at "my enter") => `(tactic| (
  (k_dflt (refine' enter (K := hd.heap_39 _) ?k1 ?k2 ?k6 ?k7 ?k8 ?k9 ?kB ?_ ?c2 ?c3 ?c4 ?c5; (case k1 => assumption); (case k2 => exact Top.nolimit (by assumption)); (case k6 => k_is); (case k7 => k_is); (case k8 => decide); (case k9 => exact BindsTo.of_eq rfl); (case c5 => decide); (case kB => exact locs rfl); (case c2 => exact rfl); (case c3 => exact rfl); (case c4 => exact rfl)));
  dsimp only))
local macro_rules | `(tactic| walk_at "subscriptTail Name Name ref int") => `(tactic| (k_here; k_dflt (first
  | (refine' item_list (Fr.lst (by assumption) (by assumption)) ?h0 ?hf ?hx ?_; (case h0 => omega); (case hf => omega); (case hx => assumption); k_whole)
  | (refine' item_tup_nat (Fr.tup (by assumption) (by assumption)) ?hf ?hx ?_; (case hf => omega); (case hx => assumption); k_whole))))
local macro_rules | `(tactic| walk_at "compareOp NotEq ref ref") => `(tactic| (k_here; k_dflt (
  (refine' ent_ne (EntryAt.keep ?a ?ka) (EntryAt.keep ?b ?kb) ?oa ?ob ?u ?_; (case a => assumption); (case b => assumption); (case ka => exact Ext.tup (Fr.keep (by assumption))); (case kb => exact Ext.tup (Fr.keep (by assumption))); (case oa => assumption); (case ob => assumption); (case u => k_units); k_whole))))
local macro_rules | `(tactic| walk_at "call builtin:isinstance") => `(tactic| (k_here; (with_reducible show wpAny _ _ (call (Value.builtin "isinstance") [Value.ref _, Value.type _]) _ _ _); k_dflt (first
  | (refine' isi_ti ?F ?x ?_; (case F => assumption); (case x => assumption); k_whole)
  | (refine' isi_ts ?F ?x ?_; (case F => assumption); (case x => assumption); k_whole)
  | (refine' isi_tt ?F ?x ?_; (case F => assumption); (case x => assumption); k_whole))))
local macro_rules | `(tactic| walk_at "subscriptTail Name Slice ref ref") => `(tactic| (k_here; k_dflt (refine tail_todo ?_)))
local macro_rules | `(tactic| walk_at "call ref") => `(tactic| (k_here; k_dflt (refine call_todo ?_)))
local macro_rules | `(tactic| walk_at "eval ListComp") => `(tactic| (k_here; k_dflt (refine' comp_todo ?hclos ?hkind ?hnames ?_; (case hclos => exact rfl); (case hkind => exact rfl); (case hnames => decide))))
local macro_rules | `(tactic| walk_at "my enterC") => `(tactic| (
  (k_dflt (refine' enterC (K := hd.heap_39 _) ?k1 ?k2 ?k6 ?k7 ?k8 ?k9 ?kB ?kD ?_ ?c2 ?c3 ?c4; (case k1 => assumption); (case k2 => exact Top.nolimit (by assumption)); (case k6 => k_is); (case k7 => k_is); (case k8 => decide); (case k9 => exact BindsTo.of_eq rfl); (case kB => exact rfl); (case kD => decide +kernel); (case c2 => exact rfl); (case c3 => exact rfl); (case c4 => exact rfl)));
  dsimp only))
theorem fmod_nat (a : Int) {m : Int} (hm : 0 < m) : ∃ b : Nat, a.fmod m = (b : Int) ∧ (b : Int) < m := ⟨(a.fmod m).toNat, by have := Int.fmod_nonneg_of_pos a hm; omega, by have := Int.fmod_lt_of_pos a hm; omega⟩
def pathP (ns ks : List Int) (at_ : Nat) : List Part := (List.range ((ns.getD at_ 0).fmod 4).toNat).map fun k => placeP (ns.getD (at_ + 1 + k) 0) (ks.getD k 0)
theorem paired_of {α β : Type} {F : α → β → Prop} : ∀ {xs : List α} {ys : List β}, xs.length = ys.length → (∀ i (h : i < xs.length) (h' : i < ys.length), F xs[i] ys[i]) → Paired F xs ys
  | [], [], _, _ => .nil
  | [], _ :: _, h, _ => by simp at h
  | _ :: _, [], h, _ => by simp at h
  | a :: x, b :: y, h, k => .cons (k 0 (by simp) (by simp)) (paired_of (by simpa using h) fun i hi hi' => k (i + 1) (Nat.succ_lt_succ hi) (Nat.succ_lt_succ hi'))
theorem path_ok {w : World} {E : Value → Shared → Prop} {s : Shared} {Q : Value → Shared → Prop}
    {mean : ExcName → Option Value} {mg mb : Str → Option Value} {l1 l2 : Addr} {vs ws : List Value} {ns ks : List Int} {at_ : Nat} {t : Tok}
    (X : (hd.heap_39 w.params).In s.heap) (T : Top hd.view_39 loose0 mean mg mb s.heap)
    (hl1 : s.heap.IsList l1 vs.toArray) (hi1 : IntsAre vs ns) (hl2 : s.heap.IsList l2 ws.toArray) (hi2 : IntsAre ws ks) (hn : ns.length = 24) (hk : ks.length = 3) (ha : at_ ≤ 17)
    (hQ : ∀ v h' tk', Ext s.heap h' → PathAt h' v (pathP ns ks at_) → Q v { s with heap := h', toks := tk' }) :
    wpAny (model PySem.Challenge.rw_az6001_01.row.prog w) (Ar 390 250) (call (.ref 124) [.ref l1, .int (at_ : Int) t, .ref l2]) Q E s := by
  revert X; k_fill; intro X
  walk_at "my enterC"
  intro h₁ tk cells F N Y
  k_cells Y
  k_steps
  (rename Fr _ _ _ _ => F₂)
  (rename News _ _ _ _ => N₂)
  (rename IsRange _ _ _ _ _ _ _ _ => hr)
  obtain ⟨b, hb, hb4⟩ := fmod_nat (ns.getD at_ 0) (show (0 : Int) < 4 by omega)
  rw [Int.toNat_natCast, hb] at hr
  refine comp_range rfl hr (small_n (by omega)) size_n (by omega) (by decide) rfl rfl (fun i X y => PartAt X y (placeP (ns.getD (at_ + 1 + i) 0) (ks.getD i 0))) ?_ ?_
  · intro i t D C I h tk m hi hC hD hI tri hns hm keep
    k_steps
    have hE : Ext s.heap h := fun a o e => keep a o (F₂.keep a o e)
    have ei : ((at_ : Int) + 1 + (i : Int)).toNat = at_ + 1 + i := by omega
    have ej : ((i : Nat) : Int).toNat = i := by omega
    simp only [ei, ej]
    refine wpAny_ar (place_ok (X.keeps hE) (T.keeps hE) ?_) rfl (Nat.le_of_ble_eq_true rfl) (Nat.le_of_ble_eq_true rfl)
    intro v h₂ tk₂ x₂ hp
    exact ⟨h₂, tk₂, rfl, x₂, fun X hX => hp.keep (hX.tup (tri.ext x₂))⟩
  · intro D h' tk ys hD hl hlen hR x'
    k_steps
    refine call_tuple_list hl.isList (fun h₃ k₃ => ?_) (by rw [List.size_toArray, sizeLine_eq]; omega)
    have kE : Ext s.heap h₃ := fun a o e => k₃ a o (x' a o (F₂.keep a o e))
    refine hQ _ _ _ (fun a o e => Heap.get?_push_of_some _ (kE a o e)) ⟨_, ys, rfl, ⟨_, Heap.get?_push_size _ rfl, rfl, _, rfl⟩, ?_⟩
    have hbn : ((ns.getD at_ 0).fmod 4).toNat = b := by rw [hb]; simp
    refine paired_of (by rw [pathP, List.length_map, List.length_range, hbn]; exact hlen) fun i hi hi' => ?_
    have := hR i hi
    simp only [pathP, List.getElem_map, List.getElem_range]
    exact this.keep (Ext.tup (fun a o e => Heap.get?_push_of_some _ (k₃ a o e)))
end Mine

namespace Mine
local macro_rules | `(tactic| walk_at "my pad 0") => `(tactic| skip)
local macro_rules | `(tactic| walk_at "my pad 1") => `(tactic| skip)
local macro_rules | `(tactic| walk_at "my pad 2") => `(tactic| skip)
local macro_rules | `(tactic| walk_at "my pad 3") => `(tactic| skip)
local macro_rules | `(tactic| walk_at "my pad 4") => `(tactic| skip)
local macro_rules | `(tactic| walk_at "my pad 5") => `(tactic| skip)
local macro_rules | `(tactic| walk_at "my pad 6") => `(tactic| skip)
local macro_rules | `(tactic| walk_at "my pad 7") => `(tactic| skip)
local macro_rules | `(tactic| walk_at "my pad 8") => `(tactic| skip)
local macro_rules | `(tactic| walk_at "my pad 9") => `(tactic| skip)
local macro_rules | `(tactic| walk_at "my pad 10") => `(tactic| skip)
local macro_rules | `(tactic| walk_at "my pad 11") => `(tactic| skip)
local macro_rules | `(tactic| walk_at "my pad 12") => `(tactic| skip)
local macro_rules | `(tactic| walk_at "my pad 13") => `(tactic| skip)
local macro_rules | `(tactic| walk_at "my pad 14") => `(tactic| skip)
local macro_rules | `(tactic| walk_at "my pad 15") => `(tactic| skip)
local macro_rules | `(tactic| walk_at "my pad 16") => `(tactic| skip)
local macro_rules | `(tactic| walk_at "my pad 17") => `(tactic| skip)
local macro_rules | `(tactic| walk_at "my pad 18") => `(tactic| skip)
local macro_rules | `(tactic| walk_at "my pad 19") => `(tactic| skip)
local macro_rules | `(tactic| walk_at "my pad 20") => `(tactic| skip)
local macro_rules | `(tactic| walk_at "my pad 21") => `(tactic| skip)
local macro_rules | `(tactic| walk_at "my pad 22") => `(tactic| skip)
local macro_rules | `(tactic| walk_at "my pad 23") => `(tactic| skip)
local macro_rules | `(tactic| walk_at "my pad 24") => `(tactic| skip)
local macro_rules | `(tactic| walk_at "exec For Name Call cons nil") => `(tactic| (k_here; k_dflt (refine For_todo ?_)))
local macro_rules | `(tactic| walk_at "exec For Name Name cons nil") => `(tactic| (k_here; k_dflt (refine For_todo ?_)))
local macro_rules | `(tactic| walk_at "call builtin:len") => `(tactic| (k_here; (with_reducible show wpAny _ _ (call (Value.builtin "len") [Value.ref _]) _ _ _); k_dflt (first
  | (refine' len_list (Fr.lst (by assumption) (by assumption)) ?fit ?_; (case fit => simp only [List.size_toArray]; omega); k_whole)
  | (refine' len_tuple (Fr.tup (by assumption) (by assumption)) ?fit ?_; (case fit => simp only [List.size_toArray]; omega); k_whole)); (try simp only [List.size_toArray])))
local macro_rules | `(tactic| walk_at "my enter") => `(tactic| (
  (k_dflt (refine' enter (K := hd.heap_39 _) ?k1 ?k2 ?k6 ?k7 ?k8 ?k9 ?kB ?_ ?c2 ?c3 ?c4 ?c5; (case k1 => assumption); (case k2 => exact Top.nolimit (by assumption)); (case k6 => k_is); (case k7 => k_is); (case k8 => decide); (case k9 => exact BindsTo.of_eq rfl); (case c5 => decide); (case kB => exact locs rfl); (case c2 => exact rfl); (case c3 => exact rfl); (case c4 => exact rfl)));
  dsimp only))
local macro_rules | `(tactic| walk_at "subscriptTail Name Name ref int") => `(tactic| (k_here; k_dflt (first
  | (refine' item_list (Fr.lst (by assumption) (by assumption)) ?h0 ?hf ?hx ?_; (case h0 => omega); (case hf => omega); (case hx => assumption); k_whole)
  | (refine' item_tup_nat (Fr.tup (by assumption) (by assumption)) ?hf ?hx ?_; (case hf => omega); (case hx => assumption); k_whole))))
local macro_rules | `(tactic| walk_at "compareOp NotEq ref ref") => `(tactic| (k_here; k_dflt (
  (refine' ent_ne (EntryAt.keep ?a ?ka) (EntryAt.keep ?b ?kb) ?oa ?ob ?u ?_; (case a => assumption); (case b => assumption); (case ka => exact Ext.tup (Fr.keep (by assumption))); (case kb => exact Ext.tup (Fr.keep (by assumption))); (case oa => assumption); (case ob => assumption); (case u => k_units); k_whole))))
local macro_rules | `(tactic| walk_at "call builtin:isinstance") => `(tactic| (k_here; (with_reducible show wpAny _ _ (call (Value.builtin "isinstance") [Value.ref _, Value.type _]) _ _ _); k_dflt (first
  | (refine' isi_ti ?F ?x ?_; (case F => assumption); (case x => assumption); k_whole)
  | (refine' isi_ts ?F ?x ?_; (case F => assumption); (case x => assumption); k_whole)
  | (refine' isi_tt ?F ?x ?_; (case F => assumption); (case x => assumption); k_whole))))
local macro_rules | `(tactic| walk_at "subscriptTail Name Slice ref ref") => `(tactic| (k_here; k_dflt (refine tail_todo ?_)))
local macro_rules | `(tactic| walk_at "call ref") => `(tactic| (k_here; k_dflt (refine call_todo ?_)))
local macro_rules | `(tactic| walk_at "eval ListComp") => `(tactic| (k_here; k_dflt (refine' comp_todo ?hclos ?hkind ?hnames ?_; (case hclos => exact rfl); (case hkind => exact rfl); (case hnames => decide))))
local macro_rules | `(tactic| walk_at "my enterC") => `(tactic| (
  (k_dflt (refine' enterC (K := hd.heap_39 _) ?k1 ?k2 ?k6 ?k7 ?k8 ?k9 ?kB ?kD ?_ ?c2 ?c3 ?c4; (case k1 => assumption); (case k2 => exact Top.nolimit (by assumption)); (case k6 => k_is); (case k7 => k_is); (case k8 => decide); (case k9 => exact BindsTo.of_eq rfl); (case kB => exact rfl); (case kD => decide +kernel); (case c2 => exact rfl); (case c3 => exact rfl); (case c4 => exact rfl)));
  dsimp only))
theorem codeAny_ar {M : Model} {A : Around} {c : Code} {R : Result → Shared → Prop} {s : Shared} {dp un : Nat} (h : codeAny M (Ar dp un) c R s) (hh : A.handled = none) (hd : A.depth ≤ dp) (hu : A.units ≤ un) : codeAny M A c R s :=
  fun Γ p hc hΓ => h Γ p hc ⟨hΓ.1.trans hh, Nat.le_trans hΓ.2.1 hd, fun _ e => (nomatch e), fun _ e => (nomatch e), Nat.le_trans hΓ.2.2.2.2 hu⟩
theorem make_E {prog : Program} {w : World} {A : Around} {K : Frag} {C : Addr} {s : Shared} {R : Result → Shared → Prop} {rest : List Value} {fI : Addr} (X : K.In s.heap) (hm : makesIn K C = true)
    (hi : findIn K (.ref C) "__init__" = some (some (.ref fI))) (hf : typeIn K (.ref fI) = some (.type "function"))
    (h : codeAny (model prog w) (A.under (.builtin "type.__call__" ⟨.ref C :: rest, []⟩)) (.call (.ref fI) ⟨.ref (s.heap.objs.size + 1) :: rest, []⟩) (InitBack (s.heap.objs.size + 1) R) { s with heap := (s.heap.push (dictOf [] 0)).push (instObj C s.heap.objs.size) }) :
    codeAny (model prog w) A (.call (.ref C) ⟨rest, []⟩) R s := by
  obtain ⟨hh, g, d, t, os⟩ := s
  exact make_core (makes_of X hm) (looks_findIn X hi) (fun self => bind_fn X self hf) (.inl rfl) h
/-- as enter, over a smaller base -/
theorem enterW {prog : Program} {w : World} {A : Around} {s : Shared} {R : Result → Shared → Prop} {K : Frag} {h₀ : Heap}
    {name qual : Str} {params : Arguments} {body : List Stmt} {scope : Scope} {dV kV doc pm cdv ct oc : Value} {an od : Option Addr} {osl : Array (Option Value)} {f : Addr} {args : List Value} {binds : List (Str × Value)}
    (X : K.In h₀) (hlim : h₀.NoLimit) (kE : Ext h₀ s.heap) (hsz : h₀.objs.size ≤ s.heap.objs.size)
    (ho : K.lookup f = some ⟨oc, od, .func (fnOf name qual params body scope dV kV doc pm an cdv ct), osl⟩) (hcd : codeIn K cdv qual = true) (hroom : A.depth < recursionLimit)
    (hbind : BindsTo s (fnOf name qual params body scope dV kV doc pm an cdv ct) ⟨args, []⟩ binds) (hloc : ∀ y ∈ binds, scope.names.lookup y.1 = some .local)
    (h : ∀ h₁, Fr h₀ s.heap.objs.size h₁ (fun y => binds.reverse.lookup y) → Ext s.heap h₁ →
      wpAny (model prog w) (A.deeper (envOf qual scope s.heap.objs.size f cdv)) (execs body (envOf qual scope s.heap.objs.size f cdv))
        (fun fl s' => R (.ok (.ret (match fl with | .ret v => v | _ => .none))) s') (fun _ _ => False)
        { s with heap := h₁, toks := s.toks + binds.length })
    (hco : scope.isCoroutine = false) (hgen : scope.isGenerator = false) (hk : scope.kind = .function)
    (hcell : ∀ x ∈ scope.names, x.2 ≠ .cell) : codeAny (model prog w) A (.call (.ref f) ⟨args, []⟩) R s := by
  refine codeAny_call_def (fd := fnOf name qual params body scope dV kV doc pm an cdv ct) (body := body) (binds := binds) hroom (X.keeps kE _ _ ho) rfl (hlim.keeps kE) (codeRec_of (X.keeps kE) hcd) rfl hbind hcell hloc (fun h₁ hns hk₁ => ?_) hco hgen hk
  exact wpAny_mono (h h₁ ⟨hns, fun b o e => hk₁ b o (kE b o e), hsz⟩ hk₁) (fun _ _ x => x) fun _ _ x => x.elim
theorem fault_ok {w : World} {E : Value → Shared → Prop} {s : Shared} {Q : Value → Shared → Prop}
    {mean : ExcName → Option Value} {mg mb : Str → Option Value} {d c i : Value} {ro : Addr} {n : Int} {t : Tok}
    (X : (hd.heap_39 w.params).In s.heap) (T : Top hd.view_39 loose0 mean mg mb s.heap)
    (hQ : ∀ x dx es n h' tk', Ext s.heap h' → s.heap.get? x = none → s.heap.get? dx = none → h'.get? x = some (instObj 101 dx) → h'.get? dx = some (dictOf es n) → getL (Str.ofString "document_path") es = some (some d) → getL (Str.ofString "schema_path") es = some (some c) → Q (.ref x) { s with heap := h', toks := tk' }) :
    wpAny (model PySem.Challenge.rw_az6001_01.row.prog w) (Ar 390 250) (call (.ref 101) [d, c, .int n t, .none, .none, .none, .ref ro]) Q E s := by
  revert X; k_fill; intro X
  refine wpAny_call (make_E (K := hd.heap_39 _) (fI := 43) X ?hm ?hi ?hf ?_)
  case hm => k_dflt k_is
  case hi => k_dflt k_is
  case hf => k_dflt k_is
  refine codeAny_ar (dp := 400) (un := 260) ?_ rfl ?_ ?_
  rotate_left
  · rw [depth_under_make]; decide
  · exact Nat.le_of_ble_eq_true rfl
  have hx : s.heap.get? (s.heap.objs.size + 1) = none := Heap.get?_none_of_le (Nat.le_succ _)
  have hdx : s.heap.get? s.heap.objs.size = none := Heap.get?_none_of_le (Nat.le_refl _)
  k_dflt (refine' enterW (K := hd.heap_39 _) (h₀ := s.heap) ?k1 ?k2 ?ke ?ks ?k6 ?k7 ?k8 ?k9 ?kB ?_ ?c2 ?c3 ?c4 ?c5; (case k1 => assumption); (case k2 => exact Top.nolimit (by assumption)); (case ke => exact fun a o e => Heap.get?_push_of_some _ (Heap.get?_push_of_some _ e)); (case ks => rw [Heap.size_push, Heap.size_push]; omega); (case k6 => k_is); (case k7 => k_is); (case k8 => decide); (case k9 => exact BindsTo.of_eq rfl); (case c5 => decide); (case kB => exact locs rfl); (case c2 => exact rfl); (case c3 => exact rfl); (case c4 => exact rfl))
  dsimp only
  intro h₁ F x₁
  have hL : (s.heap.push (dictOf [] 0)).push (instObj 101 s.heap.objs.size) = (s.heap.push (dictOf [] 0)).push (instObj 101 s.heap.objs.size) := rfl
  have hz : ((s.heap.push (dictOf [] 0)).push (instObj 101 s.heap.objs.size)).objs.size = s.heap.objs.size + 2 := by rw [Heap.size_push, Heap.size_push]
  rw [hz] at F ⊢
  have N : News s.heap (s.heap.objs.size + 2) h₁ [(s.heap.objs.size + 1, instObj 101 s.heap.objs.size), (s.heap.objs.size, dictOf [] 0)] := by
    intro p hp
    rcases List.mem_cons.mp hp with rfl | hp
    · refine ⟨x₁ _ _ ?_, by show s.heap.objs.size + 1 ≠ _; omega, hx⟩
      have := Heap.get?_push_size (s.heap.push (dictOf [] 0)) (o := instObj 101 s.heap.objs.size) rfl
      rwa [Heap.size_push] at this
    · rw [List.mem_singleton.mp hp]
      exact ⟨x₁ _ _ (Heap.get?_push_of_some _ (Heap.get?_push_size _ rfl)), by show s.heap.objs.size ≠ _; omega, hdx⟩
  have lt1 : s.heap.objs.size < s.heap.objs.size + 1 := Nat.lt_succ_self _
  clear hL hz
  generalize hxx : s.heap.objs.size + 1 = x at *
  generalize hdd : s.heap.objs.size = dx at *
  k_steps
  refine ⟨rfl, ?_⟩
  (rename Fr _ _ _ _ => F')
  (rename News _ _ _ _ => N')
  exact hQ x dx _ _ _ _ F'.keep hx hdx (N' _ (.head _)).1 (N' _ (.tail _ (.head _))).1 (by rfl) (by rfl)
end Mine

namespace Mine
local macro_rules | `(tactic| walk_at "exec For Name Call cons nil") => `(tactic| (k_here; k_dflt (refine For_todo ?_)))
local macro_rules | `(tactic| walk_at "exec For Name Name cons nil") => `(tactic| (k_here; k_dflt (refine For_todo ?_)))
local macro_rules | `(tactic| walk_at "call builtin:len") => `(tactic| (k_here; (with_reducible show wpAny _ _ (call (Value.builtin "len") [Value.ref _]) _ _ _); k_dflt (first
  | (refine' len_list (Fr.lst (by assumption) (by assumption)) ?fit ?_; (case fit => simp only [List.size_toArray]; omega); k_whole)
  | (refine' len_tuple (Fr.tup (by assumption) (by assumption)) ?fit ?_; (case fit => simp only [List.size_toArray]; omega); k_whole)); (try simp only [List.size_toArray])))
local macro_rules | `(tactic| walk_at "my enter") => `(tactic| (
  (k_dflt (refine' enter (K := hd.heap_39 _) ?k1 ?k2 ?k6 ?k7 ?k8 ?k9 ?kB ?_ ?c2 ?c3 ?c4 ?c5; (case k1 => assumption); (case k2 => exact Top.nolimit (by assumption)); (case k6 => k_is); (case k7 => k_is); (case k8 => decide); (case k9 => exact BindsTo.of_eq rfl); (case c5 => decide); (case kB => exact locs rfl); (case c2 => exact rfl); (case c3 => exact rfl); (case c4 => exact rfl)));
  dsimp only))
local macro_rules | `(tactic| walk_at "subscriptTail Name Name ref int") => `(tactic| (k_here; k_dflt (first
  | (refine' item_list (Fr.lst (by assumption) (by assumption)) ?h0 ?hf ?hx ?_; (case h0 => omega); (case hf => omega); (case hx => assumption); k_whole)
  | (refine' item_tup_nat (Fr.tup (by assumption) (by assumption)) ?hf ?hx ?_; (case hf => omega); (case hx => assumption); k_whole))))
local macro_rules | `(tactic| walk_at "compareOp NotEq ref ref") => `(tactic| (k_here; k_dflt (
  (refine' ent_ne (EntryAt.keep ?a ?ka) (EntryAt.keep ?b ?kb) ?oa ?ob ?u ?_; (case a => assumption); (case b => assumption); (case ka => exact Ext.tup (Fr.keep (by assumption))); (case kb => exact Ext.tup (Fr.keep (by assumption))); (case oa => assumption); (case ob => assumption); (case u => k_units); k_whole))))
local macro_rules | `(tactic| walk_at "call builtin:isinstance") => `(tactic| (k_here; (with_reducible show wpAny _ _ (call (Value.builtin "isinstance") [Value.ref _, Value.type _]) _ _ _); k_dflt (first
  | (refine' isi_ti ?F ?x ?_; (case F => assumption); (case x => assumption); k_whole)
  | (refine' isi_ts ?F ?x ?_; (case F => assumption); (case x => assumption); k_whole)
  | (refine' isi_tt ?F ?x ?_; (case F => assumption); (case x => assumption); k_whole))))
local macro_rules | `(tactic| walk_at "subscriptTail Name Slice ref ref") => `(tactic| (k_here; k_dflt (refine tail_todo ?_)))
local macro_rules | `(tactic| walk_at "call ref") => `(tactic| (k_here; k_dflt (refine call_todo ?_)))
local macro_rules | `(tactic| walk_at "eval ListComp") => `(tactic| (k_here; k_dflt (refine' comp_todo ?hclos ?hkind ?hnames ?_; (case hclos => exact rfl); (case hkind => exact rfl); (case hnames => decide))))
local macro_rules | `(tactic| walk_at "my enterC") => `(tactic| (
  (k_dflt (refine' enterC (K := hd.heap_39 _) ?k1 ?k2 ?k6 ?k7 ?k8 ?k9 ?kB ?kD ?_ ?c2 ?c3 ?c4; (case k1 => assumption); (case k2 => exact Top.nolimit (by assumption)); (case k6 => k_is); (case k7 => k_is); (case k8 => decide); (case k9 => exact BindsTo.of_eq rfl); (case kB => exact rfl); (case kD => decide +kernel); (case c2 => exact rfl); (case c3 => exact rfl); (case c4 => exact rfl)));
  dsimp only))
local macro_rules | `(tactic| walk_at "compareOp NotEq") => `(tactic| (k_here; k_dflt (refine cmp_todo ?_)))
theorem inst_at {h h' : Heap} {x d C : Addr} {es : List DictEntry} {n : Nat} (e : Ext h h') (h1 : h.get? x = some (instObj C d)) (h2 : h.get? d = some (dictOf es n)) : InstAt h' x (instObj C d) C (some (dictOf es n)) := by
  exact ⟨e _ _ h1, rfl, rfl, e _ _ h2⟩
local macro_rules | `(tactic| walk_at "getAttr ref") => `(tactic| (k_here; k_dflt (refine' get_own ?k1 ?k2 ?k3 ?k4 ?k5 ?k6 ?k7 ?k8 ?k9 ?_; (case k1 => k_asm); (case k2 => k_asm); (case k3 => exact inst_at (Fr.keep (by assumption)) (by assumption) (by assumption)); (case k4 => k_is); (case k5 => k_is); (case k6 => k_is); (case k7 => k_is); (case k8 => assumption); (case k9 => k_handed); k_whole)))
def FaultAt (h : Heap) (v : Value) (f : Fault) : Prop :=
  ∃ x dx es n d c, v = .ref x ∧ h.get? x = some (instObj 101 dx) ∧ h.get? dx = some (dictOf es n) ∧ getL (Str.ofString "document_path") es = some (some d) ∧ getL (Str.ofString "schema_path") es = some (some c) ∧ PathAt h d f.1 ∧ PathAt h c f.2
theorem FaultAt.keep {h h' : Heap} {v : Value} {f : Fault} (x : FaultAt h v f) (k : Ext h h') : FaultAt h' v f := by
  obtain ⟨a, dx, es, n, d, c, rfl, h1, h2, h3, h4, h5, h6⟩ := x
  exact ⟨a, dx, es, n, d, c, rfl, k _ _ h1, k _ _ h2, h3, h4, h5.keep k.tup, h6.keep k.tup⟩
def goodF (f : Fault) : Prop := good f.1 ∧ good f.2
def fLt (a b : Fault) : Bool := if lexE pEq a.1 b.1 = true then cmpRec a.2 b.2 else cmpRec a.1 b.1
theorem lt_ok {w : World} {E : Value → Shared → Prop} {s : Shared} {Q : Value → Shared → Prop}
    {mean : ExcName → Option Value} {mg mb : Str → Option Value} {u v : Value} {a b : Fault}
    (X : (hd.heap_39 w.params).In s.heap) (T : Top hd.view_39 loose0 mean mg mb s.heap)
    (hx : FaultAt s.heap u a) (hy : FaultAt s.heap v b) (ga : goodF a) (gb : goodF b)
    (hQ : ∀ h' tk', Ext s.heap h' → Q (.bool (fLt a b)) { s with heap := h', toks := tk' }) :
    wpAny (model PySem.Challenge.rw_az6001_01.row.prog w) (Ar 395 270) (call (.ref 50) [u, v]) Q E s := by
  revert X; k_fill; intro X
  obtain ⟨x1, d1, es1, n1, p1, q1, rfl, ha1, ha2, ha3, ha4, ha5, ha6⟩ := hx
  obtain ⟨x2, d2, es2, n2, p2, q2, rfl, hb1, hb2, hb3, hb4, hb5, hb6⟩ := hy
  obtain ⟨y1, vs1, rfl, hl1, hp1⟩ := id ha5
  obtain ⟨y2, vs2, rfl, hl2, hp2⟩ := id ha6
  obtain ⟨y3, vs3, rfl, hl3, hp3⟩ := id hb5
  obtain ⟨y4, vs4, rfl, hl4, hp4⟩ := id hb6
  walk_at "my enter"
  intro h₁ F
  have N : News s.heap s.heap.objs.size h₁ [] := News.nil
  k_steps
  (rename Fr _ _ _ _ => F₂)
  unfold CmpTodo
  refine path_ne (ha5.keep (Ext.tup F₂.keep)) (hb5.keep (Ext.tup F₂.keep)) ga.1.2 gb.1.2 (by k_units) ?_
  by_cases e : lexE pEq a.1 b.1 = true
  · rw [e]
    have hr : fLt a b = cmpRec a.2 b.2 := by unfold fLt; rw [if_pos e]
    rw [hr] at hQ
    k_steps
    try unfold CallTodo
    refine wpAny_ar (compare_ok (X.keeps F₂.keep) (T.keeps F₂.keep) (ha6.keep (Ext.tup F₂.keep)) (hb6.keep (Ext.tup F₂.keep)) ga.2.2 gb.2.2 ga.2.1 gb.2.1 ?_) rfl (Nat.le_of_ble_eq_true rfl) (Nat.le_of_ble_eq_true rfl)
    intro h' tk' x'
    obtain ⟨tl', F', N', Z'⟩ := after [] F₂ (by assumption) x' (fun _ h => nomatch h)
    clear F₂
    k_steps
    exact hQ _ _ F'.keep
  · rw [Bool.not_eq_true] at e
    rw [e]
    have hr : fLt a b = cmpRec a.1 b.1 := by unfold fLt; rw [e]; rfl
    rw [hr] at hQ
    k_steps
    try unfold CallTodo
    refine wpAny_ar (compare_ok (X.keeps F₂.keep) (T.keeps F₂.keep) (ha5.keep (Ext.tup F₂.keep)) (hb5.keep (Ext.tup F₂.keep)) ga.1.2 gb.1.2 ga.1.1 gb.1.1 ?_) rfl (Nat.le_of_ble_eq_true rfl) (Nat.le_of_ble_eq_true rfl)
    intro h' tk' x'
    obtain ⟨tl', F', N', Z'⟩ := after [] F₂ (by assumption) x' (fun _ h => nomatch h)
    clear F₂
    k_steps
    exact hQ _ _ F'.keep
end Mine

namespace Mine
local macro_rules | `(tactic| walk_at "my pad 0") => `(tactic| skip)
local macro_rules | `(tactic| walk_at "my pad 1") => `(tactic| skip)
local macro_rules | `(tactic| walk_at "my pad 2") => `(tactic| skip)
local macro_rules | `(tactic| walk_at "my pad 3") => `(tactic| skip)
local macro_rules | `(tactic| walk_at "my pad 4") => `(tactic| skip)
local macro_rules | `(tactic| walk_at "my pad 5") => `(tactic| skip)
local macro_rules | `(tactic| walk_at "my pad 6") => `(tactic| skip)
local macro_rules | `(tactic| walk_at "my pad 7") => `(tactic| skip)
local macro_rules | `(tactic| walk_at "my pad 8") => `(tactic| skip)
local macro_rules | `(tactic| walk_at "my pad 9") => `(tactic| skip)
local macro_rules | `(tactic| walk_at "my pad 10") => `(tactic| skip)
local macro_rules | `(tactic| walk_at "my pad 11") => `(tactic| skip)
local macro_rules | `(tactic| walk_at "my pad 12") => `(tactic| skip)
local macro_rules | `(tactic| walk_at "my pad 13") => `(tactic| skip)
local macro_rules | `(tactic| walk_at "my pad 14") => `(tactic| skip)
local macro_rules | `(tactic| walk_at "my pad 15") => `(tactic| skip)
local macro_rules | `(tactic| walk_at "my pad 16") => `(tactic| skip)
local macro_rules | `(tactic| walk_at "my pad 17") => `(tactic| skip)
local macro_rules | `(tactic| walk_at "my pad 18") => `(tactic| skip)
local macro_rules | `(tactic| walk_at "my pad 19") => `(tactic| skip)
local macro_rules | `(tactic| walk_at "my pad 20") => `(tactic| skip)
local macro_rules | `(tactic| walk_at "my pad 21") => `(tactic| skip)
local macro_rules | `(tactic| walk_at "my pad 22") => `(tactic| skip)
local macro_rules | `(tactic| walk_at "my pad 23") => `(tactic| skip)
local macro_rules | `(tactic| walk_at "my pad 24") => `(tactic| skip)
local macro_rules | `(tactic| walk_at "exec For Name Call cons nil") => `(tactic| (k_here; k_dflt (refine For_todo ?_)))
local macro_rules | `(tactic| walk_at "exec For Name Name cons nil") => `(tactic| (k_here; k_dflt (refine For_todo ?_)))
local macro_rules | `(tactic| walk_at "call builtin:len") => `(tactic| (k_here; (with_reducible show wpAny _ _ (call (Value.builtin "len") [Value.ref _]) _ _ _); k_dflt (first
  | (refine' len_list (Fr.lst (by assumption) (by assumption)) ?fit ?_; (case fit => simp only [List.size_toArray]; omega); k_whole)
  | (refine' len_tuple (Fr.tup (by assumption) (by assumption)) ?fit ?_; (case fit => simp only [List.size_toArray]; omega); k_whole)); (try simp only [List.size_toArray])))
local macro_rules | `(tactic| walk_at "my enter") => `(tactic| (
  (k_dflt (refine' enter (K := hd.heap_39 _) ?k1 ?k2 ?k6 ?k7 ?k8 ?k9 ?kB ?_ ?c2 ?c3 ?c4 ?c5; (case k1 => assumption); (case k2 => exact Top.nolimit (by assumption)); (case k6 => k_is); (case k7 => k_is); (case k8 => decide); (case k9 => exact BindsTo.of_eq rfl); (case c5 => decide); (case kB => exact locs rfl); (case c2 => exact rfl); (case c3 => exact rfl); (case c4 => exact rfl)));
  dsimp only))
local macro_rules | `(tactic| walk_at "subscriptTail Name Name ref int") => `(tactic| (k_here; k_dflt (first
  | (refine' item_list (Fr.lst (by assumption) (by assumption)) ?h0 ?hf ?hx ?_; (case h0 => omega); (case hf => omega); (case hx => assumption); k_whole)
  | (refine' item_tup_nat (Fr.tup (by assumption) (by assumption)) ?hf ?hx ?_; (case hf => omega); (case hx => assumption); k_whole))))
local macro_rules | `(tactic| walk_at "compareOp NotEq ref ref") => `(tactic| (k_here; k_dflt (
  (refine' ent_ne (EntryAt.keep ?a ?ka) (EntryAt.keep ?b ?kb) ?oa ?ob ?u ?_; (case a => assumption); (case b => assumption); (case ka => exact Ext.tup (Fr.keep (by assumption))); (case kb => exact Ext.tup (Fr.keep (by assumption))); (case oa => assumption); (case ob => assumption); (case u => k_units); k_whole))))
local macro_rules | `(tactic| walk_at "call builtin:isinstance") => `(tactic| (k_here; (with_reducible show wpAny _ _ (call (Value.builtin "isinstance") [Value.ref _, Value.type _]) _ _ _); k_dflt (first
  | (refine' isi_ti ?F ?x ?_; (case F => assumption); (case x => assumption); k_whole)
  | (refine' isi_ts ?F ?x ?_; (case F => assumption); (case x => assumption); k_whole)
  | (refine' isi_tt ?F ?x ?_; (case F => assumption); (case x => assumption); k_whole))))
local macro_rules | `(tactic| walk_at "subscriptTail Name Slice ref ref") => `(tactic| (k_here; k_dflt (refine tail_todo ?_)))
local macro_rules | `(tactic| walk_at "call ref") => `(tactic| (k_here; k_dflt (refine call_todo ?_)))
local macro_rules | `(tactic| walk_at "eval ListComp") => `(tactic| (k_here; k_dflt (refine' comp_todo ?hclos ?hkind ?hnames ?_; (case hclos => exact rfl); (case hkind => exact rfl); (case hnames => decide))))
local macro_rules | `(tactic| walk_at "my enterC") => `(tactic| (
  (k_dflt (refine' enterC (K := hd.heap_39 _) ?k1 ?k2 ?k6 ?k7 ?k8 ?k9 ?kB ?kD ?_ ?c2 ?c3 ?c4; (case k1 => assumption); (case k2 => exact Top.nolimit (by assumption)); (case k6 => k_is); (case k7 => k_is); (case k8 => decide); (case k9 => exact BindsTo.of_eq rfl); (case kB => exact rfl); (case kD => decide +kernel); (case c2 => exact rfl); (case c3 => exact rfl); (case c4 => exact rfl)));
  dsimp only))
def restL : List Int := [5, 14, 3, 22, 9, 1, 17, 6, 2, 11, 30, 4, 8, 19, 7, 13, 25, 10, 16, 21, 12, 27, 18, 23]
theorem rest_ok {w : World} {E : Value → Shared → Prop} {s : Shared} {Q : Value → Shared → Prop}
    {mean : ExcName → Option Value} {mg mb : Str → Option Value}
    (X : (hd.heap_39 w.params).In s.heap) (T : Top hd.view_39 loose0 mean mg mb s.heap)
    (hQ : ∀ l vs h' tk', Ext s.heap h' → h'.IsList l (List.toArray vs) → IntsAre vs restL → Q (.ref l) { s with heap := h', toks := tk' }) :
    wpAny (model PySem.Challenge.rw_az6001_01.row.prog w) (Ar 390 250) (call (.ref 112) []) Q E s := by
  revert X; k_fill; intro X
  walk_at "my enter"
  intro h₁ F
  have N : News s.heap s.heap.objs.size h₁ [] := News.nil
  k_steps
  (rename Fr _ _ _ _ => F')
  (rename News _ _ _ _ => N')
  exact hQ _ [_, _, _, _, _, _, _, _, _, _, _, _, _, _, _, _, _, _, _, _, _, _, _, _] _ _ F'.keep ⟨_, (N' _ (.head _)).1, rfl, _, rfl⟩ (by repeat' constructor)
end Mine

namespace Mine
local macro_rules | `(tactic| walk_at "exec For Name Call cons nil") => `(tactic| (k_here; k_dflt (refine For_todo ?_)))
local macro_rules | `(tactic| walk_at "exec For Name Name cons nil") => `(tactic| (k_here; k_dflt (refine For_todo ?_)))
local macro_rules | `(tactic| walk_at "call builtin:len") => `(tactic| (k_here; (with_reducible show wpAny _ _ (call (Value.builtin "len") [Value.ref _]) _ _ _); k_dflt (first
  | (refine' len_list (Fr.lst (by assumption) (by assumption)) ?fit ?_; (case fit => simp only [List.size_toArray]; omega); k_whole)
  | (refine' len_tuple (Fr.tup (by assumption) (by assumption)) ?fit ?_; (case fit => simp only [List.size_toArray]; omega); k_whole)); (try simp only [List.size_toArray])))
local macro_rules | `(tactic| walk_at "my enter") => `(tactic| (
  (k_dflt (refine' enter (K := hd.heap_39 _) ?k1 ?k2 ?k6 ?k7 ?k8 ?k9 ?kB ?_ ?c2 ?c3 ?c4 ?c5; (case k1 => assumption); (case k2 => exact Top.nolimit (by assumption)); (case k6 => k_is); (case k7 => k_is); (case k8 => decide); (case k9 => exact BindsTo.of_eq rfl); (case c5 => decide); (case kB => exact locs rfl); (case c2 => exact rfl); (case c3 => exact rfl); (case c4 => exact rfl)));
  dsimp only))
local macro_rules | `(tactic| walk_at "subscriptTail Name Name ref int") => `(tactic| (k_here; k_dflt (first
  | (refine' item_list (Fr.lst (by assumption) (by assumption)) ?h0 ?hf ?hx ?_; (case h0 => omega); (case hf => omega); (case hx => assumption); k_whole)
  | (refine' item_tup_nat (Fr.tup (by assumption) (by assumption)) ?hf ?hx ?_; (case hf => omega); (case hx => assumption); k_whole))))
local macro_rules | `(tactic| walk_at "compareOp NotEq ref ref") => `(tactic| (k_here; k_dflt (
  (refine' ent_ne (EntryAt.keep ?a ?ka) (EntryAt.keep ?b ?kb) ?oa ?ob ?u ?_; (case a => assumption); (case b => assumption); (case ka => exact Ext.tup (Fr.keep (by assumption))); (case kb => exact Ext.tup (Fr.keep (by assumption))); (case oa => assumption); (case ob => assumption); (case u => k_units); k_whole))))
local macro_rules | `(tactic| walk_at "call builtin:isinstance") => `(tactic| (k_here; (with_reducible show wpAny _ _ (call (Value.builtin "isinstance") [Value.ref _, Value.type _]) _ _ _); k_dflt (first
  | (refine' isi_ti ?F ?x ?_; (case F => assumption); (case x => assumption); k_whole)
  | (refine' isi_ts ?F ?x ?_; (case F => assumption); (case x => assumption); k_whole)
  | (refine' isi_tt ?F ?x ?_; (case F => assumption); (case x => assumption); k_whole))))
local macro_rules | `(tactic| walk_at "subscriptTail Name Slice ref ref") => `(tactic| (k_here; k_dflt (refine tail_todo ?_)))
local macro_rules | `(tactic| walk_at "call ref") => `(tactic| (k_here; k_dflt (refine call_todo ?_)))
local macro_rules | `(tactic| walk_at "eval ListComp") => `(tactic| (k_here; k_dflt (refine' comp_todo ?hclos ?hkind ?hnames ?_; (case hclos => exact rfl); (case hkind => exact rfl); (case hnames => decide))))
local macro_rules | `(tactic| walk_at "my enterC") => `(tactic| (
  (k_dflt (refine' enterC (K := hd.heap_39 _) ?k1 ?k2 ?k6 ?k7 ?k8 ?k9 ?kB ?kD ?_ ?c2 ?c3 ?c4; (case k1 => assumption); (case k2 => exact Top.nolimit (by assumption)); (case k6 => k_is); (case k7 => k_is); (case k8 => decide); (case k9 => exact BindsTo.of_eq rfl); (case kB => exact rfl); (case kD => decide +kernel); (case c2 => exact rfl); (case c3 => exact rfl); (case c4 => exact rfl)));
  dsimp only))
def WhileTodo (prog : Program) (w : World) (A : Around) (test : Expr) (body : List Stmt) (pos : Pos) (env : Env) (Q : Flow → Shared → Prop) (s : Shared) : Prop :=
  wpAny (model prog w) A (exec (.While test body [] pos) env) Q (fun _ _ => False) s
theorem while_todo {prog : Program} {w : World} {A : Around} {test : Expr} {body : List Stmt} {pos : Pos} {env : Env} {Q : Flow → Shared → Prop} {s : Shared} (h : WhileTodo prog w A test body pos env Q s) :
  wpAny (model prog w) A (exec (.While test body [] pos) env) Q (fun _ _ => False) s := h
def WhilePost (h₀ : Heap) (L : Addr) (tl : List (Addr × Obj)) (J : Nat → Heap → (Str → Option Value) → Prop) (n : Nat) (s₁ : Shared) (f : Flow) (s₃ : Shared) : Prop :=
  f = .next ∧ ∃ n', n' < n ∧ TurnEnd h₀ L tl [] (fun h' m' _ => J n' h' m') s₁ s₃
theorem while_go {prog : Program} {w : World} {A : Around} {test : Expr} {body : List Stmt} {pos : Pos} {env : Env} {Q : Flow → Shared → Prop} {s : Shared} {h₀ : Heap} {m : Str → Option Value} {n₀ : Nat}
    (F : Fr h₀ env.locals s.heap m) (J : Nat → Heap → (Str → Option Value) → Prop) (Done : Heap → (Str → Option Value) → Prop) (h0 : J n₀ s.heap m)
    (turn : ∀ n h tk m₁ tl, J n h m₁ → Kp env.locals [] s.heap h → Fr h₀ env.locals h m₁ → News h₀ env.locals h tl → Froz h₀ env.locals [] tl h →
      wpAny (model prog w) A (isTrue test env (eval test env)) (fun b s₂ =>
        if b = true then wpAny (model prog w) A (execs body env) (WhilePost h₀ env.locals tl J n { s with heap := h, toks := tk }) (fun _ _ => False) s₂
        else TurnEnd h₀ env.locals tl [] (fun h' m' _ => Done h' m') { s with heap := h, toks := tk } s₂) (fun _ _ => False) { s with heap := h, toks := tk })
    (done : ∀ h tk m₁ tl, Done h m₁ → Kp env.locals [] s.heap h → Fr h₀ env.locals h m₁ → News h₀ env.locals h tl → Froz h₀ env.locals [] tl h → Q .next { s with heap := h, toks := tk }) :
    WhileTodo prog w A test body pos env Q s := by
  refine wpAny_While (codeAny_whileLoop (fun n s' => ∃ h tk m₁, s' = { s with heap := h, toks := tk } ∧ Fr h₀ env.locals h m₁ ∧ J n h m₁ ∧ Kp env.locals [] s.heap h) ?_ n₀ ⟨s.heap, s.toks, m, rfl, F, h0, Kp.rfl'⟩)
  rintro n s' ⟨h, tk, m₁, rfl, F₁, J₁, K₁⟩
  obtain ⟨tl, N, Z⟩ := freeze [] F₁
  refine wpAny_mono (turn n h tk m₁ tl J₁ K₁ F₁ N Z) (fun b s₂ h₂ => ?_) fun _ _ e => e.elim
  cases b with
  | false =>
    simp only [Bool.false_eq_true, if_false] at h₂ ⊢
    obtain ⟨h', tk', m', mu', rfl, F', N', hmu', hJ'⟩ := h₂
    have keep := Z.keeps F' fun p hp => (N' p (List.mem_append_right _ hp)).1
    obtain ⟨tl', N'', Z'⟩ := freeze [] F'
    exact wpAny_execs_nil (done h' tk' m' tl' hJ' (fun a o e hL hx => keep a o (K₁ a o e hL hx) hL hx) F' N'' Z')
  | true =>
    simp only [if_true] at h₂ ⊢
    refine wpAny_mono h₂ (fun f s₃ h₃ => ?_) fun _ _ e => e.elim
    obtain ⟨rfl, n', hn, h', tk', m', mu', rfl, F', N', hmu', hJ'⟩ := h₃
    have keep := Z.keeps F' fun p hp => (N' p (List.mem_append_right _ hp)).1
    exact ⟨n', hn, h', tk', m', rfl, F', hJ', fun a o e hL hx => keep a o (K₁ a o e hL hx) hL hx⟩
local macro_rules | `(tactic| walk_at "exec While BoolOp") => `(tactic| (k_here; k_dflt (refine while_todo ?_)))

local macro_rules | `(tactic| walk_at "compareOp LtE") => `(tactic| (k_here; k_dflt (refine cmp_todo ?_)))
local macro_rules | `(tactic| walk_at "call builtin:len") => `(tactic| (k_here; (with_reducible show wpAny _ _ (call (Value.builtin "len") [Value.ref _]) _ _ _); k_dflt (refine' len_list (News.isList (by assumption) (by k_mem)) ?fit ?_; (case fit => simp only [List.size_toArray]; omega); k_whole); (try simp only [List.size_toArray])))
local macro_rules | `(tactic| walk_at "subscriptTail Name Name ref int") => `(tactic| (k_here; k_dflt (refine' item_list (News.isList (by assumption) (by k_mem)) ?h0 ?hf ?hx ?_; (case h0 => omega); (case hf => omega); (case hx => assumption); k_whole)))
theorem add_lits {prog : Program} {w : World} {A : Around} {E : Value → Shared → Prop} {s : Shared} {h₀ : Heap} {L a b : Addr} {m : Str → Option Value} {news : List (Addr × Obj)} {vs ws : List Value} {Q : Value → Shared → Prop}
    (F : Fr h₀ L s.heap m) (N : News h₀ L s.heap news) (ha : s.heap.IsList a vs.toArray) (hb : s.heap.IsList b ws.toArray) (hz : vs.length + ws.length ≤ 100)
    (h : ∀ D h', Fr h₀ L h' m → News h₀ L h' ((D, W.listOf (vs ++ ws).toArray 0) :: news) → (∀ p ∈ news, p.1 < D) → Q (.ref D) { s with heap := h' }) : wpAny (model prog w) A (binaryOp .Add (.ref a) (.ref b)) Q E s :=
  kmk_add_lit F N ha hb (by simp) h (Nat.le_trans (by simpa using hz) (by decide))
theorem size_line {n : Nat} (h : n ≤ 100) : n ≤ sizeLine := Nat.le_trans h (by decide)
local macro_rules | `(tactic| walk_at "binaryOp Add ref ref") => `(tactic| (k_here; k_dflt (refine' add_lits ?F ?N ?a ?b ?z ?_; (case F => k_asm); (case N => k_asm); (case a => exact News.isList (by assumption) (by k_mem)); (case b => exact News.isList (by assumption) (by k_mem)); (case z => simp only [List.length_append, List.length_take, List.length_drop, List.length_cons, List.length_nil]; omega)); intro D' h' F' N' l1; (try k_lt l1)))
/-- a row's tuple of two paths -/
def TwoAt (h : Heap) (v : Value) (f : Fault) : Prop := ∃ a d c, v = .ref a ∧ IsTup h a [d, c].toArray ∧ PathAt h d f.1 ∧ PathAt h c f.2
theorem TwoAt.keep {h h' : Heap} {v : Value} {f : Fault} (x : TwoAt h v f) (k : TupKeep h h') : TwoAt h' v f := by
  obtain ⟨a, d, c, rfl, h1, h2, h3⟩ := x
  exact ⟨a, d, c, rfl, isTup_keep h1 k, h2.keep k, h3.keep k⟩
def TwosAt (h : Heap) (v : Value) (fs : List Fault) : Prop := ∃ l vs, v = .ref l ∧ h.IsList l vs.toArray ∧ Paired (TwoAt h) vs fs
/-- the law's own order: each row behind all that are not greater -/
def ins (f : Fault) : List Fault → List Fault
  | [] => [f]
  | g :: r => if fLe g f = true then g :: ins f r else f :: g :: r
def order (fs : List Fault) : List Fault := fs.foldl (fun d f => ins f d) []
theorem ins_at {f : Fault} : ∀ {d : List Fault} {k : Nat}, k ≤ d.length → (∀ i (h : i < d.length), i < k → fLe d[i] f = true) → (∀ h : k < d.length, fLe d[k] f = false) → ins f d = d.take k ++ [f] ++ d.drop k
  | [], k, _, _, _ => by simp [ins]
  | g :: r, 0, _, _, h => by
    have := h (Nat.succ_pos _)
    simp only [List.getElem_cons_zero] at this
    simp [ins, this]
  | g :: r, k + 1, hk, h1, h2 => by
    have e := h1 0 (Nat.succ_pos _) (Nat.succ_pos _)
    simp only [List.getElem_cons_zero] at e
    simp only [ins, e, if_true, List.take_succ_cons, List.drop_succ_cons, List.cons_append, List.cons.injEq, true_and]
    refine ins_at (Nat.le_of_succ_le_succ hk) (fun i h hi => ?_) fun h => ?_
    · simpa using h1 (i + 1) (Nat.succ_lt_succ h) (Nat.succ_lt_succ hi)
    · simpa using h2 (Nat.succ_lt_succ h)
theorem ins_length (f : Fault) : ∀ d, (ins f d).length = d.length + 1
  | [] => rfl
  | g :: r => by
    unfold ins; split
    · rw [List.length_cons, ins_length f r]; rfl
    · rfl
theorem ins_mem {f g : Fault} : ∀ {d}, g ∈ ins f d → g = f ∨ g ∈ d
  | [], h => by simpa [ins] using h
  | a :: r, h => by
    unfold ins at h; split at h
    · rcases List.mem_cons.mp h with h | h
      · exact .inr (h ▸ .head _)
      · exact (ins_mem h).imp id (.tail _)
    · rcases List.mem_cons.mp h with h | h
      · exact .inl h
      · exact .inr h
theorem order_length (fs : List Fault) : (order fs).length = fs.length := by
  suffices ∀ (fs d : List Fault), (fs.foldl (fun d f => ins f d) d).length = d.length + fs.length by
    have := this fs []; simpa [order] using this
  clear fs
  intro fs
  induction fs with
  | nil => intro d; rfl
  | cons f r ih => intro d; rw [List.foldl_cons, ih, ins_length, List.length_cons]; omega
theorem order_snoc (fs : List Fault) (f : Fault) : order (fs ++ [f]) = ins f (order fs) := by simp [order, List.foldl_append]
theorem order_mem {fs : List Fault} {g : Fault} (h : g ∈ order fs) : g ∈ fs := by
  suffices ∀ (fs d : List Fault) g, g ∈ fs.foldl (fun d f => ins f d) d → g ∈ d ∨ g ∈ fs from (this fs [] g h).elim (fun h => nomatch h) id
  clear h g fs
  intro fs
  induction fs with
  | nil => intro d g h; exact .inl h
  | cons f r ih =>
    intro d g h
    rcases ih _ g h with h | h
    · exact (ins_mem h).elim (fun e => .inr (e ▸ .head _)) .inl
    · exact .inr (.tail _ h)
theorem pick_upto (xs : List Value) (k : Nat) : kms_pick xs none (some (k : Int)) = xs.take k := by
  unfold kms_pick kms_lo kms_hi
  have : ¬ ((k : Int) < 0) := by omega
  simp only [this, if_false, Int.toNat_natCast, List.drop_zero, Nat.sub_zero]
  rcases Nat.le_total k xs.length with h | h
  · rw [Nat.min_eq_left h]
  · rw [Nat.min_eq_right h, List.take_of_length_le (Nat.le_refl _), List.take_of_length_le h]
theorem pick_from (xs : List Value) (k : Nat) : kms_pick xs (some (k : Int)) none = xs.drop k := by
  unfold kms_pick kms_lo kms_hi
  have : ¬ ((k : Int) < 0) := by omega
  simp only [this, if_false, Int.toNat_natCast]
  rcases Nat.le_total k xs.length with h | h
  · rw [Nat.min_eq_left h, List.take_of_length_le]
    rw [List.length_drop]; exact Nat.le_refl _
  · rw [Nat.min_eq_right h, List.drop_eq_nil_of_le (Nat.le_refl _), List.drop_eq_nil_of_le h, List.take_nil]
theorem afterK {h₀ h h' : Heap} {L : Addr} {m : Str → Option Value} {news : List (Addr × Obj)} (mu : List (Addr × Obj)) (F : Fr h₀ L h m) (N : News h₀ L h news) (k : Ext h h') (hm : ∀ p ∈ mu, p ∈ news) :
    ∃ tl, Fr h₀ L h' m ∧ News h₀ L h' (mu ++ tl) ∧ Froz h₀ L [] tl h' := by
  have F' := Fr.keeps F k
  obtain ⟨tl, N', Z⟩ := freeze [] F'
  exact ⟨tl, F', news_app (news_ext (news_sub N hm) k) N', Z⟩
theorem news_kp {h₀ h h' : Heap} {L : Addr} {a : List (Addr × Obj)} (N : News h₀ L h a) (K : Kp L [] h h') : News h₀ L h' a := fun p hp => ⟨K _ _ (N p hp).1 (N p hp).2.1 (fun h => nomatch h), (N p hp).2⟩
theorem mem6 {α : Type} {a b c d e f : α} {t : List α} : ∀ p ∈ t, p ∈ a :: b :: c :: d :: e :: f :: t := fun _ h => .tail _ (.tail _ (.tail _ (.tail _ (.tail _ (.tail _ h)))))
theorem order_ok {w : World} {E : Value → Shared → Prop} {s : Shared} {Q : Value → Shared → Prop}
    {mean : ExcName → Option Value} {mg mb : Str → Option Value} {u : Value} {fs : List Fault}
    (X : (hd.heap_39 w.params).In s.heap) (T : Top hd.view_39 loose0 mean mg mb s.heap)
    (hx : TwosAt s.heap u fs) (ok : ∀ f ∈ fs, goodF f) (hn : fs.length ≤ 10)
    (hQ : ∀ v h' tk', Ext s.heap h' → TwosAt h' v (order fs) → Q v { s with heap := h', toks := tk' }) :
    wpAny (model PySem.Challenge.rw_az6001_01.row.prog w) (Ar 390 250) (call (.ref 152) [u]) Q E s := by
  revert X; k_fill; intro X
  obtain ⟨l1, vs, rfl, hl1, hp1⟩ := hx
  have e1 := paired_length hp1
  walk_at "my enter"
  intro h₁ F
  have N : News s.heap s.heap.objs.size h₁ [] := News.nil
  k_steps
  rename_i l _ _ h₂ F₂ N₂
  unfold ForTodo
  refine for_list (mu := []) (ex := []) rfl (Fr.lst F₂ hl1) (fun h => nomatch h) rfl rfl F₂ News.nil rfl
    (fun i h m mu => ∃ l ws n, News s.heap s.heap.objs.size h [(l, W.listOf (List.toArray ws) n)] ∧ m (Str.ofString "done") = some (.ref l) ∧ Paired (TwoAt h) ws (order (fs.take i))) ?_ ⟨l, [], 0, N₂, rfl, by rw [List.take_zero]; exact Paired.nil⟩ ?_ ?_
  · rintro i h h' m mu ⟨l, ws, n, N, hm, hw⟩ k
    exact ⟨l, ws, n, fun p hp => ⟨k p.1 p.2 (List.toArray ws) n (N p hp).1 (by rw [List.mem_singleton.mp hp]) (fun h => nomatch h), (N p hp).2⟩, hm, Paired.imp (fun _ _ q => q.keep k.tup0) hw⟩
  · rintro i v h tk m₁ mu₁ tl hi ⟨l, ws, n, Nl, hm, hw⟩ K₁ hmu F N Z
    clear F₂ N₂
    obtain rfl := mu_nil hmu
    replace F := fr_known [(Str.ofString "done", .ref l)] F (by simp [hm])
    have hix : i < fs.length := by
      have : i < vs.toArray.size := (Array.getElem?_eq_some_iff.mp hi).1
      simpa [e1] using this
    obtain ⟨v', hv, hp⟩ := paired_get hp1 i hix
    obtain rfl : v = v' := by simpa [hv] using hi.symm
    have htk : fs.take (i + 1) = fs.take i ++ [fs[i]] := by rw [List.take_add_one, List.getElem?_eq_getElem hix]; rfl
    have gf := ok _ (List.getElem_mem hix)
    simp only [List.nil_append] at N
    obtain ⟨a, d, c, rfl, ha, hd1, hc1⟩ := hp
    have N₀ := news_app Nl N
    rw [List.singleton_append] at N₀
    clear N Nl
    have hlen : ws.length = (order (fs.take i)).length := paired_length hw
    have hl10 : ws.length ≤ 10 := by rw [hlen, order_length, List.length_take]; omega
    have hLm : ∀ g ∈ order (fs.take i), goodF g := fun g hg => ok _ (List.mem_of_mem_take (order_mem hg))
    generalize hL : order (fs.take i) = L at hw hlen hLm
    k_steps
    (rename Fr _ _ _ _ => F₁)
    (rename News _ _ _ _ => N₁)
    unfold CallTodo
    refine wpAny_ar (key_ok (X.keeps F₁.keep) (T.keeps F₁.keep) (hd1.keep (Ext.tup F₁.keep)) gf.1.1 ?_) rfl (Nat.le_of_ble_eq_true rfl) (Nat.le_of_ble_eq_true rfl)
    intro k1 h₂ tk₂ x₂ ho1
    obtain ⟨tl₂, F₂, N₂, Z₂⟩ := afterK [(l, W.listOf (List.toArray ws) n)] F₁ N₁ x₂ (fun p hp => by rw [List.mem_singleton.mp hp]; exact .head _)
    have hsub₂ := Z₂.carry N₁ x₂.kp (fun _ _ _ h => nomatch h)
    simp only [List.cons_append, List.nil_append] at N₂
    clear F₁ N₁
    k_steps
    (rename Fr _ _ _ _ => F₁)
    (rename News _ _ _ _ => N₁)
    unfold CallTodo
    refine wpAny_ar (key_ok (X.keeps F₁.keep) (T.keeps F₁.keep) (hc1.keep (Ext.tup F₁.keep)) gf.2.1 ?_) rfl (Nat.le_of_ble_eq_true rfl) (Nat.le_of_ble_eq_true rfl)
    intro k2 h₃ tk₃ x₃ ho2
    obtain ⟨tl₃, F₂, N₂, Z₃⟩ := afterK [(l, W.listOf (List.toArray ws) n)] F₁ N₁ x₃ (fun p hp => by rw [List.mem_singleton.mp hp]; exact .head _)
    have hsub₃ := Z₃.carry N₁ x₃.kp (fun _ _ _ h => nomatch h)
    simp only [List.cons_append, List.nil_append] at N₂
    clear F₁ N₁
    have ho1' := ho1.ext x₃
    k_steps
    (rename Fr _ _ _ _ => F₁)
    (rename News _ _ _ _ => N₁)
    rename_i D _ _ h₄
    have hk1 : KeyAt h₄ k1 fs[i].1 := ho1'.sk0 (Z₃.skN F₁ N₁ fun p hp => .tail _ (.tail _ hp))
    have hk2 : KeyAt h₄ k2 fs[i].2 := ho2.sk0 (Z₃.skN F₁ N₁ fun p hp => .tail _ (.tail _ hp))
    have hsub₄ : ∀ p ∈ tl, p ∈ (D, ({ cls := .type "tuple", data := .seq #[k1, k2] } : Obj)) :: (l, W.listOf (List.toArray ws) n) :: tl₃ := fun p hp => .tail _ (.tail _ (hsub₃ p (.tail _ (hsub₂ p (.tail _ hp)))))
    have sk₄ := Z.skN F₁ N₁ hsub₄
    have hw₄ : Paired (TwoAt h₄) ws L := Paired.imp (fun _ _ q => q.keep sk₄.tup0) hw
    refine while_go F₁ (fun n h m₁ => ∃ (k : Nat) (t : Tok), n = ws.length - k ∧ k ≤ ws.length ∧ m₁ (Str.ofString "at") = some (.int k t) ∧ m₁ (Str.ofString "done") = some (.ref l) ∧ m₁ (Str.ofString "row") = some (.ref a) ∧ m₁ (Str.ofString "mine") = some (.ref D) ∧ ∀ i' (h : i' < L.length), i' < k → fLe L[i'] fs[i] = true)
      (fun h m₁ => ∃ (k : Nat) (t : Tok), k ≤ ws.length ∧ m₁ (Str.ofString "at") = some (.int k t) ∧ m₁ (Str.ofString "done") = some (.ref l) ∧ m₁ (Str.ofString "row") = some (.ref a) ∧ (∀ i' (h : i' < L.length), i' < k → fLe L[i'] fs[i] = true) ∧ (∀ h : k < L.length, fLe L[k] fs[i] = false))
      ⟨0, _, rfl, Nat.zero_le _, rfl, rfl, rfl, rfl, fun i' _ h => absurd h (Nat.not_lt_zero _)⟩ ?_ ?_
    · rintro n' h₅ tk₅ m₅ tl₅ ⟨k, t, rfl, hkl, hat, hdo, hro, hmi, hle⟩ K₅ F₅ N₅ Z₅
      replace F₅ := fr_known0 [(Str.ofString "at", .int (k : Int) t), (Str.ofString "done", .ref l), (Str.ofString "row", .ref a), (Str.ofString "mine", .ref D)] F₅ (by simp [hat, hdo, hro, hmi])
      have hk1' := hk1.sk0 (K₅.sk F₁)
      have hk2' := hk2.sk0 (K₅.sk F₁)
      have hw' : Paired (TwoAt h₅) ws L := Paired.imp (fun _ _ q => q.keep (Sk.tup0 (K₅.sk F₁))) hw₄
      have hsub₅ := Z₅.carry N₁ K₅ (fun _ _ _ h => nomatch h)
      replace N₅ := news_app (news_kp (news_sub N₁ (a := [(D, ({ cls := .type "tuple", data := .seq #[k1, k2] } : Obj)), (l, W.listOf (List.toArray ws) n)]) (by simp)) K₅) N₅
      simp only [List.cons_append, List.nil_append] at N₅
      clear F₁ N₁
      by_cases hlt : k < ws.length
      · obtain ⟨rv, hrv, hrp⟩ := paired_get hw' k (hlen ▸ hlt)
        obtain ⟨b, d2, c2, rfl, hb, hd2, hc2⟩ := hrp
        have hx : (List.toArray ws)[((k : Nat) : Int).toNat]? = some (.ref b) := by simpa using hrv
        have hcm : ((k : Int) < (ws.length : Int)) := by omega
        k_steps
        have gL : goodF (L[k]'(hlen ▸ hlt)) := hLm _ (List.getElem_mem _)
        (rename Fr _ _ _ _ => F₆)
        (rename News _ _ _ _ => N₆)
        unfold CallTodo
        refine wpAny_ar (key_ok (X.keeps F₆.keep) (T.keeps F₆.keep) hd2 gL.1.1 ?_) rfl (Nat.le_of_ble_eq_true rfl) (Nat.le_of_ble_eq_true rfl)
        intro k3 h₇ tk₇ x₇ ho3
        obtain ⟨tl₇, F₇, N₇, Z₇⟩ := afterK [(D, ({ cls := .type "tuple", data := .seq #[k1, k2] } : Obj)), (l, W.listOf (List.toArray ws) n)] F₆ N₆ x₇ (by simp)
        have hsub₇ := Z₇.carry N₆ x₇.kp (fun _ _ _ h => nomatch h)
        simp only [List.cons_append, List.nil_append] at N₇
        have hb₇ := isTup_keep hb (Ext.tup x₇)
        have hc₇ := hc2.keep (Ext.tup x₇)
        clear F₆ N₆
        k_steps
        (rename Fr _ _ _ _ => F₆)
        (rename News _ _ _ _ => N₆)
        unfold CallTodo
        refine wpAny_ar (key_ok (X.keeps F₆.keep) (T.keeps F₆.keep) hc₇ gL.2.1 ?_) rfl (Nat.le_of_ble_eq_true rfl) (Nat.le_of_ble_eq_true rfl)
        intro k4 h₈ tk₈ x₈ ho4
        obtain ⟨tl₈, F₈, N₈, Z₈⟩ := afterK [(D, ({ cls := .type "tuple", data := .seq #[k1, k2] } : Obj)), (l, W.listOf (List.toArray ws) n)] F₆ N₆ x₈ (by simp)
        have hsub₈ := Z₈.carry N₆ x₈.kp (fun _ _ _ h => nomatch h)
        simp only [List.cons_append, List.nil_append] at N₈
        clear F₆ N₆
        k_steps
        (rename Fr _ _ _ _ => F₆)
        (rename News _ _ _ _ => N₆)
        rename_i D₂ h₉ _
        have sk₉ := Z₈.skN F₆ N₆ fun p hp => .tail _ (.tail _ (.tail _ hp))
        unfold CmpTodo
        refine keys2_le (a := D₂) (b := D) (News.isTup N₆ (.head _)) (News.isTup N₆ (.tail _ (.head _))) ((ho3.ext x₈).sk0 sk₉) (ho4.sk0 sk₉) (((hk1'.ext x₇).ext x₈).sk0 sk₉) (((hk2'.ext x₇).ext x₈).sk0 sk₉) gL.1.2 gf.1.2 gL.2.2 gf.2.2 (by k_units) ?_
        have hfe : fLe (L[k].1, L[k].2) (fs[i].1, fs[i].2) = fLe L[k] fs[i] := rfl
        rw [hfe]
        cases e : fLe L[k] fs[i] with
        | true =>
          k_steps
          clear F₆ N₆
          (rename Fr _ _ _ _ => F₆)
          (rename News _ _ _ _ => N₆)
          refine ⟨rfl, ws.length - (k + 1), by omega, _, _, _, [], rfl, F₆, fun p hp => N₆ p ?_, rfl, k + 1, _, rfl, hlt, rfl, rfl, rfl, rfl, ?_⟩
          · have := hsub₈ p (.tail _ (.tail _ (hsub₇ p (.tail _ (.tail _ hp)))))
            simp [this]
          · intro i' hi' hlt'
            rcases Nat.lt_succ_iff_lt_or_eq.mp hlt' with h | rfl
            · exact hle i' hi' h
            · exact e
        | false =>
          k_steps
          refine ⟨_, _, _, [], rfl, F₆, fun p hp => N₆ p ?_, rfl, k, _, hkl, rfl, rfl, rfl, hle, fun _ => e⟩
          have := hsub₈ p (.tail _ (.tail _ (hsub₇ p (.tail _ (.tail _ hp)))))
          simp [this]
      · have hcm : ¬ ((k : Int) < (ws.length : Int)) := by omega
        k_steps
        (rename Fr _ _ _ _ => F₆)
        (rename News _ _ _ _ => N₆)
        refine ⟨_, _, _, [], rfl, F₆, fun p hp => N₆ p ?_, rfl, k, _, hkl, rfl, rfl, rfl, hle, fun h => absurd h (by omega)⟩
        exact .tail _ (.tail _ hp)
    · rintro h₅ tk₅ m₅ tl₅ ⟨k, t, hkl, hat, hdo, hro, hle, hgt⟩ K₅ F₅ N₅ Z₅
      replace F₅ := fr_known0 [(Str.ofString "at", .int (k : Int) t), (Str.ofString "done", .ref l), (Str.ofString "row", .ref a)] F₅ (by simp [hat, hdo, hro])
      have sk₅ := sk₄.trans (K₅.sk F₁)
      have hw' : Paired (TwoAt h₅) ws L := Paired.imp (fun _ _ q => q.keep (Sk.tup0 (K₅.sk F₁))) hw₄
      have hsub₅ := Z₅.carry N₁ K₅ (fun _ _ _ h => nomatch h)
      replace N₅ := news_app (news_kp (news_sub N₁ (a := [(l, W.listOf (List.toArray ws) n)]) (by simp)) K₅) N₅
      simp only [List.cons_append, List.nil_append] at N₅
      clear F₁ N₁
      k_steps
      unfold TailTodo
      refine' kms_slice_lit ?yF ?yN ?yl ?yp ?yq ?ye ?_ ?ys ?yt ?yz
      (case yF => assumption); (case yN => assumption); (case yl => exact News.isList (by assumption) (by k_mem)); (case yp => exact IsPart.none); (case yq => exact IsPart.int _ _); (case ye => exact pick_upto _ _); (case ys => with_unfolding_all rfl); (case yt => kmk_pure); (case yz => refine size_line ?_; simp only [List.size_toArray]; omega)
      intro D₁ h₆ F₆ N₆ l₆
      clear F₅ N₅
      k_steps
      (rename Fr _ _ _ _ => F₇)
      (rename News _ _ _ _ => N₇)
      unfold TailTodo
      refine' kms_slice_lit ?zF ?zN ?zl ?zp ?zq ?ze ?_ ?zs ?zt ?zz
      (case zF => assumption); (case zN => assumption); (case zl => exact News.isList (by assumption) (by k_mem)); (case zp => exact IsPart.int _ _); (case zq => exact IsPart.none); (case ze => exact pick_from _ _); (case zs => with_unfolding_all rfl); (case zt => kmk_pure); (case zz => refine size_line ?_; simp only [List.size_toArray]; omega)
      intro D₂ h₇ F₈ N₈ l₇
      clear F₇ N₇
      k_steps
      (rename Fr _ _ _ _ => F₉)
      (rename News _ _ _ _ => N₉)
      have N₁₀ := news_sub N₉ mem6
      have sk₉ := Z₅.skN F₉ N₉ mem6
      have hs₁ : ∀ p ∈ tl, p ∈ tl₅ := fun p hp => hsub₅ p (hsub₄ p hp)
      refine ⟨_, _, _, [], rfl, F₉, fun p hp => N₁₀ p (hs₁ p hp), rfl, _, _, _, news_sub N₉ (fun p hp => by rw [List.mem_singleton.mp hp]; exact .head _), rfl, ?_⟩
      rw [htk, order_snoc, hL, ins_at (hlen ▸ hkl) hle hgt]
      have hw9 := Paired.imp (fun _ _ (q : TwoAt h₅ _ _) => q.keep sk₉.tup0) hw'
      exact paired_append (paired_append (paired_take k hw9) (.cons ⟨a, d, c, rfl, isTup_keep ha (Ext.tup F₉.keep), hd1.keep (Ext.tup F₉.keep), hc1.keep (Ext.tup F₉.keep)⟩ .nil)) (paired_drop k hw9)
  · rintro h tk m₁ mu₁ tl ⟨l, ws, n, Nl, hm, hw⟩ K₁ hmu F N Z
    clear F₂ N₂
    replace F := fr_known0 [(Str.ofString "done", .ref l)] F (by simp [hm])
    show wpAny _ _ _ _ _ _
    k_steps
    refine hQ _ _ _ F.keep ⟨l, ws, rfl, ⟨_, (Nl _ (.head _)).1, rfl, n, rfl⟩, ?_⟩
    rwa [List.take_of_length_le (by simp [e1])] at hw
end Mine

namespace Mine
local macro_rules | `(tactic| walk_at "my pad 0") => `(tactic| skip)
local macro_rules | `(tactic| walk_at "my pad 1") => `(tactic| skip)
local macro_rules | `(tactic| walk_at "my pad 2") => `(tactic| skip)
local macro_rules | `(tactic| walk_at "my pad 3") => `(tactic| skip)
local macro_rules | `(tactic| walk_at "my pad 4") => `(tactic| skip)
local macro_rules | `(tactic| walk_at "my pad 5") => `(tactic| skip)
local macro_rules | `(tactic| walk_at "my pad 6") => `(tactic| skip)
local macro_rules | `(tactic| walk_at "my pad 7") => `(tactic| skip)
local macro_rules | `(tactic| walk_at "my pad 8") => `(tactic| skip)
local macro_rules | `(tactic| walk_at "my pad 9") => `(tactic| skip)
local macro_rules | `(tactic| walk_at "my pad 10") => `(tactic| skip)
local macro_rules | `(tactic| walk_at "my pad 11") => `(tactic| skip)
local macro_rules | `(tactic| walk_at "my pad 12") => `(tactic| skip)
local macro_rules | `(tactic| walk_at "my pad 13") => `(tactic| skip)
local macro_rules | `(tactic| walk_at "my pad 14") => `(tactic| skip)
local macro_rules | `(tactic| walk_at "my pad 15") => `(tactic| skip)
local macro_rules | `(tactic| walk_at "my pad 16") => `(tactic| skip)
local macro_rules | `(tactic| walk_at "my pad 17") => `(tactic| skip)
local macro_rules | `(tactic| walk_at "my pad 18") => `(tactic| skip)
local macro_rules | `(tactic| walk_at "my pad 19") => `(tactic| skip)
local macro_rules | `(tactic| walk_at "my pad 20") => `(tactic| skip)
local macro_rules | `(tactic| walk_at "my pad 21") => `(tactic| skip)
local macro_rules | `(tactic| walk_at "my pad 22") => `(tactic| skip)
local macro_rules | `(tactic| walk_at "my pad 23") => `(tactic| skip)
local macro_rules | `(tactic| walk_at "my pad 24") => `(tactic| skip)
local macro_rules | `(tactic| walk_at "exec For Name Call cons nil") => `(tactic| (k_here; k_dflt (refine For_todo ?_)))
local macro_rules | `(tactic| walk_at "exec For Name Name cons nil") => `(tactic| (k_here; k_dflt (refine For_todo ?_)))
local macro_rules | `(tactic| walk_at "call builtin:len") => `(tactic| (k_here; (with_reducible show wpAny _ _ (call (Value.builtin "len") [Value.ref _]) _ _ _); k_dflt (first
  | (refine' len_list (Fr.lst (by assumption) (by assumption)) ?fit ?_; (case fit => simp only [List.size_toArray]; omega); k_whole)
  | (refine' len_tuple (Fr.tup (by assumption) (by assumption)) ?fit ?_; (case fit => simp only [List.size_toArray]; omega); k_whole)); (try simp only [List.size_toArray])))
local macro_rules | `(tactic| walk_at "my enter") => `(tactic| (
  (k_dflt (refine' enter (K := hd.heap_39 _) ?k1 ?k2 ?k6 ?k7 ?k8 ?k9 ?kB ?_ ?c2 ?c3 ?c4 ?c5; (case k1 => assumption); (case k2 => exact Top.nolimit (by assumption)); (case k6 => k_is); (case k7 => k_is); (case k8 => decide); (case k9 => exact BindsTo.of_eq rfl); (case c5 => decide); (case kB => exact locs rfl); (case c2 => exact rfl); (case c3 => exact rfl); (case c4 => exact rfl)));
  dsimp only))
local macro_rules | `(tactic| walk_at "subscriptTail Name Name ref int") => `(tactic| (k_here; k_dflt (first
  | (refine' item_list (Fr.lst (by assumption) (by assumption)) ?h0 ?hf ?hx ?_; (case h0 => omega); (case hf => omega); (case hx => assumption); k_whole)
  | (refine' item_tup_nat (Fr.tup (by assumption) (by assumption)) ?hf ?hx ?_; (case hf => omega); (case hx => assumption); k_whole))))
local macro_rules | `(tactic| walk_at "compareOp NotEq ref ref") => `(tactic| (k_here; k_dflt (
  (refine' ent_ne (EntryAt.keep ?a ?ka) (EntryAt.keep ?b ?kb) ?oa ?ob ?u ?_; (case a => assumption); (case b => assumption); (case ka => exact Ext.tup (Fr.keep (by assumption))); (case kb => exact Ext.tup (Fr.keep (by assumption))); (case oa => assumption); (case ob => assumption); (case u => k_units); k_whole))))
local macro_rules | `(tactic| walk_at "call builtin:isinstance") => `(tactic| (k_here; (with_reducible show wpAny _ _ (call (Value.builtin "isinstance") [Value.ref _, Value.type _]) _ _ _); k_dflt (first
  | (refine' isi_ti ?F ?x ?_; (case F => assumption); (case x => assumption); k_whole)
  | (refine' isi_ts ?F ?x ?_; (case F => assumption); (case x => assumption); k_whole)
  | (refine' isi_tt ?F ?x ?_; (case F => assumption); (case x => assumption); k_whole))))
local macro_rules | `(tactic| walk_at "subscriptTail Name Slice ref ref") => `(tactic| (k_here; k_dflt (refine tail_todo ?_)))
local macro_rules | `(tactic| walk_at "call ref") => `(tactic| (k_here; k_dflt (refine call_todo ?_)))
local macro_rules | `(tactic| walk_at "eval ListComp") => `(tactic| (k_here; k_dflt (refine' comp_todo ?hclos ?hkind ?hnames ?_; (case hclos => exact rfl); (case hkind => exact rfl); (case hnames => decide))))
local macro_rules | `(tactic| walk_at "my enterC") => `(tactic| (
  (k_dflt (refine' enterC (K := hd.heap_39 _) ?k1 ?k2 ?k6 ?k7 ?k8 ?k9 ?kB ?kD ?_ ?c2 ?c3 ?c4; (case k1 => assumption); (case k2 => exact Top.nolimit (by assumption)); (case k6 => k_is); (case k7 => k_is); (case k8 => decide); (case k9 => exact BindsTo.of_eq rfl); (case kB => exact rfl); (case kD => decide +kernel); (case c2 => exact rfl); (case c3 => exact rfl); (case c4 => exact rfl)));
  dsimp only))
theorem ins_perm (f : Fault) : ∀ d, (ins f d).Perm (f :: d)
  | [] => .refl _
  | g :: r => by
    unfold ins; split
    · exact ((ins_perm f r).cons g).trans (.swap f g r)
    · exact .refl _
theorem ins_sorted {f : Fault} : ∀ {d : List Fault}, d.Pairwise (fun x y => fLe x y = true) → (ins f d).Pairwise (fun x y => fLe x y = true)
  | [], _ => by simp [ins]
  | g :: r, h => by
    rw [List.pairwise_cons] at h
    unfold ins; split
    · rename_i e
      rw [List.pairwise_cons]
      refine ⟨fun x hx => ?_, ins_sorted h.2⟩
      rcases ins_mem hx with rfl | hx
      · exact e
      · exact h.1 _ hx
    · rename_i e
      have e' := le_faults.tot _ _ (Bool.eq_false_iff.mpr e)
      rw [List.pairwise_cons, List.pairwise_cons]
      refine ⟨fun x hx => ?_, h⟩
      rcases List.mem_cons.mp hx with rfl | hx
      · exact e'
      · exact le_faults.tr _ _ _ e' (h.1 _ hx)
theorem order_both (fs : List Fault) : (order fs).Perm fs ∧ (order fs).Pairwise (fun x y => fLe x y = true) := by
  suffices ∀ (fs d : List Fault), d.Pairwise (fun x y => fLe x y = true) → (fs.foldl (fun d f => ins f d) d).Perm (d ++ fs) ∧ (fs.foldl (fun d f => ins f d) d).Pairwise (fun x y => fLe x y = true) from by
    have := this fs [] .nil; simpa [order] using this
  clear fs
  intro fs
  induction fs with
  | nil => intro d h; simpa using h
  | cons f r ih =>
    intro d h
    obtain ⟨h1, h2⟩ := ih (ins f d) (ins_sorted h)
    refine ⟨h1.trans ?_, h2⟩
    refine ((ins_perm f d).append_right r).trans ?_
    simpa using (List.perm_middle (a := f) (l₁ := d) (l₂ := r)).symm
theorem map_getD {α : Type} (d : α) (fs : List α) : (List.range fs.length).map (fun i => fs.getD i d) = fs := by
  refine List.ext_getElem (by simp) fun i h1 h2 => ?_
  simp [List.getD, h2]
theorem told_order {fs : List Fault} {d : Fault} {p : Array Nat} (hp : Whole fs.length p) (hi : Inc (le := fun i j => fLe (fs.getD i d) (fs.getD j d)) p fs.length) : p.toList.map (fun i => fs.getD i d) = order fs := by
  obtain ⟨o1, o2⟩ := order_both fs
  refine sorted_unique le_faults (List.Perm.trans ?_ o1.symm) ?_ o2
  · have h1 : p.toList.Perm (List.range fs.length) := by simpa using hp.toList
    have h2 := h1.map (fun i => fs.getD i d)
    rwa [map_getD] at h2
  · rw [List.pairwise_map, List.pairwise_iff_getElem]
    intro i j h1 h2 hij
    have hs := hp.size
    have := hi i j hij (by simpa [hs] using h2)
    have e1 : p.getD i 0 = p.toList[i] := by
      have h1' : i < p.size := by simpa using h1
      simp [Array.getD, h1']
    have e2 : p.getD j 0 = p.toList[j] := by
      have h2' : j < p.size := by simpa using h2
      simp [Array.getD, h2']
    rw [e1, e2] at this
    exact this
/-- a fault off the frame -/
def FaultIn (L : Addr) (h : Heap) (v : Value) (f : Fault) : Prop :=
  ∃ x dx es n d c, v = .ref x ∧ dx ≠ L ∧ h.get? x = some (instObj 101 dx) ∧ h.get? dx = some (dictOf es n) ∧ getL (Str.ofString "document_path") es = some (some d) ∧ getL (Str.ofString "schema_path") es = some (some c) ∧ PathAt h d f.1 ∧ PathAt h c f.2
theorem FaultIn.at {L : Addr} {h : Heap} {v : Value} {f : Fault} (x : FaultIn L h v f) : FaultAt h v f := by
  obtain ⟨a, dx, es, n, d, c, rfl, _, h1, h2, h3, h4, h5, h6⟩ := x
  exact ⟨a, dx, es, n, d, c, rfl, h1, h2, h3, h4, h5, h6⟩
theorem FaultIn.kp {h₀ : Heap} {L : Addr} {h h' : Heap} {m : Str → Option Value} {v : Value} {f : Fault} (x : FaultIn L h v f) (F : Fr h₀ L h m) (K : Kp L [] h h') : FaultIn L h' v f := by
  obtain ⟨a, dx, es, n, d, c, rfl, hn, h1, h2, h3, h4, h5, h6⟩ := x
  have ka : a ≠ L := fun q => by
    obtain ⟨o, es, n, ho, hd, _⟩ := F.ns
    rw [q, ho] at h1; cases h1; cases hd
  have tup := Sk.tup0 (K.sk F)
  exact ⟨a, dx, es, n, d, c, rfl, hn, K _ _ h1 ka (fun h => nomatch h), K _ _ h2 hn (fun h => nomatch h), h3, h4, h5.keep tup, h6.keep tup⟩
theorem paired_map {α β γ : Type} {R : β → γ → Prop} {f : α → β} {g : α → γ} : ∀ {l : List α}, (∀ a ∈ l, R (f a) (g a)) → Paired R (l.map f) (l.map g)
  | [], _ => .nil
  | a :: l, h => .cons (h a (.head _)) (paired_map fun b hb => h b (.tail _ hb))
theorem sorted_ok {w : World} {A : Around} {E : Value → Shared → Prop} {s : Shared} {Q : Value → Shared → Prop} {h₀ : Heap} {L : Addr} {m : Str → Option Value}
    {mean : ExcName → Option Value} {mg mb : Str → Option Value} {l : Addr} {vs : List Value} {fs : List Fault}
    (X : (hd.heap_39 w.params).In h₀) (T : Top hd.view_39 loose0 mean mg mb h₀) (F : Fr h₀ L s.heap m) (hh : A.in1.in1.handled = none) (hdp : A.in1.in1.depth ≤ 395) (hun : A.in1.in1.units ≤ 270)
    (hl : s.heap.IsList l vs.toArray) (hx : Paired (FaultIn L s.heap) vs fs) (ok : ∀ f ∈ fs, goodF f) (hlt : ∀ f ∈ fs, ∀ g ∈ fs, fLt f g = fLe f g) (h2 : 2 ≤ fs.length) (h64 : fs.length < 64)
    (hQ : ∀ D ws c h' tk', Fr h₀ L h' m → Kp L [] s.heap h' → News h₀ L h' [(D, W.listOf (List.toArray ws) c)] → Paired (FaultIn L h') ws (order fs) → Q (.ref D) { s with heap := h', toks := tk' }) :
    wpAny (model PySem.Challenge.rw_az6001_01.row.prog w) A (call (.builtin "sorted") [.ref l]) Q E s := by
  revert X; k_fill; intro X
  have e1 := paired_length hx
  obtain ⟨tl, N, Z⟩ := freeze [] F
  refine kat_sorted F N hl (by omega) (by omega) ?_
  intro D e h' F' N' lt
  have K' : ∀ {h'' : Heap}, Fr h₀ L h'' m → News h₀ L h'' ((D, seqObj "list" #[] e) :: tl) → Kp L [] s.heap h'' := fun F'' N'' => Z.keeps F'' fun p hp => (N'' p (.tail _ hp)).1
  refine kas_kind (T := .ref 101) (by omega) ?_ rfl rfl ?_
  · intro v hv
    obtain ⟨i, hi, rfl⟩ := List.getElem_of_mem hv
    obtain ⟨v', hv', hp⟩ := paired_get hx i (by omega)
    rw [List.getElem?_eq_getElem hi] at hv'
    cases hv'
    obtain ⟨a, dx, es, n, d, c, e1, hn, h1, h2, _⟩ := hp.kp F (K' F' N')
    rw [e1]
    exact InstAt.type (C := 101) (ox := instObj 101 dx) (od := some (dictOf es n)) ⟨h1, rfl, rfl, h2⟩
  let d₀ : Fault := ([], [])
  refine KOk.wp (N := vs.length) (le := fun i j => fLe (fs.getD i d₀) (fs.getD j d₀)) (P := fun r => Whole vs.length r ∧ Inc (le := fun i j => fLe (fs.getD i d₀) (fs.getD j d₀)) r vs.length) (I := fun s'' => ∃ h'' tk, s'' = { s with heap := h'', toks := tk } ∧ Fr h₀ L h'' m ∧ News h₀ L h'' ((D, seqObj "list" #[] e) :: tl)) ?_ (sort_ok ⟨fun a b c => le_faults.tr _ _ _, fun a b => le_faults.tot _ _⟩ (by omega)) ⟨h', s.toks, rfl, F', N'⟩ ?_
  · rintro i j C s'' hi hj ⟨h'', tk, rfl, F'', N''⟩ hC
    unfold kas_ask
    obtain ⟨u, hu, hpu⟩ := paired_get hx i (by omega)
    obtain ⟨v, hv, hpv⟩ := paired_get hx j (by omega)
    have eu : vs.getD i .none = u := by simp [List.getD, hu]
    have ev : vs.getD j .none = v := by simp [List.getD, hv]
    have ei : fs.getD i d₀ = fs[i]'(by omega) := by simp [List.getD, (by omega : i < fs.length)]
    have ej : fs.getD j d₀ = fs[j]'(by omega) := by simp [List.getD, (by omega : j < fs.length)]
    rw [eu, ev]
    have fu := (hpu.kp F (K' F'' N'')).at
    have fv := (hpv.kp F (K' F'' N'')).at
    obtain ⟨a, dx, es, n, d, c, rfl, h1, h2, h3⟩ := id fu
    have hle := hlt _ (List.getElem_mem (by omega : i < fs.length)) _ (List.getElem_mem (by omega : j < fs.length))
    refine kas_lt_inst (K := hd.heap_39 _) (C := 101) (ox := instObj 101 dx) (od := some (dictOf es n)) (f := 50) ?_ F'' X ⟨h1, rfl, rfl, h2⟩ ?_ ?_ ?_
    · exact Nat.lt_of_le_of_lt hun (by decide)
    · k_dflt k_is
    · k_dflt k_is
    refine wpAny_ar (lt_ok (X.keeps F''.keep) (T.keeps F''.keep) fu fv (ok _ (List.getElem_mem _)) (ok _ (List.getElem_mem _)) fun h3 tk3 x3 => ?_) hh hdp hun
    show C _ _
    rw [hle]
    have := hC { s with heap := h3, toks := tk3 } ⟨h3, tk3, rfl, F''.keeps x3, news_ext N'' x3⟩
    rw [ei, ej] at this
    exact this
  · rintro p s'' ⟨hp1, hp2⟩ ⟨h'', tk, rfl, F'', N''⟩
    refine KasFin.intro F'' N'' (.head fun q hq => Nat.ne_of_lt (lt q hq)) fun h3 c F3 N3 => ?_
    have K3 : Kp L [] s.heap h3 := Z.keeps F3 fun p hp => (N3 p (.tail _ hp)).1
    refine hQ D _ c h3 tk F3 K3 (news_sub N3 fun p hp => by rw [List.mem_singleton.mp hp]; exact .head _) ?_
    rw [e1] at hp1 hp2
    rw [← told_order (d := d₀) hp1 hp2]
    refine paired_map fun i hi => ?_
    have hi' : i < fs.length := by
      have hm : i ∈ p := by simpa using hi
      have := (Array.Perm.mem_iff hp1).mp hm
      simpa using this
    obtain ⟨u, hu, hpu⟩ := paired_get hx i hi'
    have eu : vs.getD i .none = u := by simp [List.getD, hu]
    have ei : fs.getD i d₀ = fs[i] := by simp [List.getD, hi']
    rw [eu, ei]
    exact hpu.kp F K3
end Mine

namespace Mine
local macro_rules | `(tactic| walk_at "exec For Name Call cons nil") => `(tactic| (k_here; k_dflt (refine For_todo ?_)))
local macro_rules | `(tactic| walk_at "exec For Name Name cons nil") => `(tactic| (k_here; k_dflt (refine For_todo ?_)))
local macro_rules | `(tactic| walk_at "call builtin:len") => `(tactic| (k_here; (with_reducible show wpAny _ _ (call (Value.builtin "len") [Value.ref _]) _ _ _); k_dflt (first
  | (refine' len_list (Fr.lst (by assumption) (by assumption)) ?fit ?_; (case fit => simp only [List.size_toArray]; omega); k_whole)
  | (refine' len_tuple (Fr.tup (by assumption) (by assumption)) ?fit ?_; (case fit => simp only [List.size_toArray]; omega); k_whole)); (try simp only [List.size_toArray])))
local macro_rules | `(tactic| walk_at "my enter") => `(tactic| (
  (k_dflt (refine' enter (K := hd.heap_39 _) ?k1 ?k2 ?k6 ?k7 ?k8 ?k9 ?kB ?_ ?c2 ?c3 ?c4 ?c5; (case k1 => assumption); (case k2 => exact Top.nolimit (by assumption)); (case k6 => k_is); (case k7 => k_is); (case k8 => decide); (case k9 => exact BindsTo.of_eq rfl); (case c5 => decide); (case kB => exact locs rfl); (case c2 => exact rfl); (case c3 => exact rfl); (case c4 => exact rfl)));
  dsimp only))
local macro_rules | `(tactic| walk_at "subscriptTail Name Name ref int") => `(tactic| (k_here; k_dflt (first
  | (refine' item_list (Fr.lst (by assumption) (by assumption)) ?h0 ?hf ?hx ?_; (case h0 => omega); (case hf => omega); (case hx => assumption); k_whole)
  | (refine' item_tup_nat (Fr.tup (by assumption) (by assumption)) ?hf ?hx ?_; (case hf => omega); (case hx => assumption); k_whole))))
local macro_rules | `(tactic| walk_at "compareOp NotEq ref ref") => `(tactic| (k_here; k_dflt (
  (refine' ent_ne (EntryAt.keep ?a ?ka) (EntryAt.keep ?b ?kb) ?oa ?ob ?u ?_; (case a => assumption); (case b => assumption); (case ka => exact Ext.tup (Fr.keep (by assumption))); (case kb => exact Ext.tup (Fr.keep (by assumption))); (case oa => assumption); (case ob => assumption); (case u => k_units); k_whole))))
local macro_rules | `(tactic| walk_at "call builtin:isinstance") => `(tactic| (k_here; (with_reducible show wpAny _ _ (call (Value.builtin "isinstance") [Value.ref _, Value.type _]) _ _ _); k_dflt (first
  | (refine' isi_ti ?F ?x ?_; (case F => assumption); (case x => assumption); k_whole)
  | (refine' isi_ts ?F ?x ?_; (case F => assumption); (case x => assumption); k_whole)
  | (refine' isi_tt ?F ?x ?_; (case F => assumption); (case x => assumption); k_whole))))
local macro_rules | `(tactic| walk_at "subscriptTail Name Slice ref ref") => `(tactic| (k_here; k_dflt (refine tail_todo ?_)))
local macro_rules | `(tactic| walk_at "call ref") => `(tactic| (k_here; k_dflt (refine call_todo ?_)))
local macro_rules | `(tactic| walk_at "eval ListComp") => `(tactic| (k_here; k_dflt (refine' comp_todo ?hclos ?hkind ?hnames ?_; (case hclos => exact rfl); (case hkind => exact rfl); (case hnames => decide))))
local macro_rules | `(tactic| walk_at "my enterC") => `(tactic| (
  (k_dflt (refine' enterC (K := hd.heap_39 _) ?k1 ?k2 ?k6 ?k7 ?k8 ?k9 ?kB ?kD ?_ ?c2 ?c3 ?c4; (case k1 => assumption); (case k2 => exact Top.nolimit (by assumption)); (case k6 => k_is); (case k7 => k_is); (case k8 => decide); (case k9 => exact BindsTo.of_eq rfl); (case kB => exact rfl); (case kD => decide +kernel); (case c2 => exact rfl); (case c3 => exact rfl); (case c4 => exact rfl)));
  dsimp only))
def faultData (f : Fault) : PyData := .tuple [.tuple (f.1.map Part.data), .tuple (f.2.map Part.data)]
theorem TwoAt.reads {h : Heap} {v : Value} {f : Fault} (x : TwoAt h v f) : ∃ as, Reads h v (faultData f) as := by
  obtain ⟨a, d, c, rfl, ⟨o, ho, hc, n, hd⟩, p1, p2⟩ := x
  obtain ⟨as, q⟩ := p1.reads
  obtain ⟨bs, r⟩ := p2.reads
  exact ⟨_, reads_tuple_at ho hc hd (by simpa using ReadsAll.cons q (.cons r .nil))⟩
theorem twos_reads {h : Heap} : ∀ {vs : List Value} {fs : List Fault}, Paired (TwoAt h) vs fs → ∃ as, ReadsAll h vs (fs.map faultData) as
  | _, _, .nil => ⟨_, .nil⟩
  | _, _, .cons a b => let ⟨_, q⟩ := TwoAt.reads a; let ⟨_, r⟩ := twos_reads b; ⟨_, .cons q r⟩
theorem list_reads {h : Heap} {l : Addr} {vs : List Value} {fs : List Fault} (hl : h.IsList l vs.toArray) (hp : Paired (TwoAt h) vs fs) : ∃ as, Reads h (.ref l) (.list (fs.map faultData)) as := by
  obtain ⟨o, ho, hc, n, hd⟩ := hl
  obtain ⟨as, q⟩ := twos_reads hp
  exact ⟨_, reads_list_at ho hc hd (by simpa using q)⟩
theorem fault_lay {f : Fault} (g : goodF f) : (faultData f).canLay0 = true ∧ (faultData f).depth ≤ 5 := by
  have h1 := parts_lay g.1.2
  have h2 := parts_lay g.2.2
  have a1 := h1.2
  have a2 := h2.2
  simp only [faultData, PyData.canLay0, PyData.canLayAll0, PyData.depth, PyData.depthAll, h1.1, h2.1, Bool.and_self, true_and]
  omega
theorem faults_lay : ∀ {fs : List Fault}, (∀ f ∈ fs, goodF f) → PyData.canLayAll0 (fs.map faultData) = true ∧ PyData.depthAll (fs.map faultData) ≤ 5
  | [], _ => by simp [PyData.canLayAll0, PyData.depthAll]
  | f :: fs, h => by
    have h1 := fault_lay (h f (.head _))
    have h2 := faults_lay fun g hg => h g (.tail _ hg)
    have a1 := h1.2
    have a2 := h2.2
    simp only [List.map_cons, PyData.canLayAll0, PyData.depthAll, h1.1, h2.1, Bool.and_self, true_and]
    omega
theorem twos_eq {prog : Program} {w : World} {A : Around} {E : Value → Shared → Prop} {s : Shared} {Q : Value → Shared → Prop} {a b : Addr} {vs ws : List Value} {fs : List Fault}
    (ha : s.heap.IsList a vs.toArray) (hb : s.heap.IsList b ws.toArray) (hp : Paired (TwoAt s.heap) vs fs) (hq : Paired (TwoAt s.heap) ws fs) (g : ∀ f ∈ fs, goodF f) (hu : A.units + 64 < cLine) (h : Q (.bool true) s) :
    wpAny (model prog w) A (compareOp .Eq (.ref a) (.ref b)) Q E s := by
  obtain ⟨as, ra⟩ := list_reads ha hp
  obtain ⟨bs, rb⟩ := list_reads hb hq
  have l := faults_lay g
  have l2 := l.2
  have hs : PySem.SeqAt.shaped (.list (fs.map faultData)) = true := by
    unfold PySem.SeqAt.shaped
    simp only [PyData.canLay0, PyData.depth, l.1, Bool.true_and]
    exact decide_eq_true (by omega)
  refine eq_dataH ra rb hs hs hu ?_
  rw [PySem.SeqAt.eqv_refl _ (by simp only [PyData.canLay0, l.1])]
  exact h
end Mine

namespace Mine
local macro_rules | `(tactic| walk_at "my pad 0") => `(tactic| skip)
local macro_rules | `(tactic| walk_at "my pad 1") => `(tactic| skip)
local macro_rules | `(tactic| walk_at "my pad 2") => `(tactic| skip)
local macro_rules | `(tactic| walk_at "my pad 3") => `(tactic| skip)
local macro_rules | `(tactic| walk_at "my pad 4") => `(tactic| skip)
local macro_rules | `(tactic| walk_at "my pad 5") => `(tactic| skip)
local macro_rules | `(tactic| walk_at "my pad 6") => `(tactic| skip)
local macro_rules | `(tactic| walk_at "my pad 7") => `(tactic| skip)
local macro_rules | `(tactic| walk_at "my pad 8") => `(tactic| skip)
local macro_rules | `(tactic| walk_at "my pad 9") => `(tactic| skip)
local macro_rules | `(tactic| walk_at "my pad 10") => `(tactic| skip)
local macro_rules | `(tactic| walk_at "my pad 11") => `(tactic| skip)
local macro_rules | `(tactic| walk_at "my pad 12") => `(tactic| skip)
local macro_rules | `(tactic| walk_at "my pad 13") => `(tactic| skip)
local macro_rules | `(tactic| walk_at "my pad 14") => `(tactic| skip)
local macro_rules | `(tactic| walk_at "my pad 15") => `(tactic| skip)
local macro_rules | `(tactic| walk_at "my pad 16") => `(tactic| skip)
local macro_rules | `(tactic| walk_at "my pad 17") => `(tactic| skip)
local macro_rules | `(tactic| walk_at "my pad 18") => `(tactic| skip)
local macro_rules | `(tactic| walk_at "my pad 19") => `(tactic| skip)
local macro_rules | `(tactic| walk_at "my pad 20") => `(tactic| skip)
local macro_rules | `(tactic| walk_at "my pad 21") => `(tactic| skip)
local macro_rules | `(tactic| walk_at "my pad 22") => `(tactic| skip)
local macro_rules | `(tactic| walk_at "my pad 23") => `(tactic| skip)
local macro_rules | `(tactic| walk_at "my pad 24") => `(tactic| skip)
local macro_rules | `(tactic| walk_at "exec For Name Call cons nil") => `(tactic| (k_here; k_dflt (refine For_todo ?_)))
local macro_rules | `(tactic| walk_at "exec For Name Name cons nil") => `(tactic| (k_here; k_dflt (refine For_todo ?_)))
local macro_rules | `(tactic| walk_at "call builtin:len") => `(tactic| (k_here; (with_reducible show wpAny _ _ (call (Value.builtin "len") [Value.ref _]) _ _ _); k_dflt (first
  | (refine' len_list (Fr.lst (by assumption) (by assumption)) ?fit ?_; (case fit => simp only [List.size_toArray]; omega); k_whole)
  | (refine' len_tuple (Fr.tup (by assumption) (by assumption)) ?fit ?_; (case fit => simp only [List.size_toArray]; omega); k_whole)); (try simp only [List.size_toArray])))
local macro_rules | `(tactic| walk_at "my enter") => `(tactic| (
  (k_dflt (refine' enter (K := hd.heap_39 _) ?k1 ?k2 ?k6 ?k7 ?k8 ?k9 ?kB ?_ ?c2 ?c3 ?c4 ?c5; (case k1 => assumption); (case k2 => exact Top.nolimit (by assumption)); (case k6 => k_is); (case k7 => k_is); (case k8 => decide); (case k9 => exact BindsTo.of_eq rfl); (case c5 => decide); (case kB => exact locs rfl); (case c2 => exact rfl); (case c3 => exact rfl); (case c4 => exact rfl)));
  dsimp only))
local macro_rules | `(tactic| walk_at "subscriptTail Name Name ref int") => `(tactic| (k_here; k_dflt (first
  | (refine' item_list (Fr.lst (by assumption) (by assumption)) ?h0 ?hf ?hx ?_; (case h0 => omega); (case hf => omega); (case hx => assumption); k_whole)
  | (refine' item_tup_nat (Fr.tup (by assumption) (by assumption)) ?hf ?hx ?_; (case hf => omega); (case hx => assumption); k_whole))))
local macro_rules | `(tactic| walk_at "compareOp NotEq ref ref") => `(tactic| (k_here; k_dflt (
  (refine' ent_ne (EntryAt.keep ?a ?ka) (EntryAt.keep ?b ?kb) ?oa ?ob ?u ?_; (case a => assumption); (case b => assumption); (case ka => exact Ext.tup (Fr.keep (by assumption))); (case kb => exact Ext.tup (Fr.keep (by assumption))); (case oa => assumption); (case ob => assumption); (case u => k_units); k_whole))))
local macro_rules | `(tactic| walk_at "call builtin:isinstance") => `(tactic| (k_here; (with_reducible show wpAny _ _ (call (Value.builtin "isinstance") [Value.ref _, Value.type _]) _ _ _); k_dflt (first
  | (refine' isi_ti ?F ?x ?_; (case F => assumption); (case x => assumption); k_whole)
  | (refine' isi_ts ?F ?x ?_; (case F => assumption); (case x => assumption); k_whole)
  | (refine' isi_tt ?F ?x ?_; (case F => assumption); (case x => assumption); k_whole))))
local macro_rules | `(tactic| walk_at "subscriptTail Name Slice ref ref") => `(tactic| (k_here; k_dflt (refine tail_todo ?_)))
local macro_rules | `(tactic| walk_at "call ref") => `(tactic| (k_here; k_dflt (refine call_todo ?_)))
local macro_rules | `(tactic| walk_at "eval ListComp") => `(tactic| (k_here; k_dflt (refine' comp_todo ?hclos ?hkind ?hnames ?_; (case hclos => exact rfl); (case hkind => exact rfl); (case hnames => decide))))
local macro_rules | `(tactic| walk_at "my enterC") => `(tactic| (
  (k_dflt (refine' enterC (K := hd.heap_39 _) ?k1 ?k2 ?k6 ?k7 ?k8 ?k9 ?kB ?kD ?_ ?c2 ?c3 ?c4; (case k1 => assumption); (case k2 => exact Top.nolimit (by assumption)); (case k6 => k_is); (case k7 => k_is); (case k8 => decide); (case k9 => exact BindsTo.of_eq rfl); (case kB => exact rfl); (case kD => decide +kernel); (case c2 => exact rfl); (case c3 => exact rfl); (case c4 => exact rfl)));
  dsimp only))
def numsOf (sc : List Int) : List Int := (List.range 24).map fun k => sc.getD k (restL.getD k 0)
theorem numsOf_length (sc : List Int) : (numsOf sc).length = 24 := by simp [numsOf]
theorem nums_get {sc : List Int} {i : Nat} (h : i < 24) : (numsOf sc).getD i 0 = sc.getD i (restL.getD i 0) := by
  simp [numsOf, List.getD, h]
theorem nums_lo {sc : List Int} {i : Nat} (h : i < 24) (hl : i < sc.length) : sc.getD (i : Int).toNat 0 = (numsOf sc).getD i 0 := by
  rw [nums_get h, Int.toNat_natCast]; simp [List.getD, hl]
theorem nums_hi {sc : List Int} {i : Nat} (h : i < 24) (hl : ¬ i < sc.length) : restL.getD i 0 = (numsOf sc).getD i 0 := by
  rw [nums_get h]; simp [List.getD, hl]
theorem rest_item {vs : List Value} {i : Nat} (hv : IntsAre vs restL) (h : i < 24) : ∃ t, vs.toArray[((i : Nat) : Int).toNat]? = some (.int (restL.getD i 0) t) := by
  obtain ⟨t, hg⟩ := IntsAre.get hv i (restL.getD i 0) (by have : i < restL.length := h; simp [List.getD, this])
  exact ⟨t, by simpa using hg⟩
theorem fit24 {i : Nat} (h : i < 24) : (i : Int) < 2 ^ 63 := by omega
theorem ints_of {ns : List Int} : ∀ {ys : List Value}, ys.length = ns.length → (∀ i (hi : i < ys.length), ∃ t, ys[i] = .int (ns.getD i 0) t) → IntsAre ys ns := by
  induction ns with
  | nil => intro ys h _; cases ys with
    | nil => exact .nil
    | cons _ _ => simp at h
  | cons n ns ih => intro ys h k; cases ys with
    | nil => simp at h
    | cons y ys =>
      obtain ⟨t, ht⟩ := k 0 (by simp)
      have e : y = .int n t := by simpa using ht
      rw [e]
      refine IntsAre.cons n t (ih (by simpa using h) fun i hi => ?_)
      have := k (i + 1) (by simpa using hi)
      simpa using this
theorem ints_of_get {sc : List Int} {ys : List Value} (h : ys.length = 24) (k : ∀ i (hi : i < ys.length), ∃ t, ys[i] = .int ((numsOf sc).getD i 0) t) : IntsAre ys (numsOf sc) := ints_of (by rw [h, numsOf_length]) k
def AllNe (D : Nat) : List (Addr × Obj) → Prop
  | [] => True
  | p :: r => @Ne Nat p.1 D ∧ AllNe D r
theorem allNe_of {h₀ h : Heap} {L D : Addr} : ∀ {news : List (Addr × Obj)}, News h₀ L h news → h.get? D = none → AllNe D news
  | [], _, _ => trivial
  | p :: r, N, hD => by
    refine ⟨fun q => ?_, allNe_of (fun x hx => N x (.tail _ hx)) hD⟩
    have q' : p.1 = D := q
    have := (N p (.head _)).1
    rw [q', hD] at this; cases this
theorem pick_from3 (xs : List Value) : kms_pick xs (some (3 : Int)) none = xs.drop 3 := pick_from xs 3
theorem pick_upto3 (xs : List Value) : kms_pick xs none (some (3 : Int)) = xs.take 3 := pick_upto xs 3
theorem five_at (i : Nat) : (1 + 4 * (i : Int)) = ((1 + 4 * i : Nat) : Int) := by omega
def rowP (ns : List Int) (ks : Nat → List Int) : List (List Part) := (List.range 5).map fun i => pathP ns (ks i) (1 + 4 * i)
theorem rowP_at {h : Heap} {ns : List Int} {ks : Nat → List Int} {ys : List Value} (hl : ys.length = 5) (hR : ∀ i (hi : i < ys.length), PathAt h ys[i] (pathP ns (ks i) (1 + 4 * i))) : Paired (PathAt h) ys (rowP ns ks) := by
  refine paired_of (by simp [rowP, hl]) fun i hi hi' => ?_
  simp only [rowP, List.getElem_map, List.getElem_range]
  exact hR i hi
def cellsL (n : Nat) : List Addr := [n + 1 + 1 + 1 + 1 + 1 + 1 + 1, n + 1 + 1 + 1 + 1 + 1 + 1, n + 1 + 1 + 1 + 1 + 1, n + 1 + 1 + 1 + 1, n + 1 + 1 + 1, n + 1 + 1, n + 1]
def IsCellAt (h : Heap) (a : Addr) : Prop := ∃ o v, h.get? a = some o ∧ o.data = .cell v
theorem cells_at {h : Heap} {n : Nat} (h7 : IsCellAt h (n + 1 + 1 + 1 + 1 + 1 + 1 + 1)) (h6 : IsCellAt h (n + 1 + 1 + 1 + 1 + 1 + 1)) (h5 : IsCellAt h (n + 1 + 1 + 1 + 1 + 1)) (h4 : IsCellAt h (n + 1 + 1 + 1 + 1)) (h3 : IsCellAt h (n + 1 + 1 + 1)) (h2 : IsCellAt h (n + 1 + 1)) (h1 : IsCellAt h (n + 1)) :
    ∀ a ∈ cellsL n, IsCellAt h a := by
  intro a ha
  simp only [cellsL, List.mem_cons, List.not_mem_nil, or_false] at ha
  rcases ha with rfl | rfl | rfl | rfl | rfl | rfl | rfl <;> assumption
theorem cell_of {h₀ h : Heap} {L a : Addr} {o : Obj} {v : Option Value} {news : List (Addr × Obj)} (N : News h₀ L h news) (hm : (a, o) ∈ news) (hd : o.data = .cell v) : IsCellAt h a := ⟨o, v, (N _ hm).1, hd⟩
theorem tup_ex {h₀ h h' : Heap} {L : Addr} {m' : Str → Option Value} {ex : List Addr} {tl news : List (Addr × Obj)} (Z : Froz h₀ L ex tl h) (hx : ∀ a ∈ ex, IsCellAt h a) (F' : Fr h₀ L h' m') (N' : News h₀ L h' news) (hs : ∀ p ∈ tl, p ∈ news) : TupKeep h h' := by
  intro a o vs n e c d
  by_cases ha : a ∈ ex
  · obtain ⟨o', v, ho, hv⟩ := hx a ha
    rw [ho] at e; cases e
    rw [hv] at d; cases d
  · exact Z.skN F' N' hs a o vs n e d ha
local macro_rules | `(tactic| walk_at "binaryOp Add ref ref") => `(tactic| (k_here; k_dflt (refine' add_lits ?F ?N ?a ?b ?z ?_; (case F => k_asm); (case N => k_asm); (case a => exact News.isList (by assumption) (by k_mem)); (case b => exact News.isList (by assumption) (by k_mem)); (case z => simp only [List.length_append, List.length_take, List.length_drop, List.length_cons, List.length_nil]; omega)); intro D' h' F' N' l1; (try k_lt l1)))
theorem tup_loop {ex : List Addr} {h h' : Heap} (k : Sk ex h h') (hx : ∀ a ∈ ex, ∀ o, h.get? a = some o → ∀ vs n, o.data = .seq vs n → o.cls ≠ .type "tuple") : TupKeep h h' := by
  intro a o vs n e c d
  by_cases ha : a ∈ ex
  · exact absurd c (hx a ha o e vs n d)
  · exact k a o vs n e d ha
theorem news_kp' {h₀ h h' : Heap} {L : Addr} {ex : List Addr} {a : List (Addr × Obj)} (N : News h₀ L h a) (K : Kp L ex h h') (off : OwnOff a ex) : News h₀ L h' a := fun p hp => ⟨K _ _ (N p hp).1 (N p hp).2.1 (fun q => off p hp _ q rfl), (N p hp).2⟩
def kindsOf (rs : List Int) (at_ : Nat) : List Int := (List.range 3).map fun k => ((rs.getD (at_ + 1 + k) 0).fdiv 2).fmod 3
theorem kindsOf_length (rs : List Int) (at_ : Nat) : (kindsOf rs at_).length = 3 := by simp [kindsOf]
theorem kindsOf_get {rs : List Int} {at_ k : Nat} (h : k < 3) : (kindsOf rs at_).getD k 0 = ((rs.getD (at_ + 1 + k) 0).fdiv 2).fmod 3 := by simp [kindsOf, List.getD, h]
theorem list_not_tup {h₀ h : Heap} {L a : Addr} {xs : Array Value} {n : Nat} {news : List (Addr × Obj)} (N : News h₀ L h news) (hm : (a, W.listOf xs n) ∈ news) : ∀ o, h.get? a = some o → ∀ vs n, o.data = .seq vs n → o.cls ≠ .type "tuple" := by
  intro o ho vs k _ q
  rw [(N _ hm).1] at ho; cases ho
  exact absurd (Value.type.inj q) (by decide)
theorem cell_not_tup {h₀ h : Heap} {L a : Addr} {o' : Obj} {v : Option Value} {news : List (Addr × Obj)} (N : News h₀ L h news) (hm : (a, o') ∈ news) (hd : o'.data = .cell v) : ∀ o, h.get? a = some o → ∀ vs n, o.data = .seq vs n → o.cls ≠ .type "tuple" := by
  intro o ho vs k e _
  rw [(N _ hm).1] at ho; cases ho
  rw [hd] at e; cases e
theorem two_off {h : Heap} {a b : Addr} (ha : ∀ o, h.get? a = some o → ∀ vs n, o.data = .seq vs n → o.cls ≠ .type "tuple") (hb : ∀ o, h.get? b = some o → ∀ vs n, o.data = .seq vs n → o.cls ≠ .type "tuple") : ∀ x ∈ [a, b], ∀ o, h.get? x = some o → ∀ vs n, o.data = .seq vs n → o.cls ≠ .type "tuple" := by
  intro x hx
  simp only [List.mem_cons, List.not_mem_nil, or_false] at hx
  rcases hx with rfl | rfl <;> assumption
theorem rowP_take {ns : List Int} {ks : Nat → List Int} {i : Nat} (h : i < 5) : (rowP ns ks).take (i + 1) = (rowP ns ks).take i ++ [pathP ns (ks i) (1 + 4 * i)] := by
  have hl : i < (rowP ns ks).length := by simpa [rowP] using h
  rw [List.take_add_one, List.getElem?_eq_getElem hl]; simp [rowP]
theorem sub2 {α : Type} {a b : α} {l : List α} (ha : a ∈ l) (hb : b ∈ l) : ∀ p ∈ [a, b], p ∈ l := by
  intro p hp
  simp only [List.mem_cons, List.not_mem_nil, or_false] at hp
  rcases hp with rfl | rfl <;> assumption
theorem off22 {a b x y : Addr} {o o' : Obj} (h1 : a ≠ x) (h2 : a ≠ y) (h3 : b ≠ x) (h4 : b ≠ y) : OwnOff [(a, o), (b, o')] [x, y] := by
  intro p hp q hq
  simp only [List.mem_cons, List.not_mem_nil, or_false] at hp hq
  rcases hp with rfl | rfl <;> rcases hq with rfl | rfl <;> assumption
theorem at_k (i k : Nat) : ((((1 + 4 * i : Nat) : Int) + 1 + (k : Int))).toNat = 1 + 4 * i + 1 + k := by omega
theorem kint {rs : List Int} {i k : Nat} (h : k < 3) : ((rs.getD (1 + 4 * (i : Int) + 1 + (k : Int)).toNat 0).fdiv 2).fmod 3 = (kindsOf rs (1 + 4 * i)).getD k 0 := by
  rw [kindsOf_get h]
  have : (1 + 4 * (i : Int) + 1 + (k : Int)).toNat = 1 + 4 * i + 1 + k := by omega
  rw [this]
theorem off_one {h : Heap} {a : Addr} (ha : ∀ o, h.get? a = some o → ∀ vs n, o.data = .seq vs n → o.cls ≠ .type "tuple") : ∀ x ∈ [a], ∀ o, h.get? x = some o → ∀ vs n, o.data = .seq vs n → o.cls ≠ .type "tuple" := by
  intro x hx
  rw [List.mem_singleton.mp hx]; exact ha
theorem sub3 {α : Type} {a b c : α} {l : List α} (ha : a ∈ l) (hb : b ∈ l) (hc : c ∈ l) : ∀ p ∈ [a, b, c], p ∈ l := by
  intro p hp
  simp only [List.mem_cons, List.not_mem_nil, or_false] at hp
  rcases hp with rfl | rfl | rfl <;> assumption
theorem sub5 {α : Type} {a b c d e : α} {l : List α} (ha : a ∈ l) (hb : b ∈ l) (hc : c ∈ l) (hd : d ∈ l) (he : e ∈ l) : ∀ p ∈ [a, b, c, d, e], p ∈ l := by
  intro p hp
  simp only [List.mem_cons, List.not_mem_nil, or_false] at hp
  rcases hp with rfl | rfl | rfl | rfl | rfl <;> assumption
theorem off32 {a b c x y : Addr} {o o' o'' : Obj} (h1 : a ≠ x) (h2 : a ≠ y) (h3 : b ≠ x) (h4 : b ≠ y) (h5 : c ≠ x) (h6 : c ≠ y) : OwnOff [(a, o), (b, o'), (c, o'')] [x, y] := by
  intro p hp q hq
  simp only [List.mem_cons, List.not_mem_nil, or_false] at hp hq
  rcases hp with rfl | rfl | rfl <;> rcases hq with rfl | rfl <;> assumption
theorem in_five {α : Type} {a b c d e : α} {l l' : List α} : ∀ p ∈ l, p ∈ a :: b :: c :: d :: e :: (l ++ l') := fun _ h => .tail _ (.tail _ (.tail _ (.tail _ (.tail _ (List.mem_append_left _ h)))))
theorem in_five' {α : Type} {a b c d e : α} {l l' : List α} : ∀ p ∈ l', p ∈ a :: b :: c :: d :: e :: (l ++ l') := fun _ h => .tail _ (.tail _ (.tail _ (.tail _ (.tail _ (List.mem_append_right _ h)))))
theorem news_two {h₀ h : Heap} {L : Addr} {p q : Addr × Obj} {news : List (Addr × Obj)} (N : News h₀ L h news) (hp : p ∈ news) (hq : q ∈ news) : News h₀ L h [p, q] := news_sub N (sub2 hp hq)
local macro_rules | `(tactic| walk_at "eval ListComp") => `(tactic| (k_here; (with_reducible show wpAny _ _ (eval (PySem.Expr.ListComp _ [_, _] _ _) _) _ _ _); k_dflt (refine' comp2_todo ?hclos ?hkind ?hnames ?_; (case hclos => exact rfl); (case hkind => exact rfl); (case hnames => decide))))
theorem path_good (ns ks : List Int) (a : Nat) : good (pathP ns ks a) := by
  obtain ⟨b, hb, hb4⟩ := fmod_nat (ns.getD a 0) (show (0 : Int) < 4 by omega)
  refine ⟨by simp only [pathP, List.length_map, List.length_range, hb]; omega, fun p hp => ?_⟩
  obtain ⟨i, _, rfl⟩ := List.mem_map.mp hp
  exact placeP_ok _ _
theorem rowP_good {ns : List Int} {ks : Nat → List Int} : ∀ x ∈ rowP ns ks, good x := by
  intro x hx
  obtain ⟨i, _, rfl⟩ := List.mem_map.mp hx
  exact path_good _ _ _
theorem rowP_length (ns : List Int) (ks : Nat → List Int) : (rowP ns ks).length = 5 := by simp [rowP]
theorem not_lt5 {n : Int} {l : Nat} (h : (l : Int) ≤ n) (hl : l = 5) : ¬ n < 5 := by omega
def twosP (r : List (List Part)) : List Fault := (List.range 10).map fun a => (r.getD (a / 2) [], r.getD ((2 * (a / 2) + a % 2) % 5) [])
def Wall : Prop := True
theorem wall : Wall := trivial
theorem fault_in {L D C I x dx : Addr} {h h' X : Heap} {es : List DictEntry} {n : Nat} {d c : Value} {f : Fault} (tri : Tri D C I h) (hL : h.get? L ≠ none) (e : Ext h h') (hx : h.get? x = none) (hdx : h.get? dx = none) (gx : h'.get? x = some (instObj 101 dx)) (gd : h'.get? dx = some (dictOf es n))
    (g1 : getL (Str.ofString "document_path") es = some (some d)) (g2 : getL (Str.ofString "schema_path") es = some (some c)) (p1 : PathAt h d f.1) (p2 : PathAt h c f.2) (K : K3 D C I h' X) : FaultIn L X (.ref x) f := by
  have hD : h.get? D ≠ none := by obtain ⟨_, _, q⟩ := tri.list; rw [q]; exact fun q => nomatch q
  have hC : h.get? C ≠ none := by obtain ⟨_, _, _, _, q, _⟩ := tri.ns; rw [q]; exact fun q => nomatch q
  have hI : h.get? I ≠ none := by obtain ⟨_, _, q, _⟩ := tri.iter; rw [q]; exact fun q => nomatch q
  have ne : ∀ {a b : Addr}, h.get? a = none → h.get? b ≠ none → a ≠ b := fun ha hb q => hb (q ▸ ha)
  have k := K.tup (tri.ext e)
  exact ⟨x, dx, es, n, d, c, rfl, ne hdx hL, K _ _ gx (ne hx hD) (ne hx hC) (ne hx hI), K _ _ gd (ne hdx hD) (ne hdx hC) (ne hdx hI), g1, g2, (p1.keep (Ext.tup e)).keep k, (p2.keep (Ext.tup e)).keep k⟩
def NewTupTodo (prog : Program) (w : World) (A : Around) (vs : List Value) (Q : Value → Shared → Prop) (s : Shared) : Prop := wpAny (model prog w) A (newTuple vs) Q (fun _ _ => False) s
theorem newtup_todo {prog : Program} {w : World} {A : Around} {vs : List Value} {Q : Value → Shared → Prop} {s : Shared} (h : NewTupTodo prog w A vs Q s) : wpAny (model prog w) A (newTuple vs) Q (fun _ _ => False) s := h
local macro_rules | `(tactic| walk_at "subscriptTail Name Name ref int") => `(tactic| (k_here; (rename Wall => hw'); k_dflt (refine tail_todo ?_)))
local macro_rules | `(tactic| walk_at "newTuple") => `(tactic| (k_here; k_dflt (refine newtup_todo ?_)))
local macro_rules | `(tactic| walk_at "subscriptTail Name BinOp ref int") => `(tactic| (k_here; (with_reducible show wpAny _ _ (subscriptTail _ (PySem.Expr.BinOp _ PySem.Operator.Mod _ _) _ _) _ _ _); k_dflt (refine tail_todo ?_)))
theorem mod5 {i j : Nat} : (2 * (i : Int) + (j : Int)).fmod 5 = (((2 * i + j) % 5 : Nat) : Int) := by
  rw [Int.fmod_eq_emod_of_nonneg _ (by omega)]; omega
theorem item_nat {zs : List Value} {i : Nat} {v : Value} {x : Int} (e : x = (i : Int)) (h : zs[i]? = some v) : zs.toArray[x.toNat]? = some v := by subst e; simpa using h
theorem nat_fits {i : Nat} {x : Int} (e : x = (i : Int)) (h : i < 100) : 0 ≤ x ∧ x < 2 ^ 63 := by omega
theorem twosP_length (r : List (List Part)) : (twosP r).length = 10 := by simp [twosP]
theorem twos_get {r : List (List Part)} {i j : Nat} (hi : i < 5) (hj : j < 2) : (twosP r).getD (i * 2 + j) ([], []) = (r.getD i [], r.getD ((2 * i + j) % 5) []) := by
  have h1 : i * 2 + j < 10 := by omega
  have h2 : (i * 2 + j) / 2 = i := by omega
  have h3 : (i * 2 + j) % 2 = j := by omega
  simp [twosP, List.getD, h1, h2, h3]
theorem two_at {h₁ h : Heap} {r : List (List Part)} {i j : Nat} {v1 v2 : Value} (hi : i < 5) (hj : j < 2) (hr : r.length = 5) (h1 : i < r.length) (h2 : (2 * i + j) % 5 < r.length) (p1 : PathAt h₁ v1 r[i]) (p2 : PathAt h₁ v2 r[(2 * i + j) % 5]) (x : Ext h₁ h) :
    TwoAt (h.push { cls := .type "tuple", data := .seq [v1, v2].toArray }) (.ref h.objs.size) ((twosP r).getD (i * 2 + j) ([], [])) := by
  rw [twos_get hi hj]
  have e1 : r.getD i [] = r[i] := by simp [List.getD, h1]
  have e2 : r.getD ((2 * i + j) % 5) [] = r[(2 * i + j) % 5] := by simp [List.getD, h2]
  rw [e1, e2]
  have k : TupKeep h₁ (h.push { cls := .type "tuple", data := .seq [v1, v2].toArray }) := Ext.tup fun a o e => Heap.get?_push_of_some _ (x a o e)
  exact ⟨_, v1, v2, rfl, ⟨_, Heap.get?_push_size _ rfl, rfl, _, rfl⟩, p1.keep k, p2.keep k⟩
theorem twos_at {h : Heap} {us : List Value} {fs : List Fault} (hl : us.length = fs.length) (hR : ∀ i (hi : i < us.length), TwoAt h us[i] (fs.getD i ([], []))) : Paired (TwoAt h) us fs := by
  refine paired_of hl fun i hi hi' => ?_
  have := hR i hi
  simpa [List.getD, hi'] using this
theorem fr_heap {h₀ h' h : Heap} {L : Addr} {m : Str → Option Value} (F : Fr h₀ L h m) (x : Ext h' h) : Ext h' h := x
def EltPost2 (s₁ : Shared) (h : Heap) (R : Heap → Value → Prop) (y : Value) (s₄ : Shared) : Prop := ∃ h' tk', s₄ = { s₁ with heap := h', toks := tk' } ∧ Ext h h' ∧ R h' y
def IterPost (s₁ : Shared) (h : Heap) (b2 : Int) (v : Value) (s₄ : Shared) : Prop := ∃ r2 h' tk' t0 u0 v0, v = .ref r2 ∧ s₄ = { s₁ with heap := h', toks := tk' } ∧ Ext h h' ∧ IsRange h' r2 0 b2 1 t0 u0 v0
def EltPost (s₁ : Shared) (h : Heap) (D C I : Addr) (R : Heap → Value → Prop) (y : Value) (s₄ : Shared) : Prop := ∃ h' tk', s₄ = { s₁ with heap := h', toks := tk' } ∧ Ext h h' ∧ ∀ X, K3 D C I h' X → R X y
theorem PlainList.get {h : Heap} {a : Addr} {xs : Array Value} (x : h.PlainList a xs) : ∃ n, h.get? a = some (W.listOf xs n) := x
theorem news_new {h₀ h h' : Heap} {L D : Addr} {m : Str → Option Value} {xs : Array Value} (F : Fr h₀ L h m) (hD : h.get? D = none) (hl : h'.PlainList D xs) : ∃ n, News h₀ L h' [(D, W.listOf xs n)] := by
  obtain ⟨n, e⟩ := hl
  refine ⟨n, fun p hp => ?_⟩
  rw [List.mem_singleton.mp hp]
  refine ⟨e, fun q => ?_, ?_⟩
  · obtain ⟨o, es, k, ho, _⟩ := F.ns
    have q' : D = L := q
    rw [q', ho] at hD; cases hD
  · show h₀.get? D = none
    cases z : h₀.get? D with
    | none => rfl
    | some o => rw [F.keep _ _ z] at hD; cases hD
theorem comp_after {h₀ h h' : Heap} {L D : Addr} {m : Str → Option Value} {xs : Array Value} {news mu : List (Addr × Obj)} (F : Fr h₀ L h m) (N : News h₀ L h news) (x : Ext h h') (hD : h.get? D = none) (hl : h'.PlainList D xs) (ex : List Addr) :
    ∃ n tl, Fr h₀ L h' m ∧ News h₀ L h' ((D, W.listOf xs n) :: (news ++ tl)) ∧ Froz h₀ L ex tl h' := by
  obtain ⟨n, N₁⟩ := news_new F hD hl
  have F' := F.keeps x
  obtain ⟨tl, N₂, Z⟩ := freeze ex F'
  exact ⟨n, tl, F', news_app N₁ (news_app (news_ext N x) N₂), Z⟩
theorem tup_of {h₀ h h' : Heap} {L : Addr} {m m' : Str → Option Value} {mu tl news : List (Addr × Obj)} (Z : Froz h₀ L (mu.map (·.1)) tl h) (N : News h₀ L h mu) (hc : ∀ p ∈ mu, ∃ v, p.2.data = .cell v) (F' : Fr h₀ L h' m') (N' : News h₀ L h' news) (hs : ∀ p ∈ tl, p ∈ news) : TupKeep h h' := by
  intro a o vs n e c d
  by_cases ha : a ∈ mu.map (·.1)
  · obtain ⟨p, hp, rfl⟩ := List.mem_map.mp ha
    obtain ⟨v, hv⟩ := hc p hp
    rw [(N p hp).1] at e; cases e
    rw [hv] at d; cases d
  · exact Z.skN F' N' hs a o vs n e d ha
local macro_rules | `(tactic| walk_at "subscriptTail Call Name nil nil Name ref int") => `(tactic| (k_here; k_dflt (refine tail_todo ?_)))
local macro_rules | `(tactic| walk_at "exec Assign cons ListComp") => `(tactic| (k_here; k_dflt (first | refine wpAny_Assign_Name ?_ | (refine' asg_todo ?aaS ?aaC ?aaK ?aaN ?_; (case aaS => with_unfolding_all rfl); (case aaC => exact rfl); (case aaK => exact rfl); (case aaN => decide)))))
theorem getD_or {α : Type} (r : List (List α)) (i : Nat) : r.getD i [] ∈ r ∨ r.getD i [] = [] := by
  by_cases h : i < r.length
  · left
    have : r.getD i [] = r[i] := by simp [List.getD, h]
    rw [this]; exact List.getElem_mem h
  · right
    simp [List.getD, List.getElem?_eq_none (Nat.not_lt.mp h)]
theorem kindly_nil (ks : List Nat) : kindly ks [] := ⟨ks, rfl⟩
theorem good_nil : good [] := ⟨by simp, fun p hp => nomatch hp⟩
theorem kindly_path (ns ks : List Int) (a : Nat) (h : ks.length = 3) : kindly (ks.map kindOf) (pathP ns ks a) := by
  obtain ⟨b, hb, hb4⟩ := fmod_nat (ns.getD a 0) (show (0 : Int) < 4 by omega)
  have hb3 : b ≤ 3 := by omega
  refine ⟨(ks.map kindOf).drop b, ?_⟩
  have e : (pathP ns ks a).map Part.kind = (ks.map kindOf).take b := by
    simp only [pathP, hb, Int.toNat_natCast, List.map_map]
    refine List.ext_getElem (by simp; omega) fun i h1 h2 => ?_
    have hi : i < ks.length := by simp at h2; omega
    simp only [List.getElem_map, List.getElem_range, Function.comp_apply, placeP_kind, List.getElem_take]
    simp [List.getD, hi]
  rw [e, List.take_append_drop]
theorem twosP_mem {r : List (List Part)} {f : Fault} (h : f ∈ twosP r) : (f.1 ∈ r ∨ f.1 = []) ∧ (f.2 ∈ r ∨ f.2 = []) := by
  obtain ⟨i, _, rfl⟩ := List.mem_map.mp h
  exact ⟨getD_or _ _, getD_or _ _⟩
theorem row_kindly {ns ks : List Int} (h : ks.length = 3) {x : List Part} (hx : x ∈ rowP ns (fun _ => ks) ∨ x = []) : kindly (ks.map kindOf) x := by
  rcases hx with hx | rfl
  · obtain ⟨i, _, rfl⟩ := List.mem_map.mp hx
    exact kindly_path _ _ _ h
  · exact kindly_nil _
theorem row_good {ns : List Int} {ks : Nat → List Int} {x : List Part} (hx : x ∈ rowP ns ks ∨ x = []) : good x := by
  rcases hx with hx | rfl
  · exact rowP_good x hx
  · exact good_nil
theorem twos_good {ns : List Int} {ks : Nat → List Int} : ∀ f ∈ twosP (rowP ns ks), goodF f := fun f hf => ⟨row_good (twosP_mem hf).1, row_good (twosP_mem hf).2⟩
theorem twos_flt {ns ks : List Int} (h : ks.length = 3) : ∀ f ∈ twosP (rowP ns fun _ => ks), ∀ g ∈ twosP (rowP ns fun _ => ks), fLt f g = fLe f g := by
  intro f hf g hg
  have f1 := row_kindly h (twosP_mem hf).1
  have f2 := row_kindly h (twosP_mem hf).2
  have g1 := row_kindly h (twosP_mem hg).1
  have g2 := row_kindly h (twosP_mem hg).2
  unfold fLt fLe
  split
  · exact cmp_le _ _ (kindly_turn f2 g2)
  · exact cmp_le _ _ (kindly_turn f1 g1)
theorem cell_nt {h : Heap} {a : Addr} (x : IsCellAt h a) : ∀ o, h.get? a = some o → ∀ vs n, o.data = .seq vs n → o.cls ≠ .type "tuple" := by
  intro o ho vs n e _
  obtain ⟨o', v, h1, h2⟩ := x
  rw [h1] at ho; cases ho
  rw [h2] at e; cases e
def EltPostL (s₁ : Shared) (h : Heap) (D C I L : Addr) (R : Heap → Value → Prop) (y : Value) (s₄ : Shared) : Prop := ∃ h' tk', s₄ = { s₁ with heap := h', toks := tk' } ∧ Ext h h' ∧ ∀ X, K3 D C I h' X → ∀ X', Kp L [] X X' → R X' y
theorem frX {h₀ hs h' X : Heap} {L D C I : Addr} {m : Str → Option Value} (F : Fr h₀ L hs m) (hD : hs.get? D = none) (hC : hs.get? C = none) (hI : hs.get? I = none) (e : Ext hs h') (K : K3 D C I h' X) : Fr h₀ L X m := by
  have ne : ∀ {a b : Addr} {o : Obj}, hs.get? a = some o → hs.get? b = none → a ≠ b := fun ha hb q => by rw [q, hb] at ha; cases ha
  have up : ∀ a o, hs.get? a = some o → X.get? a = some o := fun a o ha => K a o (e a o ha) (ne ha hD) (ne ha hC) (ne ha hI)
  exact F.keeps up
theorem item_pair {prog : Program} {w : World} {A : Around} {E : Value → Shared → Prop} {s : Shared} {value slice : Expr} {t : Addr} {items : Array Value} {k : Int} {j : Nat} {u : Tok} {x : Value} {Q : Value → Shared → Prop} (ht : IsTup s.heap t items)
    (hlo : -(2 ^ 63) ≤ k) (hhi : k < 2 ^ 63) (hj : seqIndex? k items.size = some j) (hx : items[j]? = some x) (h : Q x s)
    (hs : subscripted slice false (.ref t) (.int k u) = operate [.ref t, .int k u] (getItem (.ref t) (.int k u)) := by with_unfolding_all rfl) :
    wpAny (model prog w) A (subscriptTail value slice (.ref t) (.int k u)) Q E s :=
  tail_any ht.typeIs slot_tuple_getitem.lookup (getItem_tuple ht hlo hhi hj hx h) hs
local macro_rules | `(tactic| walk_at "call builtin:sorted") => `(tactic| (k_here; k_dflt (refine call_todo ?_)))
local macro_rules | `(tactic| walk_at "getAttr ref") => `(tactic| (k_here; k_dflt (refine' get_own ?gk1 ?gk2 ?gk3 ?gk4 ?gk5 ?gk6 ?gk7 ?gk8 ?gk9 ?_; (case gk1 => k_asm); (case gk2 => k_asm); (case gk3 => assumption); (case gk4 => k_is); (case gk5 => k_is); (case gk6 => k_is); (case gk7 => k_is); (case gk8 => assumption); (case gk9 => k_handed); k_whole)))
local macro_rules | `(tactic| walk_at "subscriptTail Subscript") => `(tactic| (k_here; (rename Wall => hw'); (with_reducible show wpAny _ _ (subscriptTail (PySem.Expr.Subscript _ _ _) (PySem.Expr.Constant _ _ _) _ _) _ _ _); k_dflt (refine tail_todo ?_)))
set_option maxHeartbeats 0 in
theorem law_holds : PySem.Challenge.rw_az6001_01.Holds := by
  refine hd ?_
  k_go0
  all_goals try k_fold
  (rename Top _ _ _ _ _ _ => T)
  (rename IntsAre _ _ => hI)
  (rename Frag.In _ _ => KX)
  (rename ReadsAll _ _ _ _ => hra)
  (rename Heap.IsList _ _ _ => hL)
  (rename Fr _ _ _ _ => F)
  (rename Shared => s₁)
  (rename List Int => sc)
  (rename News _ _ _ _ => N)
  refine wpAny_mono (E := fun _ _ => False) ?_ (fun _ _ x => x) (fun _ _ e => e.elim)
  generalize bindL _ _ _ = m₀ at F
  rename_i h₁ tk₁ o7 o6 o5 o4 o3 o2 o1 d7 d6 d5 d4 d3 d2 d1 Y0
  k_steps
  (rename Fr _ _ _ _ => F₂)
  (rename News _ _ _ _ => N₂)
  (rename IsRange _ _ _ _ _ _ _ _ => hr)
  refine comp_range rfl hr (small_n (n := 24) (by omega)) (size_n (n := 24)) (by omega) (by decide) rfl rfl (fun i X y => ∃ t, y = .int ((numsOf sc).getD i 0) t) ?_ ?_
  · intro i t D C I h tk m hi hC hD hI tri hns hm keep
    refine wpAny_mono (Q := EltPost _ h D C I _) ?_ (fun _ _ x => x) (fun _ _ e => e)
    by_cases hlt : i < sc.length
    · have hlt' : (i : Int) < (sc.length : Int) := by omega
      k_steps
      exact ⟨h, _, rfl, fun a o e => e, fun X _ => ⟨_, congrArg (fun z => Value.int z _) (nums_lo hi hlt)⟩⟩
    · have hlt' : ¬ (i : Int) < (sc.length : Int) := by omega
      k_steps
      unfold CallTodo
      have hE : Ext _ h := fun a o e => keep a o (F₂.keep a o e)
      refine wpAny_ar (rest_ok (KX.keeps hE) (T.keeps hE) ?_) rfl (Nat.le_of_ble_eq_true rfl) (Nat.le_of_ble_eq_true rfl)
      intro l' vs' h₂ tk₂ x₂ hl' hv'
      have hns₂ : h₂.Ns C m := hns.at' fun o e => x₂ _ _ e
      have tri₂ := tri.ext x₂
      clear hns tri
      k_steps
      unfold TailTodo
      obtain ⟨t', hg'⟩ := rest_item hv' hi
      refine tail_any hl'.typeIs slot_list_getitem.lookup (wpAny_getItem_list (x := .int (restL.getD i 0) t') hl' (Int.natCast_nonneg i) (fit24 hi) hg' ?_) (by with_unfolding_all rfl)
      exact ⟨h₂, _, rfl, x₂, fun X _ => ⟨_, congrArg (fun z => Value.int z _) (nums_hi hi hlt)⟩⟩
  · intro D h' tk ys hD hl hlen hR x'
    obtain ⟨n₁, N₁⟩ := news_new F₂ hD hl
    have F₃ := F₂.keeps x'
    have N₃ := news_app N₁ (news_ext N₂ x')
    rw [List.singleton_append] at N₃
    have ne₁ := allNe_of N₂ hD
    simp only [AllNe, and_true] at ne₁
    clear F₂ N₂ N₁
    obtain ⟨ns, hns⟩ : ∃ ns, ns = numsOf sc := ⟨_, rfl⟩
    have hn24 : ns.length = 24 := by rw [hns]; exact numsOf_length sc
    have hin : IntsAre ys ns := by rw [hns]; exact ints_of_get hlen hR
    k_steps
    (rename Fr _ _ _ _ => F₄)
    (rename News _ _ _ _ => N₄)
    (rename IsRange _ _ _ _ _ _ _ _ => hr₂)
    generalize hp0 : ns.getD (Int.toNat 0) 0 = pk at F₄ N₄
    obtain ⟨ks, hks⟩ : ∃ ks, ks = [pk.fmod 3, (pk.fdiv 3).fmod 3, (pk.fdiv 9).fmod 3] := ⟨_, rfl⟩
    refine comp_range rfl hr₂ (small_n (n := 5) (by omega)) (size_n (n := 5)) (by omega) (by decide) rfl rfl (fun i X y => PathAt X y (pathP ns ks (1 + 4 * i))) ?_ ?_
    · intro i t D₂ C I h tk m hi hC hD₂ hI tri hns hm keep
      refine wpAny_mono (Q := EltPost _ h D₂ C I _) ?_ (fun _ _ x => x) (fun _ _ e => e)
      k_steps
      unfold CallTodo
      rw [five_at]
      have hE : Ext _ h := fun a o e => keep a o (F₄.keep a o e)
      refine wpAny_ar (path_ok (vs := ys) (ws := [_, _, _]) (ns := ns) (ks := ks) (KX.keeps hE) (T.keeps hE) (isList_ext (News.isList N₄ (by k_mem)) keep) hin (isList_ext (News.isList N₄ (by k_mem)) keep) (by rw [hks]; exact .cons _ _ (.cons _ _ (.cons _ _ .nil))) hn24 (by rw [hks]; rfl) (by omega) ?_) rfl (Nat.le_of_ble_eq_true rfl) (Nat.le_of_ble_eq_true rfl)
      intro v h₂ tk₂ x₂ hp
      exact ⟨h₂, tk₂, rfl, x₂, fun X hX => hp.keep (hX.tup (tri.ext x₂))⟩
    · intro D₂ h₅ tk₅ zs hD₂ hl₂ hlen₂ hR₂ x₅
      have hpl := rowP_at (ks := fun _ => ks) hlen₂ hR₂
      obtain ⟨n₂, N₁⟩ := news_new F₄ hD₂ hl₂
      have F₅ := F₄.keeps x₅
      have N₅ := news_app N₁ (news_ext N₄ x₅)
      rw [List.singleton_append] at N₅
      have ne₂ := allNe_of N₄ hD₂
      simp only [AllNe, and_true] at ne₂
      clear F₄ N₄ N₁
      obtain ⟨tl₅, N₆, Z₅⟩ := freeze (cellsL s₁.heap.objs.size) F₅
      have hx₅ : ∀ a ∈ cellsL s₁.heap.objs.size, IsCellAt h₅ a := cells_at (cell_of N₅ (by k_mem) (by assumption)) (cell_of N₅ (by k_mem) (by assumption)) (cell_of N₅ (by k_mem) (by assumption)) (cell_of N₅ (by k_mem) (by assumption)) (cell_of N₅ (by k_mem) (by assumption)) (cell_of N₅ (by k_mem) (by assumption)) (cell_of N₅ (by k_mem) (by assumption))
      replace N₅ := news_app N₅ N₆
      simp only [List.cons_append, List.nil_append] at N₅
      have hoff₅ := Z₅.off
      simp only [cellsL] at hoff₅
      clear N₆
      k_steps
      (rename Fr _ _ _ _ => F₆)
      (rename News _ _ _ _ => N₆)
      (unfold TailTodo; refine' kms_slice_lit ?y1F ?y1N ?y1l ?y1p ?y1q ?y1e ?_ ?y1s ?y1t ?y1z; (case y1F => assumption); (case y1N => assumption); (case y1l => exact News.isList (by assumption) (by k_mem)); (case y1p => exact IsPart.int _ _); (case y1q => exact IsPart.none); (case y1e => exact pick_from3 _); (case y1s => with_unfolding_all rfl); (case y1t => kmk_pure); (case y1z => refine size_line ?_; simp only [List.size_toArray]; omega))
      intro D₃ h₆ F₇ N₇ l₇
      k_lt l₇
      clear F₆ N₆
      k_steps
      (rename Fr _ _ _ _ => F₆)
      (rename News _ _ _ _ => N₆)
      (unfold TailTodo; refine' kms_slice_lit ?y2F ?y2N ?y2l ?y2p ?y2q ?y2e ?_ ?y2s ?y2t ?y2z; (case y2F => assumption); (case y2N => assumption); (case y2l => exact News.isList (by assumption) (by k_mem)); (case y2p => exact IsPart.none); (case y2q => exact IsPart.int _ _); (case y2e => exact pick_upto3 _); (case y2s => with_unfolding_all rfl); (case y2t => kmk_pure); (case y2z => refine size_line ?_; simp only [List.size_toArray]; omega))
      intro D₄ h₇ F₇ N₇ l₇
      k_lt l₇
      clear F₆ N₆
      k_steps
      rename_i Dr _ lA _ oR dR Dm _ lC _ _ _ h₈ tkE t1 u1 v1 hr₃ F₈ N₈ ka
      unfold ForTodo
      have hir : IntsAre (ys.drop 3 ++ ys.take 3) (ns.drop 3 ++ ns.take 3) := intsAre_append (hin.drop 3) (hin.take 3)
      have hr24 : (ns.drop 3 ++ ns.take 3).length = 24 := by simp [hn24]
      have hlenr : (ys.drop 3 ++ ys.take 3).length = 24 := by rw [IntsAre.length hir]; exact hr24
      generalize hrs : ns.drop 3 ++ ns.take 3 = rs at hir hr24
      obtain ⟨xr, hxr⟩ : ∃ xr, xr = ys.drop 3 ++ ys.take 3 := ⟨_, rfl⟩
      have hxr' : List.drop 3 ys.toArray.toList ++ List.take 3 ys.toArray.toList = xr := hxr.symm
      rw [← hxr] at hir hlenr
      try rw [hxr'] at N₈
      try rw [← hxr] at N₈
      refine for_range (mu := [(Dm, W.listOf (List.toArray []) 0), (s₁.heap.objs.size + 1 + 1 + 1 + 1 + 1 + 1, o6)]) (ex := [Dm, s₁.heap.objs.size + 1 + 1 + 1 + 1 + 1 + 1]) rfl hr₃ (small_n (n := 5) (by omega)) (size_n (n := 5)) rfl rfl F₈ (news_sub N₈ (sub2 (by k_mem) (by k_mem))) rfl
        (fun i h m mu => ∃ ws n o v, mu = [(Dm, W.listOf (List.toArray ws) n), (s₁.heap.objs.size + 1 + 1 + 1 + 1 + 1 + 1, o)] ∧ o.data = .cell v ∧ m (Str.ofString "mixed") = some (.ref Dm) ∧ Paired (PathAt h) ws ((rowP rs (fun i => kindsOf rs (1 + 4 * i))).take i)) ?_ ⟨[], 0, o6, _, rfl, d6, rfl, by rw [List.take_zero]; exact .nil⟩ ?_ ?_
      · rintro i h h' m mu ⟨ws, n, o, v, e, ho, hm, hw⟩ k
        exact ⟨ws, n, o, v, e, ho, hm, Paired.imp (fun _ _ q => q.keep k.tup0) hw⟩
      · rintro i t h tk m₁ mu₁ tl hi ⟨ws, n, o, v, rfl, ho, hm, hw⟩ K₉ _ F N Z
        replace F := fr_known [(Str.ofString "mixed", .ref Dm)] F (by simp [hm])
        have hlw : ws.length ≤ 5 := by have := paired_length hw; rw [List.length_take] at this; omega
        have NR : News s₁.heap s₁.heap.objs.size h₈ [(Dr, W.listOf xr.toArray 0), (s₁.heap.objs.size + 1 + 1 + 1 + 1 + 1, oR)] := news_sub N₈ (sub2 (by k_mem) (by k_mem))
        have NR' := news_kp' NR K₉ (off22 (by k_ne) (by k_ne) (by k_ne) (by k_ne))
        have hoff := Z.off
        have N₉ := news_app (news_sub N (a := [(Dm, W.listOf (List.toArray ws) n), (s₁.heap.objs.size + 1 + 1 + 1 + 1 + 1 + 1, o)]) (fun p hp => List.mem_append_left _ hp)) (news_app NR' (news_sub N (a := tl) (fun p hp => List.mem_append_right _ hp)))
        simp only [List.cons_append, List.nil_append] at N₉
        have hnt := two_off (list_not_tup N (.head _)) (cell_not_tup N (.tail _ (.head _)) ho)
        clear N₈ F₈ N NR NR' ka
        have hin5 : i < 5 := hi
        k_steps
        (rename Fr _ _ _ _ => F₂)
        (rename News _ _ _ _ => N₂)
        (rename IsRange _ _ _ _ _ _ _ _ => hr₄)
        refine comp_range rfl hr₄ (small_n (n := 3) (by omega)) (size_n (n := 3)) (by omega) (by decide) rfl rfl (fun k X y => ∃ t, y = .int ((kindsOf rs (1 + 4 * i)).getD k 0) t) ?_ ?_
        · intro k tk3 D₅ C I h₃ tk₃ m₃ hk hC hD₅ hI tri hns hm₃ keep
          refine wpAny_mono (Q := EltPost _ h₃ D₅ C I _) ?_ (fun _ _ x => x) (fun _ _ e => e)
          k_steps
          exact ⟨h₃, _, rfl, fun a o e => e, fun X _ => ⟨_, congrArg (fun z => Value.int z _) (kint hk)⟩⟩
        · intro D₅ h₃ tk₃ us hD₅ hl₅ hlen₅ hR₅ x₃
          obtain ⟨n₅, N₁⟩ := news_new F₂ hD₅ hl₅
          have F₃ := F₂.keeps x₃
          have N₃ := news_app N₁ (news_ext N₂ x₃)
          rw [List.singleton_append] at N₃
          have ne₃ := allNe_of N₂ hD₅
          simp only [AllNe, and_true] at ne₃
          have hiu := ints_of (ns := kindsOf rs (1 + 4 * i)) (by rw [hlen₅, kindsOf_length]) hR₅
          clear F₂ N₂ N₁
          k_steps
          unfold CallTodo
          rw [five_at]
          refine wpAny_ar (path_ok (vs := xr) (ws := us) (ns := rs) (ks := kindsOf rs (1 + 4 * i)) (KX.keeps F₃.keep) (T.keeps F₃.keep) (News.isList N₃ (by k_mem)) hir (News.isList N₃ (by k_mem)) hiu hr24 (kindsOf_length _ _) (by omega) ?_) rfl (Nat.le_of_ble_eq_true rfl) (Nat.le_of_ble_eq_true rfl)
          intro v₄ h₄ tk₄ x₄ hp
          have F₄ := F₃.keeps x₄
          obtain ⟨tl₄, N₄', Z₄⟩ := freeze [Dm] F₄
          have hoff₄ : OwnOff (tl ++ tl₄) [Dm] := fun p hp b hb => (List.mem_append.mp hp).elim (fun hp => hoff p hp b (by rw [List.mem_singleton.mp hb]; exact .head _)) (fun hp => Z₄.off p hp b hb)
          have N₄ := news_app (news_ext N₃ x₄) N₄'
          have hdm := list_not_tup (a := Dm) N₄ (.tail _ (.head _))
          simp only [List.cons_append] at N₄
          clear F₃ N₃ N₄'
          k_steps
          (rename Fr _ _ _ _ => F₅')
          (rename News _ _ _ _ => N₅')
          have hold := tup_loop (Z.skN F₅' N₅' in_five) hnt
          have hnew := tup_loop (Z₄.skN F₅' N₅' in_five') (off_one hdm)
          rw [List.push_toArray] at N₅'
          refine ⟨_, _, _, _, rfl, F₅', news_app (news_two N₅' (.tail _ (.head _)) (.tail _ (.tail _ (.head _)))) (news_sub N₅' in_five), rfl, ws ++ [v₄], _, _, _, rfl, by assumption, rfl, ?_⟩
          rw [rowP_take hin5]
          exact paired_append (Paired.imp (fun _ _ q => q.keep hold) hw) (.cons (hp.keep hnew) .nil)
      · rintro h₉ tk₉ m₁ mu₁ tl ⟨ws, n, o, v, rfl, ho, hm, hw⟩ K₉ _ F N Z
        replace F := fr_known0 [(Str.ofString "mixed", .ref Dm)] F (by simp [hm])
        have hnt := two_off (list_not_tup (a := Dm) N₈ (by k_mem)) (cell_not_tup N₈ (a := s₁.heap.objs.size + 1 + 1 + 1 + 1 + 1 + 1) (by k_mem) d6)
        have tup₈ := tup_ex Z₅ hx₅ F₈ N₈ (fun p hp => by simp [hp])
        have tup₉ := tup_loop (K₉.sk F₈) hnt
        have hpl₉ : Paired (PathAt h₉) zs (rowP ns fun _ => ks) := Paired.imp (fun _ _ q => (q.keep tup₈).keep tup₉) hpl
        obtain ⟨oP, NR, dP⟩ : ∃ o, News s₁.heap s₁.heap.objs.size h₈ [(D₂, W.listOf zs.toArray n₂), (s₁.heap.objs.size + 1 + 1 + 1 + 1, o), (s₁.heap.objs.size + 1 + 1 + 1 + 1 + 1 + 1 + 1, o7)] ∧ o.data = .cell (some (.ref D₂)) := ⟨_, news_sub N₈ (sub3 (by k_mem) (by k_mem) (by k_mem)), by assumption⟩
        have NR' := news_kp' NR K₉ (off32 (by k_ne) (by k_ne) (by k_ne) (by k_ne) (by k_ne) (by k_ne))
        have N₉ := news_app (news_sub N (a := [(Dm, W.listOf (List.toArray ws) n)]) (fun p hp => List.mem_append_left _ (by rw [List.mem_singleton.mp hp]; exact .head _))) NR'
        simp only [List.cons_append, List.nil_append] at N₉
        have neA := lC
        clear N₈ F₈ N NR NR' ka
        rw [List.take_of_length_le (by rw [rowP_length]; exact Nat.le_refl _)] at hw
        show wpAny _ _ _ _ _ _
        k_steps
        (rename Fr _ _ _ _ => F₂)
        (rename News _ _ _ _ => N₂)
        unfold CallTodo
        refine wpAny_ar (pairs_ok (KX.keeps F₂.keep) (T.keeps F₂.keep) ⟨D₂, zs, rfl, News.isList N₂ (by k_mem), hpl₉⟩ rowP_good ?_) rfl (Nat.le_of_ble_eq_true rfl) (Nat.le_of_ble_eq_true rfl)
        intro n₃ t₃ h₁₀ tk₁₀ x₁₀ hn₃
        have hn₃' := not_lt5 hn₃ (rowP_length _ _)
        have F₃ := F₂.keeps x₁₀
        have N₃ := news_ext N₂ x₁₀
        clear F₂ N₂
        k_steps
        (rename Fr _ _ _ _ => F₂)
        (rename News _ _ _ _ => N₂)
        unfold CallTodo
        refine wpAny_ar (pairs_ok (xs := rowP rs fun i => kindsOf rs (1 + 4 * i)) (KX.keeps F₂.keep) (T.keeps F₂.keep) ⟨Dm, ws, rfl, News.isList N₂ (by k_mem), Paired.imp (fun _ _ q => q.keep (Ext.tup x₁₀)) hw⟩ rowP_good ?_) rfl (Nat.le_of_ble_eq_true rfl) (Nat.le_of_ble_eq_true rfl)
        intro n₄ t₄ h₁₁ tk₁₁ x₁₁ hn₄
        have hn₄' := not_lt5 hn₄ (rowP_length _ _)
        have F₄ := F₂.keeps x₁₁
        have N₄ := news_ext N₂ x₁₁
        have hpl₁₁ : Paired (PathAt h₁₁) zs (rowP ns fun _ => ks) := Paired.imp (fun _ _ q => (q.keep (Ext.tup x₁₀)).keep (Ext.tup x₁₁)) hpl₉
        clear F₂ N₂
        k_steps
        (rename Fr _ _ _ _ => F₂)
        (rename News _ _ _ _ => N₂)
        (rename IsRange _ _ _ _ _ _ _ _ => hr₅)
        have hzl : zs.length = 5 := hlen₂
        have y₁₁ := fr_heap (h' := h₁₁) F₂ (by assumption)
        refine comp_range2 (n := 5) (k := 2) (b2 := 2) rfl hr₅ (small_n (n := 5) (by omega)) (size_n (n := 5)) (by omega) (by decide) rfl rfl rfl (by decide) (fun a X y => TwoAt X y ((twosP (rowP ns fun _ => ks)).getD a ([], []))) (fun a h h' v x k => x.keep k) (fun C x => rfl) (small_n (n := 2) (by omega)) (size_n (n := 2)) ?_ ?_ ?_
        · intro C h tk m hC hns keep
          refine wpAny_mono (Q := IterPost _ h 2) ?_ (fun _ _ x => x) (fun _ _ e => e)
          k_steps
          exact ⟨_, _, _, _, _, _, rfl, rfl, by assumption, by assumption⟩
        · intro i j ti tj C h tk m hi hj hC hns hmi hmj keep
          refine wpAny_mono (Q := EltPost2 _ h (fun X y => TwoAt X y ((twosP (rowP ns fun _ => ks)).getD (i * 2 + j) ([], [])))) ?_ (fun _ _ x => x) (fun _ _ e => e)
          obtain ⟨v1, hv1, hp1⟩ := paired_get hpl₁₁ i (by rw [rowP_length]; exact hi)
          obtain ⟨v2, hv2, hp2⟩ := paired_get hpl₁₁ ((2 * i + j) % 5) (by rw [rowP_length]; omega)
          have hlp : h.IsList D₂ zs.toArray := isList_ext (News.isList N₂ (by k_mem)) keep
          have hwall := wall
          have hx1 := item_nat (x := (i : Int)) rfl hv1
          have hx2 := item_nat mod5 hv2
          obtain ⟨hb1, hb2⟩ := nat_fits (mod5 (i := i) (j := j)) (by omega)
          k_steps
          unfold TailTodo
          refine item_list hlp (Int.natCast_nonneg i) (nat_fits (x := (i : Int)) rfl (by omega)).2 hx1 ?_
          k_steps
          unfold TailTodo
          refine item_list hlp hb1 hb2 hx2 ?_
          k_steps
          unfold NewTupTodo
          refine wpAny_newTuple ?_ (by show (2 : Nat) ≤ sizeLine; exact size_line (by omega))
          have x₉ : Ext h (h.push { cls := .type "tuple", data := .seq [v1, v2].toArray }) := fun a o e => Heap.get?_push_of_some _ e
          exact ⟨_, _, rfl, x₉, two_at hi hj (rowP_length _ _) (by rw [rowP_length]; exact hi) (by rw [rowP_length]; omega) hp1 hp2 (fun a o e => keep a o (y₁₁ a o e))⟩
        · intro D₆ h₁₂ tk₁₂ us hD₆ hl₆ hlen₆ hR₆ x₁₂
          have hfs := twos_at (fs := twosP (rowP ns fun _ => ks)) (by rw [hlen₆, twosP_length]) hR₆
          obtain ⟨fs, hfse⟩ : ∃ fs, fs = twosP (rowP ns fun _ => ks) := ⟨_, rfl⟩
          rw [← hfse] at hfs
          obtain ⟨n₆, N₁⟩ := news_new F₂ hD₆ hl₆
          have F₅ := F₂.keeps x₁₂
          have N₅ := news_app N₁ (news_ext N₂ x₁₂)
          rw [List.singleton_append] at N₅
          have ne₆ := allNe_of N₂ hD₆
          simp only [AllNe, and_true] at ne₆
          clear F₂ N₂ N₁
          obtain ⟨tl₆, N₆, Z₆⟩ := freeze [s₁.heap.objs.size + 1 + 1 + 1 + 1 + 1 + 1 + 1] F₅
          have hx₆ : IsCellAt h₁₂ (s₁.heap.objs.size + 1 + 1 + 1 + 1 + 1 + 1 + 1) := cell_of N₅ (by k_mem) (by assumption)
          replace N₅ := news_app N₅ N₆
          simp only [List.cons_append, List.nil_append] at N₅
          have hoff₆ := Z₆.off
          clear N₆
          have q2 : @Ne Nat D₂ (s₁.heap.objs.size + 1 + 1 + 1 + 1 + 1 + 1 + 1) := fun q => by rw [q] at ne₂; simp at ne₂
          have q6 : @Ne Nat D₆ (s₁.heap.objs.size + 1 + 1 + 1 + 1 + 1 + 1 + 1) := fun q => by rw [q] at ne₆; simp at ne₆
          clear ne₁ ne₂ ne₆
          clear hoff₅ hoff₆ hx₅
          refine' storeX_C ?aF ?aN ?ac ?aU ?ad ?_ ?aa ?ab
          (case aa => rfl)
          (case ab => rfl)
          (case aF => assumption)
          (case aN => assumption)
          (case ac => rfl)
          case aU => exact UpdF.tail (by k_ne) (UpdF.tail (by k_ne) (UpdF.tail (by k_ne) (UpdF.tail (by k_ne) (UpdF.head fun p hp => Z₆.off p hp _ (.head _)))))
          case ad => assumption
          intro h₁₄ o₁₄ F₁₄ N₁₄ d₁₄
          clear F₅ N₅ q2 q6
          have tup₁₄ : TupKeep h₁₂ h₁₄ := tup_loop (Z₆.skN F₁₄ N₁₄ (fun p hp => by simp [hp])) (off_one (cell_nt hx₆))
          have hfs₁₄ : Paired (TwoAt h₁₄) us fs := Paired.imp (fun _ _ q => q.keep tup₁₄) hfs
          have N₁₅ := news_sub (a := [(D₆, W.listOf us.toArray n₆), (s₁.heap.objs.size + 1 + 1 + 1 + 1 + 1 + 1 + 1, o₁₄)]) N₁₄ (fun p hp => by
            simp only [List.mem_cons, List.not_mem_nil, or_false] at hp
            rcases hp with rfl | rfl
            · exact .head _
            · exact .tail _ (.tail _ (.tail _ (.tail _ (.head _)))))
          have hLn : s₁.heap.get? s₁.heap.objs.size = none := Heap.get?_none_of_le (Nat.le_refl _)
          have hfl : fs.length = 10 := by rw [hfse, twosP_length]
          have hgood : ∀ f ∈ fs, goodF f := by rw [hfse]; exact twos_good
          have hflt : ∀ f ∈ fs, ∀ g ∈ fs, fLt f g = fLe f g := by rw [hfse]; exact twos_flt (by rw [hks]; rfl)
          clear N₁₄ tup₁₄ Z₆ hx₆ hfse hfs hR₆ hl₆ x₁₂ hD₆ y₁₁ hzl hr₅ hpl₁₁ hn₄' hn₄ hn₃' hn₃ hpl₉ dP neA tup₉ tup₈ hnt Z K₉ hw hm ho hxr' hxr hir hlenr hr24 hrs hr₃ dR lA lC l₇ hks hp0 hr₂ hpl hlen₂ hR₂ hl₂ hD₂ Z₅ hin hn24 hns hR hlen hl hD hr d1 d2 d3 d4 d5 d6 d7 Y0
          k_steps
          (rename Fr _ _ _ _ => F₂)
          (rename News _ _ _ _ => N₂)
          (rename IsRange _ _ _ _ _ _ _ _ => hr₆)
          rename_i hk₁₄
          have hfs₁₅ := Paired.imp (fun _ _ q => TwoAt.keep q (Ext.tup hk₁₄)) hfs₁₄
          refine asg_range F₂ rfl hr₆ (small_n (n := 10) (by omega)) (size_n (n := 10)) (by omega) (by decide) rfl rfl rfl rfl (fun i X y => FaultIn s₁.heap.objs.size X y (fs.getD i ([], []))) ?_ ?_
          · intro i t D₇ C I h tk m hi hC hD₇ hI tri hns hm keep
            refine wpAny_mono (Q := EltPostL _ h D₇ C I s₁.heap.objs.size _) ?_ (fun _ _ x => x) (fun _ _ e => e)
            obtain ⟨v1, hv1, hp1⟩ := paired_get hfs₁₅ i (by rw [hfl]; exact hi)
            obtain ⟨a1, d1, c1, rfl, ht1, hd1, hc1⟩ := hp1
            have hlp : h.IsList D₆ us.toArray := isList_ext (News.isList N₂ (by k_mem)) keep
            have hwall := wall
            have hx1 := item_nat (x := (i : Int)) rfl hv1
            k_steps
            unfold TailTodo
            refine item_list hlp (Int.natCast_nonneg i) (nat_fits (x := (i : Int)) rfl (by omega)).2 hx1 ?_
            have ht2 : IsTup h a1 [d1, c1].toArray := isTup_keep ht1 (Ext.tup keep)
            k_steps
            unfold TailTodo
            refine item_pair (j := 0) ht2 (by decide) (by decide) rfl rfl ?_
            k_steps
            unfold TailTodo
            refine item_list hlp (Int.natCast_nonneg i) (nat_fits (x := (i : Int)) rfl (by omega)).2 hx1 ?_
            k_steps
            unfold TailTodo
            refine item_pair (j := 1) ht2 (by decide) (by decide) rfl rfl ?_
            k_steps
            (rename Fr _ _ _ _ => F₃)
            (rename News _ _ _ _ => N₃)
            unfold NewTupTodo
            refine wpAny_newTuple ?_ (size_line (n := 0) (by omega))
            have x₉ : Ext h (h.push { cls := .type "tuple", data := .seq ([] : List Value).toArray }) := fun a o e => Heap.get?_push_of_some _ e
            obtain ⟨h₈, hh₈⟩ : ∃ h₈, h₈ = h.push { cls := .type "tuple", data := .seq ([] : List Value).toArray } := ⟨_, rfl⟩
            simp only [← hh₈] at x₉ ⊢
            have F₄ := F₃.keeps x₉
            have N₄ := news_ext N₃ x₉
            clear hh₈
            k_steps
            unfold CallTodo
            refine wpAny_ar (fault_ok (i := Value.none) (KX.keeps F₄.keep) (T.keeps F₄.keep) ?_) rfl (Nat.le_of_ble_eq_true rfl) (Nat.le_of_ble_eq_true rfl)
            intro xf dxf esf nf h₉' tk₉' x₁₀' hxf hdxf gxf gdf g1f g2f
            refine ⟨h₉', tk₉', rfl, x₉.trans x₁₀', fun X hX X' hX' => ?_⟩
            have hLs : h₈.get? s₁.heap.objs.size ≠ none := by
              obtain ⟨oL, _, _, hoL, _⟩ := F₄.ns
              rw [hoL]; exact fun q => nomatch q
            have efs : fs.getD i ([], []) = fs[i]'(by rw [hfl]; exact hi) := by simp [List.getD, hfl, hi]
            rw [efs]
            have tupk := Ext.tup (Ext.trans (show Ext _ h from keep) x₉)
            exact (fault_in (tri.ext x₉) hLs x₁₀' hxf hdxf gxf gdf g1f g2f (hd1.keep tupk) (hc1.keep tupk) hX).kp (frX F₂ hD₇ hC hI (Ext.trans (show Ext _ h from keep) (x₉.trans x₁₀')) hX) hX'
          · intro D₇ h₁₅ tk₁₅ ms hD₇ hl₇ hlen₇ hR₇ F₁₅ K₁₅
            have hms : Paired (FaultIn s₁.heap.objs.size h₁₅) ms fs := paired_of (by rw [hlen₇, hfl]) fun i hi hi' => by
              have := hR₇ i hi
              simpa [List.getD, hi'] using this
            obtain ⟨n₇, N₃⟩ := news_new F₂ hD₇ hl₇
            have hoffN : ∀ (l : List (Addr × Obj)), OwnOff l [] := fun l p hp b hb => nomatch hb
            have N₁₆ := news_app N₃ (news_kp' N₂ K₁₅ (hoffN _))
            have hfs₁₆ : Paired (TwoAt h₁₅) us fs := Paired.imp (fun _ _ q => TwoAt.keep q (Sk.tup0 (K₁₅.sk F₂))) hfs₁₅
            simp only [List.cons_append, List.nil_append] at N₁₆
            clear N₂ F₂ N₃ hfs₁₅ hfs₁₄ hR₇ hr₆ hk₁₄ K₁₅
            show wpAny _ _ _ _ _ _
            k_steps
            unfold CallTodo
            have F₁₆ : Fr s₁.heap s₁.heap.objs.size h₁₅ _ := F₁₅
            clear F₁₅
            refine sorted_ok KX T F₁₆ rfl (Nat.le_of_ble_eq_true rfl) (Nat.le_of_ble_eq_true rfl) (News.isList N₁₆ (by k_mem)) hms hgood hflt (by rw [hfl]; decide) (by rw [hfl]; decide) ?_
            intro D₈ vs₈ c₈ h₁₆ tk₁₆ F₁₇ K₁₆ N₈ hP
            have N₁₇ := news_app N₈ (news_kp' N₁₆ K₁₆ (hoffN _))
            have hfs₁₇ : Paired (TwoAt h₁₆) us fs := Paired.imp (fun _ _ q => TwoAt.keep q (Sk.tup0 (K₁₆.sk F₁₆))) hfs₁₆
            simp only [List.cons_append, List.nil_append] at N₁₇
            obtain ⟨os, hos⟩ : ∃ os, os = order fs := ⟨_, rfl⟩
            rw [← hos] at hP
            have hol : os.length = 10 := by rw [hos, (order_both fs).1.length_eq, hfl]
            have hvl := paired_length hP
            clear N₁₆ F₁₆ hms K₁₆ N₈ hfs₁₆
            refine asg_list F₁₇ rfl (News.isList N₁₇ (by k_mem)) (by omega) (by decide) rfl rfl rfl rfl (fun i X y => TwoAt X y (os.getD i ([], []))) ?_ ?_
            · intro i v D₉ C I h tk m hv hC hD₉ hI tri hns hm keep
              refine wpAny_mono (Q := EltPostL _ h D₉ C I s₁.heap.objs.size _) ?_ (fun _ _ x => x) (fun _ _ e => e)
              have hiv : i < vs₈.length := (List.getElem?_eq_some_iff.mp hv).1
              have hi : i < os.length := by omega
              obtain ⟨v', hv', hp'⟩ := paired_get hP i hi
              rw [hv] at hv'
              cases hv'
              obtain ⟨xf, dxf, esf, nf, d1, c1, rfl, hdxL, gxf, gdf, g1f, g2f, p1f, p2f⟩ := hp'
              obtain ⟨ad, vd, rfl, hp1, hp2⟩ := id p1f
              obtain ⟨ac, vc, rfl, hp3, hp4⟩ := id p2f
              have hIA : InstAt h xf (instObj 101 dxf) 101 (some (dictOf esf nf)) := ⟨keep _ _ gxf, rfl, rfl, keep _ _ gdf⟩
              have F₄ := F₁₇.keeps keep
              have N₄ := news_ext N₁₇ keep
              k_steps
              unfold NewTupTodo
              refine wpAny_newTuple ?_ (size_line (n := 2) (by omega))
              have x₉ : Ext h (h.push { cls := .type "tuple", data := .seq [Value.ref ad, Value.ref ac].toArray }) := fun a o e => Heap.get?_push_of_some _ e
              refine ⟨_, _, rfl, x₉, fun X hX X' hX' => ?_⟩
              have efs : os.getD i ([], []) = os[i]'hi := by simp [List.getD, hi]
              rw [efs]
              have tupk := Ext.tup (Ext.trans (show Ext _ h from keep) x₉)
              have t0 : TwoAt (h.push { cls := .type "tuple", data := .seq [Value.ref ad, Value.ref ac].toArray }) (.ref h.objs.size) os[i] := ⟨_, _, _, rfl, ⟨_, Heap.get?_push_size _ rfl, rfl, _, rfl⟩, p1f.keep tupk, p2f.keep tupk⟩
              exact TwoAt.keep (TwoAt.keep t0 (hX.tup (tri.ext x₉))) (Sk.tup0 (hX'.sk (frX F₁₇ hD₉ hC hI (Ext.trans (show Ext _ h from keep) x₉) hX)))
            · intro D₉ h₁₇ tk₁₇ ts hD₉ hl₉ hlen₉ hR₉ F₁₈ K₁₈
              have hts : Paired (TwoAt h₁₇) ts os := paired_of (by rw [hlen₉, hvl]) fun i hi hi' => by
                have := hR₉ i hi
                simpa [List.getD, hi'] using this
              obtain ⟨n₉, N₃⟩ := news_new F₁₇ hD₉ hl₉
              have N₁₈ := news_app N₃ (news_kp' N₁₇ K₁₈ (hoffN _))
              have hfs₁₈ : Paired (TwoAt h₁₇) us fs := Paired.imp (fun _ _ q => TwoAt.keep q (Sk.tup0 (K₁₈.sk F₁₇))) hfs₁₇
              simp only [List.cons_append, List.nil_append] at N₁₈
              clear N₃ N₁₇ F₁₇ hfs₁₇ hR₉ K₁₈ hP
              show wpAny _ _ _ _ _ _
              k_steps
              unfold CallTodo
              have F₁₉ : Fr s₁.heap s₁.heap.objs.size h₁₇ _ := F₁₈
              clear F₁₈
              refine wpAny_ar (order_ok (KX.keeps F₁₉.keep) (T.keeps F₁₉.keep) ⟨D₆, us, rfl, News.isList N₁₈ (by k_mem), hfs₁₈⟩ hgood (by omega) ?_) rfl (Nat.le_of_ble_eq_true rfl) (Nat.le_of_ble_eq_true rfl)
              intro v₉ h₁₈ tk₁₈ x₁₈ hv₉
              obtain ⟨l₉, vs₉, rfl, hl', hp'⟩ := hv₉
              rw [← hos] at hp'
              have hgo : ∀ f ∈ os, goodF f := fun f hf => hgood f ((order_both fs).1.mem_iff.mp (by rw [← hos]; exact hf))
              refine twos_eq (isList_ext (News.isList N₁₈ (by k_mem)) x₁₈) hl' (Paired.imp (fun _ _ q => TwoAt.keep q (Ext.tup x₁₈)) hts) hp' hgo (by k_units) ?_
              have F₂₀ := F₁₉.keeps x₁₈
              have N₂₀ := news_ext N₁₈ x₁₈
              clear F₁₉ N₁₈
              k_steps
end Mine

theorem PySem.Challenge.cw_az6001_01_holds : PySem.Challenge.rw_az6001_01.Holds := by
  exact Mine.law_holds
