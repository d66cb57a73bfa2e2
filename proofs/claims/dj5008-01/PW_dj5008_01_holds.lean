import PyProof.Rows.All
import Wide.All
import OpenK.AllK
import Wide.FinOn
import PySem.Challenge.RW_dj5008_01
-- W1
open PySem PySem.W PyProof.Rows
set_option Elab.async false
namespace Mine

/-- the order of two items' heads -/
def lexlt (a b : Int × Int) : Bool := decide (a.1 < b.1 ∨ (a.1 = b.1 ∧ a.2 < b.2))

/-- the heap bears at v a tuple that begins with the ints k.1, k.2 and has two more places -/
def TupAt (h : Heap) (v : Value) (k : Int × Int) : Prop :=
  ∃ a t u p q, v = .ref a ∧ IsTup h a #[.int k.1 t, .int k.2 u, p, q]

theorem TupAt.keeps {h h' : Heap} {v : Value} {k : Int × Int} (x : TupAt h v k) (hk : ∀ b o, h.get? b = some o → h'.get? b = some o) : TupAt h' v k := by
  obtain ⟨a, t, u, p, q, rfl, i⟩ := x
  exact ⟨a, t, u, p, q, rfl, i.keeps hk⟩

/-- the text of the four comparisons of tuples -/
def cmpTree (op : CmpOp) (a b : Value) : Sem PySem.Fin := do
  if !(← isInstance b (.type "tuple")) then return ← ret .notImplemented
  let xs ← Builtin.Tuple.tupleItemsOf a
  let ys ← Builtin.Tuple.tupleItemsOf b
  for (x, y) in xs.toList.zip ys.toList do
    if !(← eqBool x y) then
      match op with
      | .Eq => return ← ret (.bool false)
      | .NotEq => return ← ret (.bool true)
      | _ => rule "tuple.compare.by-the-first-pair-that-differs"; return ← ret (← richCompare op x y)
  ret (Builtin.Tuple.tupleCompareSizes op xs.size ys.size)
theorem lt_tree (a b : Value) : Builtin.«tuple.__lt__» ⟨[a, b], []⟩ = cmpTree .Lt a b := rfl
theorem gt_tree (a b : Value) : Builtin.«tuple.__gt__» ⟨[a, b], []⟩ = cmpTree .Gt a b := rfl
theorem eq_tree (a b : Value) : Builtin.«tuple.__eq__» ⟨[a, b], []⟩ = cmpTree .Eq a b := rfl
theorem ne_tree (a b : Value) : Builtin.«tuple.__ne__» ⟨[a, b], []⟩ = cmpTree .NotEq a b := rfl

/-- what an order of ints answers -/
def opInt : CmpOp → Int → Int → Bool
  | .Lt, x, y => decide (x < y)
  | .Gt, x, y => decide (x > y)
  | .NotEq, _, _ => true
  | _, _, _ => false

section
variable {prog : Program} {w : World} {A : Around} {E : Value → Shared → Prop} {s : Shared}

theorem opInt_rc {op : CmpOp} (ho : op = .Lt ∨ op = .Gt) {x y : Int} {t u : Tok} {Q : Value → Shared → Prop} (h : Q (.bool (opInt op x y)) s) :
    wpAny (model prog w) A (richCompare op (.int x t) (.int y u)) Q E s := by
  rcases ho with rfl | rfl
  · exact wpAny_lt_int h
  · exact SiftDown.gt_int h

/-- two tuples whose heads differ are compared by the first place that differs -/
theorem tupTree {op : CmpOp} (ho : op = .Lt ∨ op = .Gt ∨ op = .Eq ∨ op = .NotEq) {a b : Addr} {x y i j : Int} {t t' u u' : Tok} {p q p' q' : Value} {Q : PySem.Fin → Shared → Prop}
    (ha : IsTup s.heap a #[.int x t, .int i u, p, q]) (hb : IsTup s.heap b #[.int y t', .int j u', p', q']) (hne : x ≠ y ∨ i ≠ j)
    (h : Q (.done (.ret (.bool (if x = y then opInt op i j else opInt op x y)))) s) : wpAny (model prog w) A (cmpTree op (.ref a) (.ref b)) Q E s := by
  have hbt := hb.typeIs
  obtain ⟨oa, hoa, hca, na, hda⟩ := ha
  obtain ⟨ob, hob, hcb, nb, hdb⟩ := hb
  unfold cmpTree
  refine wpAny_bind (wpAny_isInstance hbt AutoSeq1.sub_tuple_tuple ?_)
  simp only [Bool.not_true, Bool.false_eq_true, if_false]
  refine wpAny_bind (wpAny_bind (wpAny_seqItems hoa hda (wpAny_pure ?_)))
  refine wpAny_bind (wpAny_bind (wpAny_seqItems hob hdb (wpAny_pure ?_)))
  refine wpAny_bind ?_
  simp only [List.zip_cons_cons]
  rw [List.forIn_cons]
  refine wpAny_bind (wpAny_bind (wpAny_eqBool_int ?_))
  by_cases hxy : x = y
  · subst hxy
    have hij : i ≠ j := hne.resolve_left (fun h => h rfl)
    simp only [beq_self_eq_true, Bool.not_true, Bool.false_eq_true, if_false]
    refine wpAny_pure ?_
    simp only
    rw [List.forIn_cons]
    refine wpAny_bind (wpAny_bind (wpAny_eqBool_int ?_))
    rw [show (i == j) = false by simpa using hij]
    simp only [Bool.not_false, if_true] at h ⊢
    rcases ho with rfl | rfl | rfl | rfl
    · exact wpAny_bind (wpAny_rule (wpAny_bind (opInt_rc (.inl rfl) (wpAny_bind (wpAny_pure (wpAny_pure (wpAny_pure (wpAny_pure h))))))))
    · exact wpAny_bind (wpAny_rule (wpAny_bind (opInt_rc (.inr rfl) (wpAny_bind (wpAny_pure (wpAny_pure (wpAny_pure (wpAny_pure h))))))))
    · exact (wpAny_bind (wpAny_pure (wpAny_pure (wpAny_pure (wpAny_pure h)))))
    · exact (wpAny_bind (wpAny_pure (wpAny_pure (wpAny_pure (wpAny_pure h)))))
  · rw [show (x == y) = false by simpa using hxy]
    rw [if_neg hxy] at h
    simp only [Bool.not_false, if_true] at h ⊢
    rcases ho with rfl | rfl | rfl | rfl
    · exact wpAny_bind (wpAny_rule (wpAny_bind (opInt_rc (.inl rfl) (wpAny_bind (wpAny_pure (wpAny_pure (wpAny_pure (wpAny_pure h))))))))
    · exact wpAny_bind (wpAny_rule (wpAny_bind (opInt_rc (.inr rfl) (wpAny_bind (wpAny_pure (wpAny_pure (wpAny_pure (wpAny_pure h))))))))
    · exact (wpAny_bind (wpAny_pure (wpAny_pure (wpAny_pure (wpAny_pure h)))))
    · exact (wpAny_bind (wpAny_pure (wpAny_pure (wpAny_pure (wpAny_pure h)))))

/-- the same of two values that the heap bears as such tuples -/
theorem tupRc {op : CmpOp} (ho : op = .Lt ∨ op = .Gt ∨ op = .Eq ∨ op = .NotEq) {v v' : Value} {k k' : Int × Int} {Q : Value → Shared → Prop}
    (hv : TupAt s.heap v k) (hv' : TupAt s.heap v' k') (hne : k ≠ k') (hu : A.units < cLine)
    (h : Q (.bool (if k.1 = k'.1 then opInt op k.2 k'.2 else opInt op k.1 k'.1)) s) : wpAny (model prog w) A (richCompare op v v') Q E s := by
  obtain ⟨a, t, u, p, q, rfl, ia⟩ := hv
  obtain ⟨b, t', u', p', q', rfl, ib⟩ := hv'
  have hne' : k.1 ≠ k'.1 ∨ k.2 ≠ k'.2 := by
    by_cases h1 : k.1 = k'.1
    · right; intro h2; exact hne (Prod.ext h1 h2)
    · exact .inl h1
  have T := tupTree (prog := prog) (w := w) (A := A.in1) (E := E) ho (Q := fun fin s' => ∃ v, fin = .done (.ret v) ∧ v ≠ .notImplemented ∧ Q v s') ia ib hne' ⟨_, rfl, (fun e => by cases e), h⟩
  rcases ho with rfl | rfl | rfl | rfl
  · exact wpAny_richCompare_same_room ia.typeIs ib.typeIs F.slot_tuple_lt (wpAny_call_entry F.slot_tuple_lt ia.typeIs F.entry_tuple_lt (by rw [lt_tree]; exact T) (F.args_tuple_lt_2 _ _)) hu
  · exact wpAny_richCompare_same_room ia.typeIs ib.typeIs F.slot_tuple_gt (wpAny_call_entry F.slot_tuple_gt ia.typeIs F.entry_tuple_gt (by rw [gt_tree]; exact T) (F.args_tuple_gt_2 _ _)) hu
  · exact wpAny_richCompare_same_room ia.typeIs ib.typeIs F.slot_tuple_eq (wpAny_call_entry F.slot_tuple_eq ia.typeIs F.entry_tuple_eq (by rw [eq_tree]; exact T) (F.args_tuple_eq_2 _ _)) hu
  · exact wpAny_richCompare_same_room ia.typeIs ib.typeIs F.slot_tuple_ne (wpAny_call_entry F.slot_tuple_ne ia.typeIs F.entry_tuple_ne (by rw [ne_tree]; exact T) (F.args_tuple_ne_2 _ _)) hu

/-- a tuple compared with itself -/
def opSame : CmpOp → Bool
  | .Eq => true
  | _ => false
theorem tupSelf {op : CmpOp} (ho : op = .Lt ∨ op = .Gt ∨ op = .Eq ∨ op = .NotEq) {a : Addr} {x i : Int} {t u : Tok} {p q : Value} {Q : PySem.Fin → Shared → Prop}
    (ha : IsTup s.heap a #[.int x t, .int i u, p, q]) (h : Q (.done (.ret (.bool (opSame op)))) s) : wpAny (model prog w) A (cmpTree op (.ref a) (.ref a)) Q E s := by
  have hbt := ha.typeIs
  obtain ⟨oa, hoa, hca, na, hda⟩ := ha
  unfold cmpTree
  refine wpAny_bind (wpAny_isInstance hbt AutoSeq1.sub_tuple_tuple ?_)
  simp only [Bool.not_true, Bool.false_eq_true, if_false]
  refine wpAny_bind (wpAny_bind (wpAny_seqItems hoa hda (wpAny_pure ?_)))
  refine wpAny_bind (wpAny_bind (wpAny_seqItems hoa hda (wpAny_pure ?_)))
  refine wpAny_bind ?_
  have same : ∀ (v : Value) {R : Bool → Shared → Prop}, R true s → wpAny (model prog w) A (eqBool v v) R E s := fun v R hr => by
    unfold eqBool
    refine wpAny_holding ?_
    rw [if_pos (by simp)]
    exact wpAny_bind (wpAny_rule (wpAny_pure hr))
  simp only [List.zip_cons_cons, List.zip_nil_left]
  rw [List.forIn_cons]
  refine wpAny_bind (wpAny_bind (same _ ?_))
  simp only [Bool.not_true, Bool.false_eq_true, if_false]
  refine wpAny_pure ?_
  simp only
  rw [List.forIn_cons]
  refine wpAny_bind (wpAny_bind (same _ ?_))
  simp only [Bool.not_true, Bool.false_eq_true, if_false]
  refine wpAny_pure ?_
  simp only
  rw [List.forIn_cons]
  refine wpAny_bind (wpAny_bind (same _ ?_))
  simp only [Bool.not_true, Bool.false_eq_true, if_false]
  refine wpAny_pure ?_
  simp only
  rw [List.forIn_cons]
  refine wpAny_bind (wpAny_bind (same _ ?_))
  simp only [Bool.not_true, Bool.false_eq_true, if_false]
  refine wpAny_pure ?_
  simp only
  rw [List.forIn_nil]
  refine wpAny_pure (wpAny_pure ?_)
  rcases ho with rfl | rfl | rfl | rfl <;> exact h
theorem tupRcSelf {op : CmpOp} (ho : op = .Lt ∨ op = .Gt ∨ op = .Eq ∨ op = .NotEq) {v : Value} {k : Int × Int} {Q : Value → Shared → Prop}
    (hv : TupAt s.heap v k) (hu : A.units < cLine) (h : Q (.bool (opSame op)) s) : wpAny (model prog w) A (richCompare op v v) Q E s := by
  obtain ⟨a, t, u, p, q, rfl, ia⟩ := hv
  have T := tupSelf (prog := prog) (w := w) (A := A.in1) (E := E) ho (Q := fun fin s' => ∃ v, fin = .done (.ret v) ∧ v ≠ .notImplemented ∧ Q v s') ia ⟨_, rfl, (fun e => by cases e), h⟩
  rcases ho with rfl | rfl | rfl | rfl
  · exact wpAny_richCompare_same_room ia.typeIs ia.typeIs F.slot_tuple_lt (wpAny_call_entry F.slot_tuple_lt ia.typeIs F.entry_tuple_lt (by rw [lt_tree]; exact T) (F.args_tuple_lt_2 _ _)) hu
  · exact wpAny_richCompare_same_room ia.typeIs ia.typeIs F.slot_tuple_gt (wpAny_call_entry F.slot_tuple_gt ia.typeIs F.entry_tuple_gt (by rw [gt_tree]; exact T) (F.args_tuple_gt_2 _ _)) hu
  · exact wpAny_richCompare_same_room ia.typeIs ia.typeIs F.slot_tuple_eq (wpAny_call_entry F.slot_tuple_eq ia.typeIs F.entry_tuple_eq (by rw [eq_tree]; exact T) (F.args_tuple_eq_2 _ _)) hu
  · exact wpAny_richCompare_same_room ia.typeIs ia.typeIs F.slot_tuple_ne (wpAny_call_entry F.slot_tuple_ne ia.typeIs F.entry_tuple_ne (by rw [ne_tree]; exact T) (F.args_tuple_ne_2 _ _)) hu

theorem TupAt.fn {h : Heap} {v : Value} {k k' : Int × Int} (x : TupAt h v k) (y : TupAt h v k') : k = k' := by
  obtain ⟨a, t, u, p, q, rfl, ia⟩ := x
  obtain ⟨b, t', u', p', q', e, ib⟩ := y
  cases e
  obtain ⟨o, ho, _, n, hd⟩ := ia
  obtain ⟨o', ho', _, n', hd'⟩ := ib
  rw [ho] at ho'
  cases ho'
  rw [hd] at hd'
  injection hd' with e1 e2
  obtain ⟨k1, k2⟩ := k
  obtain ⟨k1', k2'⟩ := k'
  simp only [Array.mk.injEq, List.cons.injEq, Value.int.injEq] at e1
  rw [e1.1.1, e1.2.1.1]
theorem lexlt_irrefl (k : Int × Int) : lexlt k k = false := by unfold lexlt; simp

theorem lex_lt (k k' : Int × Int) : (if k.1 = k'.1 then opInt .Lt k.2 k'.2 else opInt .Lt k.1 k'.1) = lexlt k k' := by
  unfold lexlt opInt
  split
  · rename_i h; simp [h]
  · rename_i h; simp [h]
theorem lex_gt (k k' : Int × Int) : (if k.1 = k'.1 then opInt .Gt k.2 k'.2 else opInt .Gt k.1 k'.1) = lexlt k' k := by
  unfold lexlt opInt
  split
  · rename_i h; simp [h]
  · rename_i h
    have h' : ¬ k'.1 = k.1 := fun e => h e.symm
    simp [h']

theorem tupLt {v v' : Value} {k k' : Int × Int} {Q : Value → Shared → Prop}
    (hv : TupAt s.heap v k) (hv' : TupAt s.heap v' k') (hne : v = v' ∨ k ≠ k') (hu : A.units < cLine) (h : Q (.bool (lexlt k k')) s) :
    wpAny (model prog w) A (compareOp .Lt v v') Q E s := by
  rcases hne with rfl | hne
  · rw [← hv.fn hv', lexlt_irrefl] at h
    exact tupRcSelf (op := .Lt) (.inl rfl) hv hu h
  · exact tupRc (op := .Lt) (.inl rfl) hv hv' hne hu (by rw [lex_lt]; exact h)
theorem tupGt {v v' : Value} {k k' : Int × Int} {Q : Value → Shared → Prop}
    (hv : TupAt s.heap v k) (hv' : TupAt s.heap v' k') (hne : v = v' ∨ k ≠ k') (hu : A.units < cLine) (h : Q (.bool (lexlt k' k)) s) :
    wpAny (model prog w) A (richCompare .Gt v v') Q E s := by
  rcases hne with rfl | hne
  · rw [← hv.fn hv', lexlt_irrefl] at h
    exact tupRcSelf (op := .Gt) (.inr (.inl rfl)) hv hu h
  · exact tupRc (op := .Gt) (.inr (.inl rfl)) hv hv' hne hu (by rw [lex_gt]; exact h)
theorem tupNe {v v' : Value} {k k' : Int × Int} {Q : Value → Shared → Prop}
    (hv : TupAt s.heap v k) (hv' : TupAt s.heap v' k') (hne : v = v' ∨ k ≠ k') (hu : A.units < cLine) (h : Q (.bool (v != v')) s) :
    wpAny (model prog w) A (compareOp .NotEq v v') Q E s := by
  rcases hne with rfl | hne
  · rw [bne_self_eq_false] at h
    exact tupRcSelf (op := .NotEq) (.inr (.inr (.inr rfl))) hv hu h
  · refine tupRc (op := .NotEq) (.inr (.inr (.inr rfl))) hv hv' hne hu ?_
    have e : v ≠ v' := fun e => by subst e; exact hne (hv.fn hv')
    rw [show (v != v') = true by simpa using e] at h
    unfold opInt
    simpa using h
theorem tupEqB {v v' : Value} {k k' : Int × Int} {Q : Bool → Shared → Prop}
    (hv : TupAt s.heap v k) (hv' : TupAt s.heap v' k') (hne : v = v' ∨ k ≠ k') (hu : A.units < cLine) (h : Q (v == v') s) :
    wpAny (model prog w) A (eqBool v v') Q E s := by
  unfold eqBool
  refine wpAny_holding ?_
  by_cases e : v = v'
  · subst e
    simp only [beq_self_eq_true, if_true] at h ⊢
    exact wpAny_bind (wpAny_rule (wpAny_pure h))
  · have hb : (v == v') = false := by simpa using e
    rw [hb] at h ⊢
    simp only [Bool.false_eq_true, if_false]
    have hk := hne.resolve_left e
    obtain ⟨a, t, u, p, q, rfl, ia⟩ := id hv
    obtain ⟨b, t', u', p', q', rfl, ib⟩ := id hv'
    refine wpAny_bind (tupRc (op := .Eq) (.inr (.inr (.inl rfl))) hv hv' hk hu ?_)
    have hf : (if k.1 = k'.1 then opInt .Eq k.2 k'.2 else opInt .Eq k.1 k'.1) = false := by unfold opInt; split <;> rfl
    rw [hf]
    exact wpAny_pure h
end
end Mine

-- Hd
open PySem PySem.W PyProof.Rows
set_option Elab.async false
namespace Mine
set_option maxRecDepth 100000 in
set_option maxHeartbeats 8000000 in
open_top hd for PySem.Challenge.rw_dj5008_01
end Mine

-- W2
open PySem PySem.W PyProof.Rows PySem.Calls
set_option Elab.async false
set_option maxRecDepth 100000
namespace Mine

/-- the heap bears the values of a list as items, told apart by their heads -/
def Vok (h : Heap) (κ : Value → Int × Int) (vs : List Value) : Prop :=
  (∀ v ∈ vs, TupAt h v (κ v)) ∧ ∀ u ∈ vs, ∀ v ∈ vs, u = v ∨ κ u ≠ κ v
abbrev vlt (κ : Value → Int × Int) (u v : Value) : Bool := lexlt (κ u) (κ v)

/-- _siftdown_max over a plain list -/
def sdGo (lt : Value → Value → Bool) (new : Value) (start : Nat) : Nat → Nat → List Value → List Value
  | 0, pos, vs => vs.set pos new
  | f + 1, pos, vs => if start < pos then (if lt (vs.getD ((pos - 1) / 2) .none) new then sdGo lt new start f ((pos - 1) / 2) (vs.set pos (vs.getD ((pos - 1) / 2) .none)) else vs.set pos new) else vs.set pos new


theorem sdGo_fuel {lt : Value → Value → Bool} {new : Value} {start : Nat} : ∀ {f f' pos : Nat} {vs : List Value}, pos ≤ f → pos ≤ f' → sdGo lt new start f' pos vs = sdGo lt new start f pos vs
  | 0, 0, _, _, _, _ => rfl
  | 0, f' + 1, pos, vs, h, _ => by
    obtain rfl : pos = 0 := by omega
    show (if start < 0 then _ else vs.set 0 new) = vs.set 0 new
    rw [if_neg (by omega)]
  | f + 1, 0, pos, vs, _, h => by
    obtain rfl : pos = 0 := by omega
    show vs.set 0 new = (if start < 0 then _ else vs.set 0 new)
    rw [if_neg (by omega)]
  | f + 1, f' + 1, pos, vs, h, h' => by
    show (if start < pos then _ else _) = (if start < pos then _ else _)
    by_cases hs : start < pos
    · rw [if_pos hs, if_pos hs]
      split
      · exact sdGo_fuel (by omega) (by omega)
      · rfl
    · rw [if_neg hs, if_neg hs]
theorem getD_mem {vs : List Value} {i : Nat} (h : i < vs.length) : vs.getD i .none ∈ vs := by
  simp [List.getD, h]
section
variable {prog : Program} {w : World} {A : Around} {E : Value → Shared → Prop} {s : Shared} {h₀ g : Heap} {L D : Addr} {m : Str → Option Value} {news news' : List (Addr × Obj)} {vs : List Value} {n : Nat} {k : Int} {u : Tok} {v : Value} {κ : Value → Int × Int}

theorem itemV {value slice : PySem.Expr} {Q : Value → Shared → Prop} (N : News h₀ L s.heap news) (hm : (D, listOf vs.toArray n) ∈ news) (h0 : 0 ≤ k) (h1 : k < vs.length) (hfit : vs.length ≤ 64)
    (h : Q (vs.getD k.toNat .none) s) (hs : subscripted slice false (.ref D) (.int k u) = operate [.ref D, .int k u] (getItem (.ref D) (.int k u)) := by with_unfolding_all rfl) :
    wpAny (model prog w) A (subscriptTail value slice (.ref D) (.int k u)) Q E s := by
  have hl : s.heap.IsList D vs.toArray := ⟨_, (N _ hm).1, rfl, _, rfl⟩
  have hk : k.toNat < vs.length := by omega
  refine tail_any hl.typeIs slot_list_getitem.lookup (wpAny_getItem_list (x := vs.getD k.toNat .none) hl h0 (by omega) ?_ h) hs
  simp [List.getD, hk]

theorem itemV' {value slice : PySem.Expr} {Q : Value → Shared → Prop} {i : Nat} (N : News h₀ L s.heap news) (hm : (D, listOf vs.toArray n) ∈ news) (hk : k = (i : Int)) (h1 : i < vs.length) (hfit : vs.length ≤ 64)
    (h : Q (vs.getD i .none) s) (hs : subscripted slice false (.ref D) (.int k u) = operate [.ref D, .int k u] (getItem (.ref D) (.int k u)) := by with_unfolding_all rfl) :
    wpAny (model prog w) A (subscriptTail value slice (.ref D) (.int k u)) Q E s := by
  subst hk
  exact itemV N hm (by omega) (by omega) hfit (by rw [Int.toNat_natCast]; exact h) hs

theorem setV {Q : Unit → Shared → Prop} (F : Fr h₀ L s.heap m) (N : News h₀ L s.heap news) (U : Upd D (listOf vs.toArray n) (listOf (vs.set k.toNat v).toArray n) news news') (h0 : 0 ≤ k) (h1 : k < vs.length) (hfit : vs.length ≤ 64)
    (h : ∀ h', Fr h₀ L h' m → News h₀ L h' news' → Q () { s with heap := h' }) :
    wpAny (model prog w) A (setItem (.ref D) (.int k u) v) Q E s := by
  obtain ⟨pre, post, rfl, rfl, a, b⟩ := U.split
  have z := N (D, listOf vs.toArray n) (List.mem_append.mpr (.inr (.head _)))
  refine ki_setAt z.1 h0 (by omega) (by simp; omega) (h _ (F.change (Heap.SameBut.update ..) z.2.1 z.2.2) (ki_turn _ N a b ?_ ?_))
  · show vs.toArray.setIfInBounds k.toNat v = (vs.set k.toNat v).toArray
    apply Array.toList_inj.mp
    simp
  · simp

theorem setV' {Q : Unit → Shared → Prop} {i : Nat} (F : Fr h₀ L s.heap m) (N : News h₀ L s.heap news) (U : Upd D (listOf vs.toArray n) (listOf (vs.set i v).toArray n) news news') (hk : k = (i : Int)) (h1 : i < vs.length) (hfit : vs.length ≤ 64)
    (h : ∀ h', Fr h₀ L h' m → News h₀ L h' news' → Q () { s with heap := h' }) :
    wpAny (model prog w) A (setItem (.ref D) (.int k u) v) Q E s := by
  subst hk
  exact setV F N (by rw [Int.toNat_natCast]; exact U) (by omega) (by omega) hfit h

theorem Vok.ground {us : List Value} (V : Vok s.heap κ us) (G : GSub s.heap g [D]) (hD : s.heap.get? D = some (listOf vs.toArray n)) : Vok g κ us := by
  refine ⟨fun v hv => ?_, V.2⟩
  obtain ⟨a, t, u, p, q, e, o, ho, hc, r⟩ := V.1 v hv
  refine ⟨a, t, u, p, q, e, o, G a o ho ?_, hc, r⟩
  intro h
  have := List.mem_singleton.mp h
  subst this
  rw [hD] at ho
  cases ho
  have hc' : Value.type "list" = Value.type "tuple" := hc
  exact absurd hc' (by decide)
theorem Vok.sub {vs' : List Value} (V : Vok g κ vs) (h : ∀ v ∈ vs', v ∈ vs) : Vok g κ vs' := ⟨fun v hv => V.1 v (h v hv), fun u hu v hv => V.2 u (h u hu) v (h v hv)⟩
theorem Vok.fr (V : Vok g κ vs) {h : Heap} (F : Fr g L h m) : Vok h κ vs := ⟨fun v hv => (V.1 v hv).keeps F.keep, V.2⟩
end

local macro_rules | `(tactic| walk_at "enterG") => `(tactic| (refine' code_defG ?k1 ?k2 ?k3 ?k4 ?k5 ?kA ?kF ?kK ?k6 ?k7 ?k8 ?k9 ?kB ?_ ?c2 ?c3 ?c4 ?c5; (case kA => exact rfl); (case kF => exact rfl); (case kK => first | exact rfl | assumption); (case k1 => k_asm); (case k2 => k_asm); (case k3 => k_asm); (case k4 => k_asm); (case k5 => k_asm); (case k6 => k_is); (case k7 => k_is); (case k8 => ktr_room); (case k9 => first | exact BindsTo.of_eq rfl | exact binds_K (by k_in) rfl (by k_is) rfl rfl rfl | fail "k_enter: no rule for these arguments"); (case c5 => decide); (case kB => exact locs rfl); (case c2 => exact rfl); (case c3 => exact rfl); (case c4 => exact rfl); k_whole; intro g' L' h' FG' F' N' B' X' T' kG'; (try dsimp only)))
-- one step, but never into a loop
local macro_rules | `(tactic| walk_at "noloop") => `(tactic| ((fail_if_success (with_reducible show wpAny _ _ (exec (Stmt.While _ _ _ _) _) _ _ _)); (fail_if_success (with_reducible show wpAny _ _ (exec (Stmt.For _ _ _ _ _) _) _ _ _)); (fail_if_success (with_reducible show LeaveK _ _ _ _ _ _ _)); (fail_if_success (with_reducible show KswEnd _ _ _ _ _ _ _ _ _ _ _ _))))
local macro_rules | `(tactic| walk_at "go") => `(tactic| repeat' (first | (walk_at "noloop"; walk1; (try dsimp only)) | (dsimp only; walk_at "noloop"; walk1)))



set_option maxHeartbeats 4000000 in
theorem siftdown_c {prog : Program} {w : World} {p : Program} {loose : List Str} {mean : ExcName → Option Value} {mg mb : Str → Option Value}
    {dp un : Nat} {gd : Option (List Code)} {cn : Str} {cs : Scope} {a : Addr} {ccd : Value} {cl : List (Str × Addr)} {outer : List Env} {A₀ : Around} {base h₀ : Heap} {L : Addr} {m : Str → Option Value} {s : Shared} {Q E : Value → Shared → Prop}
    {hl : Addr} {vs : List Value} {ep : Nat} {κ : Value → Int × Int} {sp pos : Nat} {t1 t2 : Tok}
    (B : Below A₀ base outer h₀) (F : Fr h₀ L s.heap m) (X : (hd.heap_39 w.params).In h₀) (N : News h₀ L s.heap [(hl, listOf vs.toArray ep)]) (T : Top p loose mean mg mb h₀) (hk : cs.kind = .function)
    (V : Vok s.heap κ vs) (hpos : pos < vs.length) (hsz : vs.length ≤ 64) (hd : dp + 1 < recursionLimit) (hu : un + 8 < cLine)
    (ret : ∀ h' tk', Fr h₀ L h' m → News h₀ L h' [(hl, listOf (sdGo (vlt κ) (vs.getD pos .none) sp pos pos vs).toArray ep)] → (∀ b o, b ≠ hl → s.heap.get? b = some o → h'.get? b = some o) → Q .none { s with heap := h', toks := tk' }) :
    wpAny (model prog w) (ktrTop dp un gd cn cs L a ccd cl outer) (call (.ref 42) [.ref hl, .int sp t1, .int pos t2]) Q E s := by
  refine wpAny_call ?_
  k_dflt (walk_at "enterG")
  rename_i g L₁ h₁ FG F₁ N₁ B₁ X₁ T₁ G₁
  have V₁ := V.ground G₁ (N _ (.head _)).1
  walk_at "go"
  refine itemV N₁ (.head _) (by omega) (by omega) hsz ?_
  rw [Int.toNat_natCast]
  walk_at "go"
  rename_i h₂ F₂ N₂
  refine ksw_while (σ := Nat × Tok × List Value) (fun c => [(hl, listOf c.2.2.toArray ep)]) (fun c => [(Str.ofString "heap", .ref hl), (Str.ofString "startpos", .int sp t1), (Str.ofString "pos", .int c.1 c.2.1), (Str.ofString "newitem", vs.getD pos .none)])
    (fun _ => True) [Str.ofString "parentpos", Str.ofString "parent"]
    (fun c => c.1 < vs.length ∧ c.2.2.length = vs.length ∧ (∀ v ∈ c.2.2, v ∈ vs) ∧ sdGo (vlt κ) (vs.getD pos .none) sp c.1 c.1 c.2.2 = sdGo (vlt κ) (vs.getD pos .none) sp pos pos vs)
    (fun c => c.1) (pos, t2, vs) F₂ N₂ trivial ?hk ⟨hpos, rfl, fun _ h => h, rfl⟩ ?turn
  case hk => kst_all
  rintro ⟨pc, tc, vc⟩ u h₃ tk₃ - ⟨p1, p2, p3, p4⟩ F₃ N₃
  dsimp only [kstB] at p1 p2 p3 p4 F₃ N₃ ⊢
  walk_at "go"
  · rename Fr _ _ _ _ => F₄
    rename News _ _ _ _ => N₄
    rename ((sp : Int) < _) => hlt
    have e : ((pc : Int) - 1).fdiv (2 ^ Int.toNat 1) = (((pc - 1) / 2 : Nat) : Int) := by
      rw [Int.fdiv_eq_ediv_of_nonneg _ (by decide)]
      have : (2 : Int) ^ Int.toNat 1 = 2 := rfl
      rw [this]
      omega
    have hp' : (pc - 1) / 2 < vs.length := by omega
    refine itemV' N₄ (.head _) e (by omega) (by omega) ?_
    walk_at "go"
    rename Fr _ _ _ _ => F₅
    rename News _ _ _ _ => N₅
    have V₅ := V₁.fr F₅
    have m1 : vc.getD ((pc - 1) / 2) .none ∈ vs := p3 _ (getD_mem (by omega))
    have m2 : vs.getD pos .none ∈ vs := getD_mem hpos
    refine tupLt (V₅.1 _ m1) (V₅.1 _ m2) (V₅.2 _ m1 _ m2) (by ktr_units) ?_
    walk_at "go"
    · rename (_ = true) => hcmp
      refine setV' F₅ N₅ (by k_upd) rfl (by omega) (by omega) ?_
      intro h₆ F₆ N₆
      walk_at "go"
      rename Fr _ _ _ _ => F₇
      rename News _ _ _ _ => N₇
      rw [e] at F₇
      refine ksw_end (((pc - 1) / 2, _, vc.set pc (vc.getD ((pc - 1) / 2) .none)) : Nat × Tok × List Value) F₇ N₇ (fun _ h => h) trivial (by kst_all) (by ksw_same) ⟨by omega, by simpa using p2, ?_, ?_⟩ (by dsimp only; omega)
      · intro v hv
        rcases List.mem_or_eq_of_mem_set hv with h | h
        · exact p3 v h
        · rw [h]; exact m1
      · dsimp only
        rw [← p4]
        obtain ⟨q, rfl⟩ : ∃ q, pc = q + 1 := ⟨pc - 1, by omega⟩
        rw [show sdGo (vlt κ) (vs.getD pos .none) sp (q + 1) (q + 1) vc = if sp < q + 1 then (if vlt κ (vc.getD ((q + 1 - 1) / 2) .none) (vs.getD pos .none) then sdGo (vlt κ) (vs.getD pos .none) sp q ((q + 1 - 1) / 2) (vc.set (q + 1) (vc.getD ((q + 1 - 1) / 2) .none)) else vc.set (q + 1) (vs.getD pos .none)) else vc.set (q + 1) (vs.getD pos .none) from rfl]
        rw [if_pos (by omega), if_pos hcmp]
        exact sdGo_fuel (by omega) (by omega)
    · rename (_ = false) => hcmp
      refine setV' F₅ N₅ (by k_upd) rfl (by omega) (by omega) ?_
      intro h₆ F₆ N₆
      walk_at "go"
      refine leaveK_ F₆ N₆ fun kF kN => ?_
      have e2 : vc.set pc (vs.getD pos .none) = sdGo (vlt κ) (vs.getD pos .none) sp pos pos vs := by
        rw [← p4]
        obtain ⟨q, rfl⟩ : ∃ q, pc = q + 1 := ⟨pc - 1, by omega⟩
        show _ = if sp < q + 1 then (if vlt κ (vc.getD ((q + 1 - 1) / 2) .none) (vs.getD pos .none) then _ else vc.set (q + 1) (vs.getD pos .none)) else _
        rw [if_pos (by omega), if_neg (by rw [show vlt κ (vc.getD ((q + 1 - 1) / 2) Value.none) (vs.getD pos Value.none) = false from hcmp]; decide)]
      rw [e2] at kN
      exact ret _ _ kF kN fun b o hb e => F₆.keep b o (G₁ b o e (by simpa using hb))
  · rename (¬ _) => hlt
    refine setV' F₃ N₃ (by k_upd) rfl (by omega) (by omega) ?_
    intro h₆ F₆ N₆
    walk_at "go"
    refine leaveK_ F₆ N₆ fun kF kN => ?_
    have e2 : vc.set pc (vs.getD pos .none) = sdGo (vlt κ) (vs.getD pos .none) sp pos pos vs := by
      rw [← p4]
      cases pc with
      | zero => rfl
      | succ q =>
        show _ = if sp < q + 1 then _ else _
        rw [if_neg (by omega)]
    rw [e2] at kN
    exact ret _ _ kF kN fun b o hb e => F₆.keep b o (G₁ b o e (by simpa using hb))
end Mine

-- W3
open PySem PySem.W PyProof.Rows PySem.Calls
set_option Elab.async false
set_option maxRecDepth 100000
namespace Mine

-- the steps (as in the text before)
local macro_rules | `(tactic| walk_at "enterG") => `(tactic| (refine' code_defG ?k1 ?k2 ?k3 ?k4 ?k5 ?kA ?kF ?kK ?k6 ?k7 ?k8 ?k9 ?kB ?_ ?c2 ?c3 ?c4 ?c5; (case kA => exact rfl); (case kF => exact rfl); (case kK => first | exact rfl | assumption); (case k1 => k_asm); (case k2 => k_asm); (case k3 => k_asm); (case k4 => k_asm); (case k5 => k_asm); (case k6 => k_is); (case k7 => k_is); (case k8 => ktr_room); (case k9 => first | exact BindsTo.of_eq rfl | exact binds_K (by k_in) rfl (by k_is) rfl rfl rfl | fail "k_enter: no rule for these arguments"); (case c5 => decide); (case kB => exact locs rfl); (case c2 => exact rfl); (case c3 => exact rfl); (case c4 => exact rfl); k_whole; intro g' L' h' FG' F' N' B' X' T' kG'; (try dsimp only)))
-- one step, but never into a loop, a def or an end
local macro_rules | `(tactic| walk_at "noloop") => `(tactic| ((fail_if_success (with_reducible show wpAny _ _ (exec (Stmt.While _ _ _ _) _) _ _ _)); (fail_if_success (with_reducible show wpAny _ _ (exec (Stmt.For _ _ _ _ _) _) _ _ _)); (fail_if_success (with_reducible show wpAny _ _ (PySem.call (Value.ref _) _ _) _ _ _)); (fail_if_success (with_reducible show LeaveK _ _ _ _ _ _ _)); (fail_if_success (with_reducible show KswEnd _ _ _ _ _ _ _ _ _ _ _ _))))
local macro_rules | `(tactic| walk_at "go") => `(tactic| repeat' (first | (walk_at "noloop"; walk1; (try dsimp only)) | (dsimp only; walk_at "noloop"; walk1)))

theorem lenV {prog : Program} {w : World} {A : Around} {E : Value → Shared → Prop} {s : Shared} {h₀ : Heap} {L D : Addr} {news : List (Addr × Obj)} {vs : List Value} {n : Nat} {Q : Value → Shared → Prop}
    (N : News h₀ L s.heap news) (hm : (D, listOf vs.toArray n) ∈ news) (hfit : vs.length ≤ 64)
    (h : ∀ t tk, Q (.int (vs.length : Nat) t) { s with toks := tk }) : wpAny (model prog w) A (call (.builtin "len") [.ref D]) Q E s := by
  have hl : s.heap.IsList D vs.toArray := ⟨_, (N _ hm).1, rfl, _, rfl⟩
  have e : vs.toArray.size = vs.length := by simp
  refine Calls.call_len_list hl (by omega) ?_
  rw [e]
  exact h _ _

/-- the loop of _siftup_max over a plain list: the list and the place that is left free -/
def suC (lt : Value → Value → Bool) (pos : Nat) (vs : List Value) : Nat :=
  if 2 * pos + 2 < vs.length ∧ lt (vs.getD (2 * pos + 2) .none) (vs.getD (2 * pos + 1) .none) = false then 2 * pos + 2 else 2 * pos + 1
def suGo (lt : Value → Value → Bool) : Nat → Nat → List Value → List Value × Nat
  | 0, pos, vs => (vs, pos)
  | f + 1, pos, vs => if 2 * pos + 1 < vs.length then suGo lt f (suC lt pos vs) (vs.set pos (vs.getD (suC lt pos vs) .none)) else (vs, pos)
/-- _siftup_max -/
def suAll (lt : Value → Value → Bool) (pos : Nat) (vs : List Value) : List Value :=
  sdGo lt (vs.getD pos .none) pos (suGo lt vs.length pos vs).2 (suGo lt vs.length pos vs).2 ((suGo lt vs.length pos vs).1.set (suGo lt vs.length pos vs).2 (vs.getD pos .none))

theorem suC_lt {lt : Value → Value → Bool} {pos : Nat} {vs : List Value} (h : 2 * pos + 1 < vs.length) : suC lt pos vs < vs.length := by
  unfold suC; split <;> omega
theorem suC_gt {lt : Value → Value → Bool} {pos : Nat} {vs : List Value} : pos < suC lt pos vs := by
  unfold suC; split <;> omega
theorem suGo_fuel {lt : Value → Value → Bool} : ∀ {f f' pos : Nat} {vs : List Value}, vs.length ≤ pos + f → vs.length ≤ pos + f' → suGo lt f' pos vs = suGo lt f pos vs
  | 0, 0, _, _, _, _ => rfl
  | 0, f' + 1, pos, vs, h, _ => by
    show (if 2 * pos + 1 < vs.length then _ else (vs, pos)) = (vs, pos)
    rw [if_neg (by omega)]
  | f + 1, 0, pos, vs, _, h => by
    show (vs, pos) = (if 2 * pos + 1 < vs.length then _ else (vs, pos))
    rw [if_neg (by omega)]
  | f + 1, f' + 1, pos, vs, h, h' => by
    show (if 2 * pos + 1 < vs.length then _ else _) = (if 2 * pos + 1 < vs.length then _ else _)
    by_cases hs : 2 * pos + 1 < vs.length
    · rw [if_pos hs, if_pos hs]
      have := suC_gt (lt := lt) (pos := pos) (vs := vs)
      exact suGo_fuel (by rw [List.length_set]; omega) (by rw [List.length_set]; omega)
    · rw [if_neg hs, if_neg hs]

theorem suGo_step {lt : Value → Value → Bool} {n pos : Nat} {vs : List Value} (hl : vs.length = n) (h : 2 * pos + 1 < n) :
    suGo lt n pos vs = suGo lt n (suC lt pos vs) (vs.set pos (vs.getD (suC lt pos vs) .none)) := by
  obtain ⟨f, rfl⟩ : ∃ f, n = f + 1 := ⟨n - 1, by omega⟩
  have hg := suC_gt (lt := lt) (pos := pos) (vs := vs)
  rw [show suGo lt (f + 1) pos vs = if 2 * pos + 1 < vs.length then suGo lt f (suC lt pos vs) (vs.set pos (vs.getD (suC lt pos vs) .none)) else (vs, pos) from rfl]
  rw [if_pos (by omega)]
  exact suGo_fuel (by rw [List.length_set]; omega) (by rw [List.length_set]; omega)
theorem suGo_stop {lt : Value → Value → Bool} {n pos : Nat} {vs : List Value} (hl : vs.length = n) (h : ¬ 2 * pos + 1 < n) : suGo lt n pos vs = (vs, pos) := by
  cases n with
  | zero => rfl
  | succ f =>
    show (if 2 * pos + 1 < vs.length then _ else (vs, pos)) = (vs, pos)
    rw [if_neg (by omega)]

set_option maxHeartbeats 4000000 in
theorem siftup_c {prog : Program} {w : World} {p : Program} {loose : List Str} {mean : ExcName → Option Value} {mg mb : Str → Option Value}
    {dp un : Nat} {gd : Option (List Code)} {cn : Str} {cs : Scope} {a : Addr} {ccd : Value} {cl : List (Str × Addr)} {outer : List Env} {A₀ : Around} {base h₀ : Heap} {L : Addr} {m : Str → Option Value} {s : Shared} {Q E : Value → Shared → Prop}
    {hl : Addr} {vs : List Value} {ep : Nat} {κ : Value → Int × Int} {pos : Nat} {t2 : Tok}
    (B : Below A₀ base outer h₀) (F : Fr h₀ L s.heap m) (X : (hd.heap_39 w.params).In h₀) (N : News h₀ L s.heap [(hl, listOf vs.toArray ep)]) (T : Top p loose mean mg mb h₀) (hk : cs.kind = .function)
    (V : Vok s.heap κ vs) (hpos : pos < vs.length) (hsz : vs.length ≤ 64) (hd : dp + 2 < recursionLimit) (hu : un + 16 < cLine)
    (ret : ∀ h' tk', Fr h₀ L h' m → News h₀ L h' [(hl, listOf (suAll (vlt κ) pos vs).toArray ep)] → (∀ b o, b ≠ hl → s.heap.get? b = some o → h'.get? b = some o) → Q .none { s with heap := h', toks := tk' }) :
    wpAny (model prog w) (ktrTop dp un gd cn cs L a ccd cl outer) (call (.ref 49) [.ref hl, .int pos t2]) Q E s := by
  refine wpAny_call ?_
  k_dflt (walk_at "enterG")
  rename_i g L₁ h₁ FG F₁ N₁ B₁ X₁ T₁ G₁
  have V₁ := V.ground G₁ (N _ (.head _)).1
  walk_at "go"
  refine lenV N₁ (.head _) hsz fun tE tk₁ => ?_
  dsimp only
  walk_at "go"
  rename Fr _ _ _ _ => F₂
  rename News _ _ _ _ => N₂
  refine itemV' N₂ (.head _) rfl (by omega) (by omega) ?_
  walk_at "go"
  rename Fr _ _ _ _ => F₃
  rename News _ _ _ _ => N₃
  refine' ksw_while (σ := Nat × Tok × Tok × List Value) (fun c => [(hl, listOf c.2.2.2.toArray ep)])
    (fun c => [(Str.ofString "heap", .ref hl), (Str.ofString "startpos", .int pos t2), (Str.ofString "newitem", vs.getD pos .none), (Str.ofString "endpos", .int vs.length tE), (Str.ofString "pos", .int c.1 c.2.1), (Str.ofString "childpos", .int (2 * c.1 + 1) c.2.2.1)])
    (fun _ => True) [Str.ofString "rightpos"]
    (fun c => c.1 < vs.length ∧ c.2.2.2.length = vs.length ∧ (∀ v ∈ c.2.2.2, v ∈ vs) ∧ suGo (vlt κ) vs.length c.1 c.2.2.2 = suGo (vlt κ) vs.length pos vs)
    (fun c => vs.length - c.1) (pos, t2, ?tc, vs) F₃ N₃ trivial ?hk ⟨hpos, rfl, fun _ h => h, rfl⟩ ?turn
  case hk => kst_all
  rintro ⟨pc, tp, tc, vc⟩ u h₃ tk₃ - ⟨p1, p2, p3, p4⟩ F₄ N₄
  dsimp only [kstB] at p1 p2 p3 p4 F₄ N₄ ⊢
  walk_at "go"
  case _ =>
    rename Fr _ _ _ _ => F₅
    rename News _ _ _ _ => N₅
    have V₅ := V₁.fr F₅
    have m1 : vc.getD (2 * pc + 2) .none ∈ vs := p3 _ (getD_mem (by omega))
    have m2 : vc.getD (2 * pc + 1) .none ∈ vs := p3 _ (getD_mem (by omega))
    refine itemV' (i := 2 * pc + 2) N₅ (.head _) (by omega) (by omega) (by omega) ?_
    walk_at "go"
    refine itemV' (i := 2 * pc + 1) N₅ (.head _) (by omega) (by omega) (by omega) ?_
    walk_at "go"
    refine tupLt (V₅.1 _ m1) (V₅.1 _ m2) (V₅.2 _ m1 _ m2) (by ktr_units) ?_
    walk_at "go"
    · rename (_ = true) => hcmp
      have hC : suC (vlt κ) pc vc = 2 * pc + 1 := by
        unfold suC
        rw [if_neg (fun h => by rw [show vlt κ (vc.getD (2 * pc + 2) .none) (vc.getD (2 * pc + 1) .none) = true from hcmp] at h; exact absurd h.2 (by decide))]
      rename News _ _ _ _ => N₆
      refine itemV' (i := 2 * pc + 1) N₆ (.head _) (by omega) (by omega) (by omega) ?_
      walk_at "go"
      rename Fr _ _ _ _ => F₆
      rename News _ _ _ _ => N₆'
      refine setV' F₆ N₆' (by k_upd) rfl (by omega) (by omega) ?_
      intro h₇ F₇ N₇
      walk_at "go"
      rename Fr _ _ _ _ => F₈
      rename News _ _ _ _ => N₈
      have e : 2 * (pc : Int) + 1 = ((2 * pc + 1 : Nat) : Int) := by omega
      rw [e] at F₈
      refine ksw_end (((2 * pc + 1), _, _, vc.set pc (vc.getD (2 * pc + 1) .none)) : Nat × Tok × Tok × List Value) F₈ N₈ (fun _ h => h) trivial (by kst_all) (by ksw_same) ⟨by dsimp only; omega, by simpa using p2, ?_, ?_⟩ (by dsimp only; omega)
      · intro v hv
        rcases List.mem_or_eq_of_mem_set hv with h | h
        · exact p3 v h
        · rw [h]; exact p3 _ (getD_mem (by omega))
      · dsimp only
        rw [← p4, suGo_step p2 (by omega), hC]
    · rename (_ = false) => hcmp
      have hC : suC (vlt κ) pc vc = 2 * pc + 2 := by
        unfold suC
        rw [if_pos ⟨by omega, hcmp⟩]
      rename News _ _ _ _ => N₆
      refine itemV' (i := 2 * pc + 2) N₆ (.head _) (by omega) (by omega) (by omega) ?_
      walk_at "go"
      rename Fr _ _ _ _ => F₆
      rename News _ _ _ _ => N₆'
      refine setV' F₆ N₆' (by k_upd) rfl (by omega) (by omega) ?_
      intro h₇ F₇ N₇
      walk_at "go"
      rename Fr _ _ _ _ => F₈
      rename News _ _ _ _ => N₈
      have e : 2 * (pc : Int) + 1 + 1 = ((2 * pc + 2 : Nat) : Int) := by omega
      rw [e] at F₈
      refine ksw_end (((2 * pc + 2), _, _, vc.set pc (vc.getD (2 * pc + 2) .none)) : Nat × Tok × Tok × List Value) F₈ N₈ (fun _ h => h) trivial (by kst_all) (by ksw_same) ⟨by dsimp only; omega, by simpa using p2, ?_, ?_⟩ (by dsimp only; omega)
      · intro v hv
        rcases List.mem_or_eq_of_mem_set hv with h | h
        · exact p3 v h
        · rw [h]; exact p3 _ (getD_mem (by omega))
      · dsimp only
        rw [← p4, suGo_step p2 (by omega), hC]
  case _ =>
    have hC : suC (vlt κ) pc vc = 2 * pc + 1 := by
      unfold suC
      rw [if_neg (by omega)]
    rename News _ _ _ _ => N₆
    refine itemV' (i := 2 * pc + 1) N₆ (.head _) (by omega) (by omega) (by omega) ?_
    walk_at "go"
    rename Fr _ _ _ _ => F₆
    rename News _ _ _ _ => N₆'
    refine setV' F₆ N₆' (by k_upd) rfl (by omega) (by omega) ?_
    intro h₇ F₇ N₇
    walk_at "go"
    rename Fr _ _ _ _ => F₈
    rename News _ _ _ _ => N₈
    have e : 2 * (pc : Int) + 1 = ((2 * pc + 1 : Nat) : Int) := by omega
    rw [e] at F₈
    refine ksw_end (((2 * pc + 1), _, _, vc.set pc (vc.getD (2 * pc + 1) .none)) : Nat × Tok × Tok × List Value) F₈ N₈ (fun _ h => h) trivial (by kst_all) (by ksw_same) ⟨by dsimp only; omega, by simpa using p2, ?_, ?_⟩ (by dsimp only; omega)
    · intro v hv
      rcases List.mem_or_eq_of_mem_set hv with h | h
      · exact p3 v h
      · rw [h]; exact p3 _ (getD_mem (by omega))
    · dsimp only
      rw [← p4, suGo_step p2 (by omega), hC]
  case _ =>
    have hstop := suGo_stop (lt := vlt κ) p2 (show ¬ 2 * pc + 1 < vs.length by omega)
    refine setV' F₄ N₄ (by k_upd) rfl (by omega) (by omega) ?_
    intro h₇ F₇ N₇
    walk_at "go"
    have hmem : ∀ v ∈ vc.set pc (vs.getD pos .none), v ∈ vs := fun v hv => by
      rcases List.mem_or_eq_of_mem_set hv with h | h
      · exact p3 v h
      · rw [h]; exact getD_mem hpos
    have hnew : (vc.set pc (vs.getD pos .none)).getD pc .none = vs.getD pos .none := by
      have : pc < vc.length := by omega
      simp [List.getD, this]
    refine siftdown_c B₁ F₇ X₁ N₇ T₁ rfl ((V₁.fr F₇).sub hmem) (by rw [List.length_set]; omega) (by rw [List.length_set]; omega) (by ktr_room) (by ktr_units) ?_
    intro h₈ tk₈ F₈ N₈ K₈
    rw [hnew] at N₈
    dsimp only
    walk_at "go"
    refine leaveK_ F₈ N₈ fun kF kN => ?_
    have e2 : sdGo (vlt κ) (vs.getD pos .none) pos pc pc (vc.set pc (vs.getD pos .none)) = suAll (vlt κ) pos vs := by
      unfold suAll
      rw [← p4, hstop]
    rw [e2] at kN
    exact ret _ _ kF kN fun b o hb e => F₈.keep b o (G₁ b o e (by simpa using hb))
end Mine

-- W4
open PySem PySem.W PyProof.Rows PySem.Calls
set_option Elab.async false
set_option maxRecDepth 100000
namespace Mine
local macro_rules | `(tactic| walk_at "enterG") => `(tactic| (refine' code_defG ?k1 ?k2 ?k3 ?k4 ?k5 ?kA ?kF ?kK ?k6 ?k7 ?k8 ?k9 ?kB ?_ ?c2 ?c3 ?c4 ?c5; (case kA => exact rfl); (case kF => exact rfl); (case kK => first | exact rfl | assumption); (case k1 => k_asm); (case k2 => k_asm); (case k3 => k_asm); (case k4 => k_asm); (case k5 => k_asm); (case k6 => k_is); (case k7 => k_is); (case k8 => ktr_room); (case k9 => first | exact BindsTo.of_eq rfl | exact binds_K (by k_in) rfl (by k_is) rfl rfl rfl | fail "k_enter: no rule for these arguments"); (case c5 => decide); (case kB => exact locs rfl); (case c2 => exact rfl); (case c3 => exact rfl); (case c4 => exact rfl); k_whole; intro g' L' h' FG' F' N' B' X' T' kG'; (try dsimp only)))
local macro_rules | `(tactic| walk_at "noloop") => `(tactic| ((fail_if_success (with_reducible show wpAny _ _ (exec (Stmt.While _ _ _ _) _) _ _ _)); (fail_if_success (with_reducible show wpAny _ _ (pyIter _) _ _ _)); (fail_if_success (with_reducible show wpAny _ _ (PySem.call (Value.ref _) _ _) _ _ _)); (fail_if_success (with_reducible show LeaveK _ _ _ _ _ _ _)); (fail_if_success (with_reducible show KswEnd _ _ _ _ _ _ _ _ _ _ _ _)); (fail_if_success (with_reducible show InvEndN _ _ _ _ _ _ _))))
local macro_rules | `(tactic| walk_at "go") => `(tactic| repeat' (first | (walk_at "noloop"; walk1; (try dsimp only)) | (dsimp only; walk_at "noloop"; walk1)))

/-- _heapreplace_max's list behind it -/
abbrev repAll (lt : Value → Value → Bool) (item : Value) (vs : List Value) : List Value := suAll lt 0 (vs.set 0 item)

section
variable {prog : Program} {w : World} {A : Around} {E : Value → Shared → Prop} {s : Shared} {h₀ g : Heap} {L D : Addr} {m : Str → Option Value} {news news' : List (Addr × Obj)} {vs : List Value} {n : Nat}
theorem popV {Q : Value → Shared → Prop} (F : Fr h₀ L s.heap m) (N : News h₀ L s.heap news) (U : Upd D (listOf vs.toArray n) (listOf vs.dropLast.toArray (n + 1)) news news') (h1 : 0 < vs.length) (hfit : vs.length ≤ 64)
    (h : ∀ h', Fr h₀ L h' m → News h₀ L h' news' → Q (vs.getD (vs.length - 1) .none) { s with heap := h' }) :
    wpAny (model prog w) A (call (.builtin "list.pop") [.ref D]) Q E s := by
  obtain ⟨pre, post, rfl, rfl, a, b⟩ := U.split
  have z := N (D, listOf vs.toArray n) (List.mem_append.mpr (.inr (.head _)))
  refine Copied.pop_at (y := vs.getD (vs.length - 1) .none) z.1 (by simp [List.getD, show vs.length - 1 < vs.length by omega]) (fun h' hs ho' => h h' (F.change hs z.2.1 z.2.2) (news_set N a b hs ?_)) (by rw [List.size_toArray, sizeLine_eq]; omega)
  rw [ho']
  simp
theorem truthyV {Q : Bool → Shared → Prop} (N : News h₀ L s.heap news) (hm : (D, listOf vs.toArray n) ∈ news) (hfit : vs.length ≤ 64)
    (h : ∀ tk, Q (decide (0 < vs.length)) { s with toks := tk }) : wpAny (model prog w) A (truthy (.ref D)) Q E s := by
  have hl : s.heap.IsList D vs.toArray := ⟨_, (N _ hm).1, rfl, _, rfl⟩
  refine wpAny_truthy_list hl (by simp only [List.size_toArray]; omega) ?_
  have e : (!vs.toArray.isEmpty) = decide (0 < vs.length) := by cases vs <;> simp
  rw [e]
  exact h _
end

/-- _heappop_max's list behind it -/
def popAll (lt : Value → Value → Bool) (vs : List Value) : List Value := if vs.length ≤ 1 then [] else suAll lt 0 (vs.dropLast.set 0 (vs.getD (vs.length - 1) .none))

set_option maxHeartbeats 4000000 in
theorem heapreplace_c {prog : Program} {w : World} {p : Program} {loose : List Str} {mean : ExcName → Option Value} {mg mb : Str → Option Value}
    {dp un : Nat} {gd : Option (List Code)} {cn : Str} {cs : Scope} {a : Addr} {ccd : Value} {cl : List (Str × Addr)} {outer : List Env} {A₀ : Around} {base h₀ : Heap} {L : Addr} {m : Str → Option Value} {s : Shared} {Q E : Value → Shared → Prop}
    {hl : Addr} {vs : List Value} {ep : Nat} {κ : Value → Int × Int} {item : Value}
    (B : Below A₀ base outer h₀) (F : Fr h₀ L s.heap m) (X : (hd.heap_39 w.params).In h₀) (N : News h₀ L s.heap [(hl, listOf vs.toArray ep)]) (T : Top p loose mean mg mb h₀) (hk : cs.kind = .function)
    (V : Vok s.heap κ (item :: vs)) (hpos : 0 < vs.length) (hsz : vs.length ≤ 64) (hd : dp + 3 < recursionLimit) (hu : un + 24 < cLine)
    (ret : ∀ h' tk', Fr h₀ L h' m → News h₀ L h' [(hl, listOf (repAll (vlt κ) item vs).toArray ep)] → (∀ b o, b ≠ hl → s.heap.get? b = some o → h'.get? b = some o) → Q (vs.getD 0 .none) { s with heap := h', toks := tk' }) :
    wpAny (model prog w) (ktrTop dp un gd cn cs L a ccd cl outer) (call (.ref 28) [.ref hl, item]) Q E s := by
  refine wpAny_call ?_
  k_dflt (walk_at "enterG")
  rename_i g L₁ h₁ FG F₁ N₁ B₁ X₁ T₁ G₁
  have V₁ := V.ground G₁ (N _ (.head _)).1
  walk_at "go"
  refine itemV' (i := 0) N₁ (.head _) rfl hpos (by omega) ?_
  walk_at "go"
  rename Fr _ _ _ _ => F₂
  rename News _ _ _ _ => N₂
  refine setV' (i := 0) F₂ N₂ (by k_upd) rfl hpos (by omega) ?_
  intro h₃ F₃ N₃
  walk_at "go"
  have hmem : ∀ v ∈ vs.set 0 item, v ∈ item :: vs := fun v hv => by
    rcases List.mem_or_eq_of_mem_set hv with h | h
    · exact .tail _ h
    · rw [h]; exact .head _
  refine siftup_c (pos := 0) B₁ F₃ X₁ N₃ T₁ rfl ((V₁.fr F₃).sub hmem) (by rw [List.length_set]; omega) (by rw [List.length_set]; omega) (by ktr_room) (by ktr_units) ?_
  intro h₄ tk₄ F₄ N₄ K₄
  dsimp only
  walk_at "go"
  refine leaveK_ F₄ N₄ fun kF kN => ?_
  exact ret _ _ kF kN fun b o hb e => F₄.keep b o (G₁ b o e (by simpa using hb))

set_option maxHeartbeats 4000000 in
theorem heappop_c {prog : Program} {w : World} {p : Program} {loose : List Str} {mean : ExcName → Option Value} {mg mb : Str → Option Value}
    {dp un : Nat} {gd : Option (List Code)} {cn : Str} {cs : Scope} {a : Addr} {ccd : Value} {cl : List (Str × Addr)} {outer : List Env} {A₀ : Around} {base h₀ : Heap} {L : Addr} {m : Str → Option Value} {s : Shared} {Q E : Value → Shared → Prop}
    {hl : Addr} {vs : List Value} {ep : Nat} {κ : Value → Int × Int}
    (B : Below A₀ base outer h₀) (F : Fr h₀ L s.heap m) (X : (hd.heap_39 w.params).In h₀) (N : News h₀ L s.heap [(hl, listOf vs.toArray ep)]) (T : Top p loose mean mg mb h₀) (hk : cs.kind = .function)
    (V : Vok s.heap κ vs) (hpos : 0 < vs.length) (hsz : vs.length ≤ 64) (hd : dp + 3 < recursionLimit) (hu : un + 24 < cLine)
    (ret : ∀ h' tk' ep', Fr h₀ L h' m → News h₀ L h' [(hl, listOf (popAll (vlt κ) vs).toArray ep')] → (∀ b o, b ≠ hl → s.heap.get? b = some o → h'.get? b = some o) → Q (vs.getD 0 .none) { s with heap := h', toks := tk' }) :
    wpAny (model prog w) (ktrTop dp un gd cn cs L a ccd cl outer) (call (.ref 21) [.ref hl]) Q E s := by
  refine wpAny_call ?_
  k_dflt (walk_at "enterG")
  rename_i g L₁ h₁ FG F₁ N₁ B₁ X₁ T₁ G₁
  have V₁ := V.ground G₁ (N _ (.head _)).1
  walk_at "go"
  refine popV F₁ N₁ (by k_upd) hpos (by omega) ?_
  intro h₂ F₂ N₂
  dsimp only
  walk_at "go"
  rename Fr _ _ _ _ => F₃
  rename News _ _ _ _ => N₃
  refine truthyV N₃ (.head _) (by rw [List.length_dropLast]; omega) fun tk₃ => ?_
  rw [List.length_dropLast]
  walk_at "go"
  · rename (0 < vs.length - 1) => hlt
    have h0 : vs.dropLast.getD 0 .none = vs.getD 0 .none := by
      obtain ⟨x, y, r, rfl⟩ : ∃ x y r, vs = x :: y :: r := by
        match vs, hlt with
        | x :: y :: r, _ => exact ⟨x, y, r, rfl⟩
      rfl
    have hmem : ∀ v ∈ vs.dropLast.set 0 (vs.getD (vs.length - 1) .none), v ∈ vs := fun v hv => by
      rcases List.mem_or_eq_of_mem_set hv with h | h
      · exact List.dropLast_subset _ h
      · rw [h]; exact getD_mem (by omega)
    refine itemV' (i := 0) N₃ (.head _) rfl (by rw [List.length_dropLast]; omega) (by rw [List.length_dropLast]; omega) ?_
    rw [h0]
    walk_at "go"
    rename Fr _ _ _ _ => F₄
    rename News _ _ _ _ => N₄
    refine setV' (i := 0) F₄ N₄ (by k_upd) rfl (by rw [List.length_dropLast]; omega) (by rw [List.length_dropLast]; omega) ?_
    intro h₅ F₅ N₅
    walk_at "go"
    refine siftup_c (pos := 0) B₁ F₅ X₁ N₅ T₁ rfl ((V₁.fr F₅).sub hmem) (by rw [List.length_set, List.length_dropLast]; omega) (by rw [List.length_set, List.length_dropLast]; omega) (by ktr_room) (by ktr_units) ?_
    intro h₆ tk₆ F₆ N₆ K₆
    dsimp only
    walk_at "go"
    refine leaveK_ F₆ N₆ fun kF kN => ?_
    have e2 : suAll (vlt κ) 0 (vs.dropLast.set 0 (vs.getD (vs.length - 1) .none)) = popAll (vlt κ) vs := by
      unfold popAll
      rw [if_neg (by omega)]
    rw [e2] at kN
    exact ret _ _ _ kF kN fun b o hb e => F₆.keep b o (G₁ b o e (by simpa using hb))
  · rename (¬ 0 < vs.length - 1) => hlt
    refine leaveK_ F₃ N₃ fun kF kN => ?_
    have h1 : vs.length = 1 := by omega
    have e2 : vs.dropLast = popAll (vlt κ) vs := by
      unfold popAll
      rw [if_pos (by omega)]
      exact List.eq_nil_of_length_eq_zero (by rw [List.length_dropLast]; omega)
    rw [e2] at kN
    rw [h1]
    exact ret _ _ _ kF kN fun b o hb e => F₃.keep b o (G₁ b o e (by simpa using hb))
end Mine

-- W5
open PySem PySem.W PyProof.Rows PySem.Calls
set_option Elab.async false
set_option maxRecDepth 100000
namespace Mine
local macro_rules | `(tactic| walk_at "enterG") => `(tactic| (refine' code_defG ?k1 ?k2 ?k3 ?k4 ?k5 ?kA ?kF ?kK ?k6 ?k7 ?k8 ?k9 ?kB ?_ ?c2 ?c3 ?c4 ?c5; (case kA => exact rfl); (case kF => exact rfl); (case kK => first | exact rfl | assumption); (case k1 => k_asm); (case k2 => k_asm); (case k3 => k_asm); (case k4 => k_asm); (case k5 => k_asm); (case k6 => k_is); (case k7 => k_is); (case k8 => ktr_room); (case k9 => first | exact BindsTo.of_eq rfl | exact binds_K (by k_in) rfl (by k_is) rfl rfl rfl | fail "k_enter: no rule for these arguments"); (case c5 => decide); (case kB => exact locs rfl); (case c2 => exact rfl); (case c3 => exact rfl); (case c4 => exact rfl); k_whole; intro g' L' h' FG' F' N' B' X' T' kG'; (try dsimp only)))
local macro_rules | `(tactic| walk_at "noloop") => `(tactic| ((fail_if_success (with_reducible show wpAny _ _ (exec (Stmt.While _ _ _ _) _) _ _ _)); (fail_if_success (with_reducible show wpAny _ _ (pyIter _) _ _ _)); (fail_if_success (with_reducible show wpAny _ _ (PySem.call (Value.ref _) _ _) _ _ _)); (fail_if_success (with_reducible show LeaveK _ _ _ _ _ _ _)); (fail_if_success (with_reducible show KswEnd _ _ _ _ _ _ _ _ _ _ _ _)); (fail_if_success (with_reducible show InvEndN _ _ _ _ _ _ _))))
local macro_rules | `(tactic| walk_at "go") => `(tactic| repeat' (first | (walk_at "noloop"; walk1; (try dsimp only)) | (dsimp only; walk_at "noloop"; walk1)))

section
variable {prog : Program} {w : World} {A : Around} {E : Value → Shared → Prop} {s : Shared}
theorem sub_ri_reversed : isSubtype (.type "range_iterator") (.type "reversed") = pure false := by rw [isSubtype_type]; kernel_rfl
/-- the iterator that reversed(range(n)) makes -/
abbrev revRange (n : Int) : Obj := { cls := .type "range_iterator", dict := none, data := .fields #[rawInt (n - 1), rawInt n, rawInt (-1)], slots := #[] }
theorem call_range_reversed {r : Addr} {n : Int} {t u v : Tok} {Q : Value → Shared → Prop} (hr : IsRange s.heap r 0 n 1 t u v) (h0 : 0 ≤ n) (h1 : n < 1000)
    (h : Q (.ref s.heap.objs.size) { s with heap := s.heap.push (revRange n) }) : wpAny (model prog w) A (call (.builtin "range.__reversed__") [.ref r]) Q E s := by
  refine wpAny_call_entry F.slot_range_reversed ⟨_, hr, rfl⟩ F.entry_range_reversed ?_ (F.args_range_reversed_1 _)
  unfold Builtin.«range.__reversed__»
  refine wpAny_bind (wpAny_of_eq (a := Value.ref r) rfl ?_)
  have e0 : Builtin.Range.rangeSize 0 n 1 = n := by
    unfold Builtin.Range.rangeSize
    rw [if_pos (by decide)]
    split <;> omega
  have rf : ∀ {R : Int × Int × Int → Shared → Prop}, R (0, n, 1) s → wpAny (model prog w) A.in1 (Builtin.Range.rangeFields (.ref r)) R E s := fun {R} hR => by
    unfold Builtin.Range.rangeFields
    refine wpAny_bind (wpAny_field hr rfl (x := .int 0 t) rfl ?_)
    refine wpAny_bind (wpAny_pure ?_)
    refine wpAny_bind (wpAny_field hr rfl (x := .int n u) rfl ?_)
    refine wpAny_bind (wpAny_pure ?_)
    refine wpAny_bind (wpAny_field hr rfl (x := .int 1 v) rfl ?_)
    exact wpAny_bind (wpAny_pure (wpAny_pure hR))
  refine wpAny_bind (rf ?_)
  simp only [e0]
  have fl : ∀ x : Int, -10 ≤ x → x < 2000 → Builtin.Range.rangeFitsLong x = true := fun x h2 h3 => by
    unfold Builtin.Range.rangeFitsLong
    simp only [Bool.and_eq_true, decide_eq_true_eq]
    omega
  have hs : (Builtin.Range.rangeFitsLong 0 && Builtin.Range.rangeFitsLong n && Builtin.Range.rangeFitsLong 1 && Builtin.Range.rangeFitsLong (-1) && Builtin.Range.rangeFitsLong (0 - 1) && Builtin.Range.rangeFitsLong n) = true := by
    rw [fl 0 (by decide) (by decide), fl n (by omega) (by omega), fl 1 (by decide) (by decide), fl (-1) (by decide) (by decide), fl (0 - 1) (by decide) (by decide)]; rfl
  simp only [hs, Bool.not_true, Bool.false_eq_true, if_false, if_true]
  refine wpAny_bind (wpAny_newObj_type (wpAny_pure ⟨_, rfl, ?_⟩))
  have e1 : 0 + (n - 1) * 1 = n - 1 := by omega
  rw [e1]
  exact h

theorem code_reversed_range {r : Addr} {n : Int} {t u v : Tok} {Q₁ : Value → Shared → Prop} (hr : IsRange s.heap r 0 n 1 t u v) (h0 : 0 ≤ n) (h1 : n < 1000)
    (h : Q₁ (.ref s.heap.objs.size) { s with heap := s.heap.push (revRange n) }) :
    codeAny (model prog w) A (.call (.builtin "reversed.__new__") ⟨[.type "reversed", .ref r], []⟩) (wants Q₁ E) s := by
  have ht : s.TypeIs (.ref r) "range" := ⟨_, hr, rfl⟩
  refine codeAny_of_tree ?_
  show wpAny _ A.in1 (do checkBuiltinCall "reversed.__new__" ⟨[.type "reversed", .ref r], []⟩; again (.builtin "reversed.__new__" ⟨[.type "reversed", .ref r], []⟩)) _ _ s
  refine wpAny_bind (wpAny_of_eq (F.newCall_reversed_1 _) (wpAny_pure ⟨plainId_quiet F.plain_reversed_new _, codeAny_builtin F.entry_reversed_new ?_⟩))
  rw [Around.under_plainId F.plain_reversed_new _]
  unfold Builtin.«reversed.__new__»
  refine wpAny_bind (wpAny_of_eq (newClass_reversed _) ?_)
  try dsimp only
  refine wpAny_bind (wpAny_of_eq (a := ()) (by first | rfl | kernel_rfl) ?_)
  refine wpAny_bind (wpAny_of_eq (a := ()) (by first | rfl | kernel_rfl) ?_)
  try dsimp only
  refine wpAny_bind (wpAny_specialOf ht F.slot_range_reversed.lookup ?_)
  try dsimp only
  refine wpAny_bind (wpAny_of_eq (F.slot_range_reversed.bind _) ?_)
  try dsimp only
  first
  | rw [if_neg (show ¬ ((Value.builtin "range.__reversed__" == Value.none) = true) from Bool.false_ne_true)]
  | (show wpAny _ _ (if (Value.builtin "range.__reversed__" == Value.none) = true then _ else _) _ _ _; rw [if_neg (show ¬ ((Value.builtin "range.__reversed__" == Value.none) = true) from Bool.false_ne_true)])
  refine wpAny_bind (wpAny_rule ?_)
  refine wpAny_bind (m := runValue (.call (.builtin "range.__reversed__") ⟨[.ref r], []⟩)) (show wpAny _ _ (call (.builtin "range.__reversed__") [.ref r]) _ _ _ from call_range_reversed hr h0 h1 ?_)
  first
  | exact wpAny_pure h
  | exact wpAny_bind (wpAny_pure (wpAny_pure h))

theorem call_reversed_range {r : Addr} {n : Int} {t u v : Tok} {Q : Value → Shared → Prop} (hr : IsRange s.heap r 0 n 1 t u v) (h0 : 0 ≤ n) (h1 : n < 1000)
    (h : Q (.ref s.heap.objs.size) { s with heap := s.heap.push (revRange n) }) : wpAny (model prog w) A (call (.type "reversed") [.ref r]) Q E s := by
  refine callType_other (U := "range_iterator") (Q₁ := fun obj s₁ => obj = .ref s.heap.objs.size ∧ s₁ = { s with heap := s.heap.push (revRange n) }) (by decide +kernel) F.create_reversed ⟨_, _, F.mro_reversed⟩ F.made_reversed sub_ri_reversed (F.typeCall_reversed_1 _) (code_reversed_range hr h0 h1 ⟨rfl, rfl⟩) ?_
  rintro obj s₁ ⟨rfl, rfl⟩
  exact ⟨⟨_, Heap.get?_push_size _ rfl, rfl⟩, h⟩
end

theorem newsAfter {h₀ h h' : Heap} {L D : Addr} {news : List (Addr × Obj)} (N : News h₀ L h news) (K : ∀ b o, b ≠ D → h.get? b = some o → h'.get? b = some o) (hne : ∀ p ∈ news, p.1 ≠ D) : News h₀ L h' news :=
  fun p hp => ⟨K _ _ (hne p hp) (N p hp).1, (N p hp).2⟩
theorem newsSub {h₀ h : Heap} {L : Addr} {news news' : List (Addr × Obj)} (N : News h₀ L h news) (hs : ∀ p ∈ news', p ∈ news) : News h₀ L h news' := fun p hp => N p (hs p hp)
theorem newsApp {h₀ h : Heap} {L : Addr} {n1 n2 : List (Addr × Obj)} (N1 : News h₀ L h n1) (N2 : News h₀ L h n2) : News h₀ L h (n1 ++ n2) := fun p hp => (List.mem_append.mp hp).elim (N1 p) (N2 p)
theorem newsCons {h₀ h : Heap} {L : Addr} {e : Addr × Obj} {n2 : List (Addr × Obj)} (N1 : News h₀ L h [e]) (N2 : News h₀ L h n2) : News h₀ L h (e :: n2) := newsApp N1 N2

/-- what a loop's turn keeps: the ledger, the names, a word -/
def FS {σ : Type} (Led : σ → List (Addr × Obj)) (ps : σ → List (Str × Value)) (x : Str) (stored : List Str) (m₀ : Str → Option Value) (P : Nat → σ → Prop) (i : Nat) (m : Str → Option Value) (nx : List (Addr × Obj)) : Prop :=
  ∃ c : σ, nx = Led c ∧ (∀ p ∈ ps c, m p.1 = some p.2) ∧ (∀ z, z ≠ x → (∀ p ∈ ps c, z ≠ p.1) → stored.contains z = false → m z = m₀ z) ∧ P i c

theorem forW {prog : Program} {w : World} {A : Around} {E : Value → Shared → Prop} {s : Shared} {env : Env} {h₀ : Heap} {x : Str} {body : List Stmt} {Q : Flow → Shared → Prop} {σ : Type}
    {I : Addr} {fp wr : List Addr} {n : Nat} {Pv : Nat → Value → Prop} {St : Nat → Heap → Prop} {m₀ : Str → Option Value} (Led : σ → List (Addr × Obj)) (ps : σ → List (Str × Value)) (stored : List Str) (P : Nat → σ → Prop) (c₀ : σ)
    (W : Walks prog w A I fp wr n Pv St) (hLf : env.locals ∉ fp) (hwr : ∀ b ∈ wr, h₀.get? b = none) (hnw : ∀ p ∈ Led c₀, p.1 ∉ wr) (hfp : ∀ q ∈ Led c₀, q.1 ∉ fp) (hst : St 0 s.heap)
    (F : Fr h₀ env.locals s.heap m₀) (N : News h₀ env.locals s.heap (Led c₀)) (hk : ∀ p ∈ ps c₀, m₀ p.1 = some p.2) (hp : P 0 c₀)
    (turn : ∀ (c : σ) (i : Nat) v (u : Str → Option Value) h tk own, i < n → Pv i v → OwnOff own ((Led c₀).map (·.1)) → (Led c).map (·.1) = (Led c₀).map (·.1) → P i c →
      Fr h₀ env.locals h (fun y => if y = x then some v else kstB (fun z => if stored.contains z then u z else m₀ z) (ps c) y) → News h₀ env.locals h (Led c ++ own) →
      wpAny (model prog w) A (execs body env) (InvPostN h₀ env.locals (FS Led ps x stored m₀ P (i + 1)) own ((Led c₀).map (·.1)) { s with heap := h, toks := tk } Q) E { s with heap := h, toks := tk })
    (done : ∀ (c : σ) (u : Str → Option Value) h tk, P n c → Fr h₀ env.locals h (fun y => if y = x then u y else kstB (fun z => if stored.contains z then u z else m₀ z) (ps c) y) → News h₀ env.locals h (Led c) → Q .next { s with heap := h, toks := tk }) :
    LoopAtV prog w A h₀ env x body Q E (.ref I) s := by
  refine loop_invN (fun i m nx => FS Led ps x stored m₀ P i m nx) W hLf hwr hnw hfp hst F N ⟨c₀, rfl, hk, fun _ _ _ _ => rfl, hp⟩ ?_ ?_
  · rintro i v m₁ nx h tk own hi hv hadr hoff ⟨c, rfl, h1, h2, hp'⟩ F₁ N₁
    exact turn c i v m₁ h tk own hi hv hoff hadr hp' (kst_fr h1 h2 F₁) N₁
  · rintro m₁ nx h tk ⟨c, rfl, h1, h2, hp'⟩ F₁ N₁
    exact done c m₁ h tk hp' (kst_frOut h1 h2 F₁) N₁

theorem forEnd {σ : Type} {h₀ : Heap} {L : Addr} {s : Shared} {Led : σ → List (Addr × Obj)} {ps : σ → List (Str × Value)} {x : Str} {stored : List Str} {m₀ m' : Str → Option Value} {P : Nat → σ → Prop} {i : Nat} {own news' : List (Addr × Obj)} {adr : List Addr} {h' : Heap} {tk : Nat} (c' : σ)
    (F : Fr h₀ L h' m') (N : News h₀ L h' news') (hn : ∀ p ∈ Led c', p ∈ news') (ho : ∀ p ∈ own, p ∈ news') (ha : (Led c').map (·.1) = adr) (hk : ∀ p ∈ ps c', m' p.1 = some p.2)
    (hr : ∀ z, z ≠ x → (∀ p ∈ ps c', z ≠ p.1) → stored.contains z = false → m' z = m₀ z) (hp : P i c') : InvEndN h₀ L (FS Led ps x stored m₀ P i) own adr s { s with heap := h', toks := tk } :=
  ⟨h', tk, m', news', Led c', rfl, F, N, hn, ho, ha, c', rfl, hk, hr, hp⟩

/-- _heapify_max over a plain list -/
def hfGo (lt : Value → Value → Bool) : Nat → List Value → List Value
  | 0, vs => vs
  | k + 1, vs => hfGo lt k (suAll lt k vs)

theorem sdGo_mem {lt : Value → Value → Bool} {new : Value} {start : Nat} : ∀ {f pos : Nat} {vs : List Value} (v : Value), pos < vs.length → v ∈ sdGo lt new start f pos vs → v = new ∨ v ∈ vs
  | 0, pos, vs, v, _, h => (List.mem_or_eq_of_mem_set (show v ∈ vs.set pos new from h)).symm
  | f + 1, pos, vs, v, hp, h => by
    rw [show sdGo lt new start (f + 1) pos vs = if start < pos then (if lt (vs.getD ((pos - 1) / 2) .none) new then sdGo lt new start f ((pos - 1) / 2) (vs.set pos (vs.getD ((pos - 1) / 2) .none)) else vs.set pos new) else vs.set pos new from rfl] at h
    split at h
    · split at h
      · rcases sdGo_mem v (by rw [List.length_set]; omega) h with h | h
        · exact .inl h
        · rcases List.mem_or_eq_of_mem_set h with h | h
          · exact .inr h
          · rw [h]; exact .inr (getD_mem (by omega))
      · exact (List.mem_or_eq_of_mem_set h).symm
    · exact (List.mem_or_eq_of_mem_set h).symm
theorem suGo_spec {lt : Value → Value → Bool} : ∀ {f pos : Nat} {vs : List Value}, pos < vs.length → (suGo lt f pos vs).1.length = vs.length ∧ (suGo lt f pos vs).2 < vs.length ∧ ∀ v ∈ (suGo lt f pos vs).1, v ∈ vs
  | 0, pos, vs, h => ⟨rfl, h, fun _ h => h⟩
  | f + 1, pos, vs, h => by
    rw [show suGo lt (f + 1) pos vs = if 2 * pos + 1 < vs.length then suGo lt f (suC lt pos vs) (vs.set pos (vs.getD (suC lt pos vs) .none)) else (vs, pos) from rfl]
    split
    · rename_i hc
      have hC := suC_lt (lt := lt) hc
      obtain ⟨i1, i2, i3⟩ := suGo_spec (lt := lt) (f := f) (pos := suC lt pos vs) (vs := vs.set pos (vs.getD (suC lt pos vs) .none)) (by rw [List.length_set]; exact hC)
      rw [List.length_set] at i1 i2
      refine ⟨i1, i2, fun v hv => ?_⟩
      rcases List.mem_or_eq_of_mem_set (i3 v hv) with h | h
      · exact h
      · rw [h]; exact getD_mem hC
    · exact ⟨rfl, h, fun _ h => h⟩
theorem sdGo_perm_len {lt : Value → Value → Bool} {new : Value} {start : Nat} : ∀ {f pos : Nat} {vs : List Value}, (sdGo lt new start f pos vs).length = vs.length
  | 0, pos, vs => by show (vs.set pos new).length = _; rw [List.length_set]
  | f + 1, pos, vs => by
    show (if start < pos then _ else _ : List Value).length = _
    split
    · split
      · rw [sdGo_perm_len, List.length_set]
      · rw [List.length_set]
    · rw [List.length_set]

theorem suAll_len {lt : Value → Value → Bool} {pos : Nat} {vs : List Value} (h : pos < vs.length) : (suAll lt pos vs).length = vs.length := by
  unfold suAll
  rw [sdGo_perm_len, List.length_set]
  exact (suGo_spec h).1
theorem suAll_mem {lt : Value → Value → Bool} {pos : Nat} {vs : List Value} (h : pos < vs.length) (v : Value) (hv : v ∈ suAll lt pos vs) : v ∈ vs := by
  have S := suGo_spec (lt := lt) (f := vs.length) h
  rcases sdGo_mem v (by rw [List.length_set, S.1]; exact S.2.1) hv with h' | h'
  · rw [h']; exact getD_mem h
  · rcases List.mem_or_eq_of_mem_set h' with h' | h'
    · exact S.2.2 v h'
    · rw [h']; exact getD_mem h

set_option maxHeartbeats 4000000 in
theorem heapify_c {prog : Program} {w : World} {p : Program} {loose : List Str} {mean : ExcName → Option Value} {mg mb : Str → Option Value}
    {dp un : Nat} {gd : Option (List Code)} {cn : Str} {cs : Scope} {a : Addr} {ccd : Value} {cl : List (Str × Addr)} {outer : List Env} {A₀ : Around} {base h₀ : Heap} {L : Addr} {m : Str → Option Value} {s : Shared} {Q E : Value → Shared → Prop}
    {hl : Addr} {vs : List Value} {ep : Nat} {κ : Value → Int × Int}
    (B : Below A₀ base outer h₀) (F : Fr h₀ L s.heap m) (X : (hd.heap_39 w.params).In h₀) (N : News h₀ L s.heap [(hl, listOf vs.toArray ep)]) (T : Top p loose mean mg mb h₀) (hk : cs.kind = .function)
    (V : Vok s.heap κ vs) (hsz : vs.length ≤ 64) (hd : dp + 3 < recursionLimit) (hu : un + 24 < cLine)
    (ret : ∀ h' tk', Fr h₀ L h' m → News h₀ L h' [(hl, listOf (hfGo (vlt κ) (vs.length / 2) vs).toArray ep)] → (∀ b o, b ≠ hl → s.heap.get? b = some o → h'.get? b = some o) → Q .none { s with heap := h', toks := tk' }) :
    wpAny (model prog w) (ktrTop dp un gd cn cs L a ccd cl outer) (call (.ref 35) [.ref hl]) Q E s := by
  refine wpAny_call ?_
  k_dflt (walk_at "enterG")
  rename_i g L₁ h₁ FG F₁ N₁ B₁ X₁ T₁ G₁
  have V₁ := V.ground G₁ (N _ (.head _)).1
  walk_at "go"
  refine lenV N₁ (.head _) hsz fun tE tk₁ => ?_
  dsimp only
  walk_at "go"
  rename_i rgX F₂ N₂ K₂
  have hk2 : ((vs.length : Int)).fdiv 2 = ((vs.length / 2 : Nat) : Int) := by
    rw [Int.fdiv_eq_ediv_of_nonneg _ (by decide)]; omega
  rw [hk2] at rgX
  refine call_reversed_range rgX (by omega) (by omega) ?_
  dsimp only
  rename Heap => h₂
  refine wpAny_pyIter_rangeiter (x := ((vs.length / 2 : Nat) : Int) - 1) (left := ((vs.length / 2 : Nat) : Int)) (step := -1) (Heap.get?_push_size _ rfl) ?_
  have F₃ := F₂.push (revRange ((vs.length / 2 : Nat) : Int))
  have N₃ : News g L₁ (h₂.push (revRange ((vs.length / 2 : Nat) : Int))) [(hl, listOf vs.toArray ep)] := fun p hp => ⟨Heap.get?_push_of_some _ (N₂ p hp).1, (N₂ p hp).2⟩
  refine forW (σ := List Value) (I := h₂.objs.size) (n := vs.length / 2) (fun vc => [(hl, listOf vc.toArray ep)]) (fun _ => [(Str.ofString "x", .ref hl)]) []
    (fun i vc => vc.length = vs.length ∧ (∀ v ∈ vc, v ∈ vs) ∧ hfGo (vlt κ) (vs.length / 2 - i) vc = hfGo (vlt κ) (vs.length / 2) vs) vs
    (Walks.range rfl _ (((vs.length / 2 : Nat) : Int) - 1) (-1) (vs.length / 2)) ?hLf ?hwr ?hnw ?hfp ?hst F₃ N₃ (by kst_all) ⟨rfl, fun _ h => h, rfl⟩ ?turn ?done
  case hLf => intro hm; exact absurd F₂.ns.lt ((List.mem_singleton.mp hm) ▸ Nat.lt_irrefl _)
  case hwr => intro b hb; rw [List.mem_singleton.mp hb]; exact next_is_new F₂
  case hnw => intro p hp hI; exact absurd (Heap.lt_size (N₂ p hp).1) ((List.mem_singleton.mp hI) ▸ Nat.lt_irrefl _)
  case hfp => intro p hp hI; exact absurd (Heap.lt_size (N₂ p hp).1) ((List.mem_singleton.mp hI) ▸ Nat.lt_irrefl _)
  case hst => show IsRangeIter _ _ _ _ _; simpa using Heap.get?_push_size _ rfl
  case turn =>
    rintro vc i v u h₄ tk₄ own hi ⟨ti, rfl⟩ hoff hadr ⟨p1, p2, p3⟩ F₄ N₄
    have e : ((vs.length / 2 : Nat) : Int) - 1 + (i : Int) * -1 = ((vs.length / 2 - 1 - i : Nat) : Int) := by omega
    rw [e] at F₄
    dsimp only [kstB] at F₄ N₄ ⊢
    walk_at "go"
    have F₅ : Fr g L₁ h₄ _ := F₄
    have N₅ : News g L₁ h₄ _ := N₄
    have hlt : vs.length / 2 - 1 - i < vc.length := by omega
    refine siftup_c B₁ F₅ X₁ (newsSub N₅ fun p hp => List.mem_append_left _ hp) T₁ rfl ((V₁.fr F₅).sub p2) hlt (by omega) (by ktr_room) (by ktr_units) ?_
    intro h₆ tk₆ F₆ N₆ K₆
    dsimp only
    walk_at "go"
    have hown : ∀ q ∈ own, q.1 ≠ hl := hoff.ne (.head _)
    refine forEnd (suAll (vlt κ) (vs.length / 2 - 1 - i) vc) F₆ (newsApp N₆ (newsAfter (newsSub N₅ fun p hp => List.mem_append_right _ hp) K₆ hown)) (fun p hp => List.mem_append_left _ hp) (fun p hp => List.mem_append_right _ hp) rfl (by kst_all) (by kst_same) ⟨?_, ?_, ?_⟩
    · rw [suAll_len hlt, p1]
    · exact fun v hv => p2 v (suAll_mem hlt v hv)
    · rw [← p3, show vs.length / 2 - i = (vs.length / 2 - 1 - i) + 1 by omega, show vs.length / 2 - (i + 1) = vs.length / 2 - 1 - i by omega]
      rfl
  case done =>
    rintro vc u h₄ tk₄ ⟨p1, p2, p3⟩ F₄ N₄
    dsimp only
    walk_at "go"
    have F₅ : Fr g L₁ h₄ _ := F₄
    have N₅ : News g L₁ h₄ _ := N₄
    refine leaveK_ F₅ N₅ fun kF kN => ?_
    rw [Nat.sub_self] at p3
    have e2 : vc = hfGo (vlt κ) (vs.length / 2) vs := p3
    rw [e2] at kN
    exact ret _ _ kF kN fun b o hb e => F₅.keep b o (G₁ b o e (by simpa using hb))
end Mine

-- W6
open PySem PySem.W PyProof.Rows PySem.Calls
set_option Elab.async false
set_option maxRecDepth 100000
namespace Mine

/-- an item of the heap: its number, its place, its two sides -/
structure Itm where
  x : Int
  k : Int
  near : List Int
  far : List Int

abbrev tupO (vs : List Value) : Obj := { cls := .type "tuple", data := .seq vs.toArray }

/-- the written-out objects bear the item at v -/
def ItmIn (T : List (Addr × Obj)) (v : Value) (it : Itm) : Prop :=
  ∃ (a sa ua : Addr) (t1 t2 : Tok) (svs uvs : List Value), v = .ref a ∧ (a, tupO [.int it.x t1, .int it.k t2, .ref sa, .ref ua]) ∈ T ∧
    (sa, tupO svs) ∈ T ∧ IntsAre svs it.near ∧ (ua, tupO uvs) ∈ T ∧ IntsAre uvs it.far

theorem ItmIn.mono {T T' : List (Addr × Obj)} {v : Value} {it : Itm} (h : ItmIn T v it) (hs : ∀ p ∈ T, p ∈ T') : ItmIn T' v it := by
  obtain ⟨a, sa, ua, t1, t2, svs, uvs, e, h1, h2, h3, h4, h5⟩ := h
  exact ⟨a, sa, ua, t1, t2, svs, uvs, e, hs _ h1, hs _ h2, h3, hs _ h4, h5⟩

section
variable {prog : Program} {w : World} {A : Around} {E : Value → Shared → Prop} {s : Shared} {env : Env}

/-- the element (x, k, (k,), ()) in the block's own names -/
theorem elt_items {px pk pk2 pt1 pt2 pt3 : Pos} {n1 n2 n3 : Nat} {m : Str → Option Value} {x k : Int} {tx tk : Tok} {cenv : Env} {Q : Value → Shared → Prop}
    (hkind : cenv.scope.kind = .function) (hx : cenv.kindOf "x" = some .local) (hk : cenv.kindOf "k" = some .local) (hn : s.heap.Ns cenv.locals m) (mx : m "x" = some (.int x tx)) (mk : m "k" = some (.int k tk))
    (h : Q (.ref (s.heap.objs.size + 2)) { s with heap := ((s.heap.push (tupO [.int k tk])).push (tupO [])).push (tupO [.int x tx, .int k tk, .ref s.heap.objs.size, .ref (s.heap.objs.size + 1)]) }) :
    wpAny (model prog w) A (eval (.Tuple [.Name "x" px, .Name "k" pk, .Tuple [.Name "k" pk2] n1 pt1, .Tuple [] n2 pt2] n3 pt3) cenv) Q E s := by
  refine Tuple_ (spliced_more (wpAny_Name (wpAny_loadName_local hkind hx hn mx ?_) (by decide)))
  refine spliced_more (wpAny_Name (wpAny_loadName_local hkind hk hn mk ?_) (by decide))
  refine spliced_more (Tuple_ (spliced_more (wpAny_Name (wpAny_loadName_local hkind hk hn mk (spliced_none ?_)) (by decide))))
  refine wpAny_newTuple ?_
  refine spliced_more (Tuple_ (spliced_none ?_))
  refine wpAny_newTuple ?_
  refine spliced_none ?_
  refine wpAny_newTuple ?_
  have e1 : (s.heap.push (tupO [.int k tk])).objs.size = s.heap.objs.size + 1 := Heap.size_push ..
  have e2 : ((s.heap.push (tupO [.int k tk])).push (tupO [])).objs.size = s.heap.objs.size + 2 := by rw [Heap.size_push, e1]
  dsimp only
  rw [e1, e2]
  exact h

theorem frKept {g h h' : Heap} {L e it : Addr} {m : Str → Option Value} (F : Fr g L h m) (heL : e ≠ L) (hiL : it ≠ L) (heg : g.get? e = none) (hig : g.get? it = none)
    (hk : ∀ b o, b ≠ e → b ≠ it → h.get? b = some o → h'.get? b = some o) : Fr g L h' m := by
  obtain ⟨oL, a1, a2, hoL, a3⟩ := F.ns
  refine ⟨⟨oL, a1, a2, hk _ _ heL.symm hiL.symm hoL, a3⟩, fun b x q => hk b x (fun z => ?_) (fun z => ?_) (F.keep b x q), F.above⟩
  · rw [z, heg] at q; cases q
  · rw [z, hig] at q; cases q

set_option maxHeartbeats 2000000 in
theorem compEnum {px pk pk2 pt1 pt2 pt3 p1 p2 pt : Pos} {n0 n1 n2 n3 : Nat} {iter : Expr} {scope : Scope} {pos : Pos} {e it l : Addr} {vs : List Value} {xs : List Int} {g : Heap} {L : Addr} {m : Str → Option Value} {RR : Value → Env → Result → Shared → Prop}
    (hh : A.handled = none) (hkind : scope.kind = .function) (hsx : scope.names.lookup ("x" : Str) = some NameKind.local) (hsk : scope.names.lookup ("k" : Str) = some NameKind.local) (hcell : ∀ y ∈ scope.names, y.2 ≠ .cell)
    (he : IsEnum s.heap e it 0 .none) (hit : s.heap.IsListIter it l 0) (hl : s.heap.IsList l vs.toArray) (hi : IntsAre vs xs) (hsz : xs.length ≤ 64) (F : Fr g L s.heap m)
    (hei : e ≠ it) (hle : l ≠ e) (hli : l ≠ it) (heL : e ≠ L) (hiL : it ≠ L) (heg : g.get? e = none) (hig : g.get? it = none)
    (ret : ∀ (D C : Addr) (T : List (Addr × Obj)) (ys : List Value) (ep : Nat) (h' : Heap) (tk' : Nat) (m' : Str → Option Value), h'.Ns C m' → C ≠ L → C ≠ D → (∀ p ∈ T, p.1 ≠ C) → g.get? C = none → s.heap.objs.size ≤ C → Fr g L h' m → News g L h' ((D, listOf ys.toArray ep) :: T) → (∀ p ∈ T, p.1 ≠ D) → ys.length = xs.length →
      (∀ j, j < xs.length → ItmIn T (ys.getD j .none) ⟨xs.getD j 0, j, [(j : Int)], []⟩) → (∀ b o, b ≠ e → b ≠ it → s.heap.get? b = some o → h'.get? b = some o) → s.heap.objs.size ≤ D → (∀ p ∈ T, s.heap.objs.size ≤ p.1) → RR (.ref D) (compEnv scope C env) (.ok .next) { s with heap := h', toks := tk' }) :
    wpAny (model prog w) A (newList []) (fun acc s₃ =>
      wpAny (model prog w) A (newFunctionEnv scope env.globals [] [] env.qual none .none (some env)) (fun cenv s₄ =>
        codeAny (model prog w) A (.compStart (.ListComp (.Tuple [.Name "x" px, .Name "k" pk, .Tuple [.Name "k" pk2] n1 pt1, .Tuple [] n2 pt2] n3 pt3) [⟨.Tuple [.Name "k" p1, .Name "x" p2] n0 pt, iter, [], 0⟩] scope pos) 0 (.ref e) acc { cenv with scope := scope })
          (fun r s' => RR acc { cenv with scope := scope } r s') s₄) E s₃) E s := by
  refine wpAny_newObj_type (hd := by size_fits) (wpAny_newFunctionEnv hcell (by intro y hy; simp at hy) (fun h₁ hns₁ hsb₁ => ?_) hkind)
  dsimp only at hns₁ hsb₁ ⊢
  generalize hH1 : s.heap.push { cls := .type "list", dict := none, data := .seq ([] : List Value).toArray } = H1 at hns₁ hsb₁ ⊢
  have hC : H1.objs.size = s.heap.objs.size + 1 := by rw [← hH1, Heap.size_push]
  have old : ∀ b o, s.heap.get? b = some o → h₁.get? b = some o := fun b o q =>
    hsb₁.extBut b o (by rw [hC]; exact Nat.ne_of_lt (Nat.lt_succ_of_lt (Heap.lt_size q))) (Heap.get?_push_of_some _ (hH1 ▸ Heap.get?_push_of_some _ q))
  have hacc : h₁.get? s.heap.objs.size = some (listOf #[] 0) := hsb₁.extBut _ _ (by rw [hC]; exact Nat.ne_of_lt (Nat.lt_succ_self _)) (Heap.get?_push_of_some _ (hH1 ▸ Heap.get?_push_size _ rfl))
  have hsz₁ : h₁.objs.size = s.heap.objs.size + 2 := by rw [hsb₁.1, Heap.size_push, hC]
  have helt : e < s.heap.objs.size := Heap.lt_size he
  obtain ⟨oi, hoi, hoi'⟩ := id hit
  have hilt : it < s.heap.objs.size := Heap.lt_size hoi
  obtain ⟨ol, hol, hol'⟩ := id hl
  have hllt : l < s.heap.objs.size := Heap.lt_size hol
  generalize hS : s.heap.objs.size = S at *
  -- the block's loop
  have loop : ∀ s₂ : Shared, s₂ = { s with heap := h₁, toks := s.toks + ([] : List (Str × Value)).length } →
      codeAny (model prog w) A (.compLoop (.ListComp (.Tuple [.Name "x" px, .Name "k" pk, .Tuple [.Name "k" pk2] n1 pt1, .Tuple [] n2 pt2] n3 pt3) [⟨.Tuple [.Name "k" p1, .Name "x" p2] n0 pt, iter, [], 0⟩] scope pos) 0 (.ref e) (.ref S) (compEnv scope H1.objs.size env))
        (fun r s' => RR (.ref S) (compEnv scope H1.objs.size env) r s') s₂ := by
    rintro s₂ rfl
    rw [hC]
    refine LCp.codeAny_compLoop_pair
      (fun k s' => ∃ (h' : Heap) (tk : Nat) (m' : Str → Option Value) (i : Nat) (old' : Value) (ys : List Value) (ep : Nat) (T : List (Addr × Obj)), s' = { s with heap := h', toks := tk } ∧ IsEnum h' e it ((i : Nat) : Int) old' ∧ h'.IsListIter it l i ∧ h'.IsList l vs.toArray ∧ h'.Ns (S + 1) m' ∧ h'.get? S = some (listOf (ys : List Value).toArray ep) ∧
        i ≤ xs.length ∧ k = xs.length + 1 - i ∧ ys.length = i ∧ S + 2 ≤ h'.objs.size ∧ (∀ p ∈ (T : List (Addr × Obj)), S + 2 ≤ p.1 ∧ h'.get? p.1 = some p.2) ∧ (∀ j, j < i → ItmIn T (ys.getD j .none) ⟨xs.getD j 0, j, [(j : Int)], []⟩) ∧
        ∀ b o, b < S → b ≠ e → b ≠ it → s.heap.get? b = some o → h'.get? b = some o) ?_ (xs.length + 1)
      ⟨h₁, _, _, 0, .none, [], 0, [], rfl, old _ _ he, ⟨oi, old _ _ hoi, hoi'⟩, ⟨ol, old _ _ hol, hol'⟩, hC ▸ hns₁, hacc, Nat.zero_le _, rfl, rfl, by omega, (fun _ h => nomatch h), (fun j h => absurd h (Nat.not_lt_zero _)), fun b o _ _ _ q => old b o q⟩
    rintro k s' ⟨H, tk, m', i, oldv, ys, ep, T, rfl, he', hit', hl', hn', hD', hi', rfl, hys, hS2, hT, hItm, hk⟩
    cases hv : vs.toArray[i]? with
    | none =>
      have hlen := hi.length
      have hle : ¬ i < xs.length := fun h => by
        have : i < vs.toArray.size := by simpa [hlen] using h
        rw [Array.getElem?_eq_getElem this] at hv
        cases hv
      have hin : i = xs.length := by omega
      refine wpAny_pyNext_enum_end hh he' hit' hl' hv fun h₂ he₂ => ?_
      replace he₂ : Heap.ExtBut it H h₂ := he₂
      have up : ∀ b o, b ≠ e → b ≠ it → s.heap.get? b = some o → h₂.get? b = some o := fun b o h1 h2 q => by
        have hb : b < S := hS ▸ Heap.lt_size q
        exact he₂ b o h2 (hk b o hb h1 h2 q)
      have F₃ := frKept F heL hiL heg hig up
      have gnew : ∀ b, S ≤ b → g.get? b = none := fun b hb => by
        cases q : g.get? b with
        | none => rfl
        | some o => exact absurd (hS ▸ Heap.lt_size (F.keep _ _ q)) (Nat.not_lt.mpr hb)
      have hL : L < S := hS ▸ F.ns.lt
      refine ret S (S + 1) T ys ep h₂ tk m' (hn'.extBut he₂ (Nat.ne_of_gt (Nat.lt_succ_of_lt hilt))) (Nat.ne_of_gt (Nat.lt_succ_of_lt hL)) (Nat.succ_ne_self _) (fun p hp => Nat.ne_of_gt (hT p hp).1) (gnew _ (Nat.le_succ _)) (Nat.le_succ _) F₃ (fun p hp => ?_) (fun p hp => Nat.ne_of_gt (Nat.lt_of_lt_of_le (Nat.lt_succ_of_lt (Nat.lt_succ_self _)) (hT p hp).1)) (by rw [hys, hin]) (by rw [← hin]; exact hItm) up (Nat.le_refl _) (fun p hp => Nat.le_of_succ_le (Nat.le_of_succ_le (hT p hp).1))
      rcases List.mem_cons.mp hp with rfl | hp
      · exact ⟨he₂ S _ (Nat.ne_of_gt hilt) hD', Nat.ne_of_gt hL, gnew _ (Nat.le_refl _)⟩
      · have hp2 := (hT p hp).1
        exact ⟨he₂ _ _ (Nat.ne_of_gt (Nat.lt_of_lt_of_le (Nat.lt_succ_of_lt (Nat.lt_succ_of_lt hilt)) hp2)) (hT p hp).2, Nat.ne_of_gt (Nat.lt_of_lt_of_le (Nat.lt_succ_of_lt (Nat.lt_succ_of_lt hL)) hp2), gnew _ (Nat.le_of_succ_le (Nat.le_of_succ_le hp2))⟩
    | some v =>
      have hlen := hi.length
      have hlt : i < xs.length := by
        have := (Array.getElem?_eq_some_iff.mp hv).1
        simpa [hlen] using this
      obtain ⟨tv, hgv⟩ := hi.get i xs[i] (by simp [hlt])
      have hvv : v = .int (xs.getD i 0) tv := by
        have hv' : vs[i]? = some v := by simpa using hv
        rw [hgv] at hv'
        rw [← Option.some.inj hv']
        simp [List.getD, hlt]
      subst hvv
      have heH : e < H.objs.size := Heap.lt_size he'
      refine wpAny_pyNext_enum_item he' hit' hl' hv hei fun h₂ heo hit₂ ht₂ hz₂ hk₂ => ?_
      dsimp only at heo ht₂ hz₂ hk₂ ⊢
      refine wpAny_letOwnedTupleGo_enum heo fun h₃ he₃ hs₃ => ?_
      replace hs₃ : Heap.SameBut e h₂ h₃ := hs₃
      have ht₃ : h₃.IsTuple H.objs.size #[.int i tk, .int (xs.getD i 0) tv] := ⟨_, (hs₃.2 _ (Nat.ne_of_gt heH)).trans ht₂, rfl, _, rfl⟩
      have hz₃ : h₃.objs.size = H.objs.size + 1 := hs₃.1.trans hz₂
      refine wpAny_assign_Tuple hh ht₃ rfl rfl fun h₄ hx₄ => ?_
      replace hx₄ : Heap.ExtBut h₃.objs.size h₃ h₄ := hx₄
      have hCH : S + 1 < H.objs.size := hS2
      have hkx : (compEnv scope (S + 1) env).kindOf "x" = some .local := hsx
      have hkk : (compEnv scope (S + 1) env).kindOf "k" = some .local := hsk
      have hp : ((compEnv scope (S + 1) env).scope.kind == .class || ((compEnv scope (S + 1) env).scope.kind == .module && (compEnv scope (S + 1) env).locals != (compEnv scope (S + 1) env).globals)) = false := by
        show (scope.kind == .class || (scope.kind == .module && (S + 1) != env.globals)) = false
        rw [hkind]; rfl
      -- what lies below the pair stays
      have up₄ : ∀ b o, b < H.objs.size → b ≠ e → b ≠ it → H.get? b = some o → h₄.get? b = some o := fun b o hb h1 h2 q =>
        hx₄ b o (by rw [hz₃]; exact Nat.ne_of_lt (Nat.lt_succ_of_lt hb)) (hs₃.extBut b o h1 (hk₂ b o h1 h2 q))
      have hn₄ : h₄.Ns (S + 1) m' := hn'.at fun o q => up₄ _ o hCH (Nat.ne_of_gt (Nat.lt_succ_of_lt helt)) (Nat.ne_of_gt (Nat.lt_succ_of_lt hilt)) q
      show wpAny _ A (do holding [.int (xs.getD i 0) tv] (assign (.Name "k" p1) (compEnv scope (S + 1) env) (.int i tk)); do holding [] (assign (.Name "x" p2) (compEnv scope (S + 1) env) (.int (xs.getD i 0) tv)); pure ()) _ _ _
      refine wpAny_bind (wpAny_holding (wpAny_assign_Name (wpAny_storeName_local hkk hn₄ (fun h₅ hn₅ hs₅ => ?_) hp)))
      replace hs₅ : Heap.SameBut (S + 1) h₄ h₅ := hs₅
      refine wpAny_bind (wpAny_holding (wpAny_assign_Name (wpAny_storeName_local hkx hn₅ (fun h₆ hn₆ hs₆ => wpAny_pure ?_) hp)))
      replace hs₆ : Heap.SameBut (S + 1) h₅ h₆ := hs₆
      have up₆ : ∀ b o, b < H.objs.size → b ≠ S + 1 → b ≠ e → b ≠ it → H.get? b = some o → h₆.get? b = some o := fun b o hb h0 h1 h2 q =>
        hs₆.extBut b o h0 (hs₅.extBut b o h0 (up₄ b o hb h1 h2 q))
      have hsz₆ : H.objs.size < h₆.objs.size := by
        obtain ⟨ot, hot, _⟩ := ht₃
        have h1 := Heap.lt_size (hx₄ _ _ (by rw [hz₃]; exact Nat.ne_of_lt (Nat.lt_succ_self _)) hot)
        rw [hs₆.1, hs₅.1]
        exact h1
      refine elt_items (x := xs.getD i 0) (k := (i : Int)) (tx := tv) (tk := tk) hkind hkx hkk hn₆ (by rfl) (by rfl) ?_
      dsimp only
      obtain ⟨m₆, hn₆'⟩ : ∃ m₆, h₆.Ns (S + 1) m₆ := ⟨_, hn₆⟩
      generalize hN : h₆.objs.size = N at hsz₆ ⊢
      generalize hh₉ : ((h₆.push (tupO [.int (i : Int) tk])).push (tupO [])).push (tupO [.int (xs.getD i 0) tv, .int (i : Int) tk, .ref N, .ref (N + 1)]) = h₉
      have s1 : (h₆.push (tupO [.int (i : Int) tk])).objs.size = N + 1 := by rw [Heap.size_push, hN]
      have s2 : ((h₆.push (tupO [.int (i : Int) tk])).push (tupO [])).objs.size = N + 2 := by rw [Heap.size_push, s1]
      have s3 : h₉.objs.size = N + 3 := by rw [← hh₉, Heap.size_push, s2]
      have g1 : h₉.get? N = some (tupO [.int (i : Int) tk]) := by
        rw [← hh₉]; exact Heap.get?_push_of_some _ (Heap.get?_push_of_some _ (by rw [← hN]; exact Heap.get?_push_size _ rfl))
      have g2 : h₉.get? (N + 1) = some (tupO []) := by
        rw [← hh₉]; exact Heap.get?_push_of_some _ (by rw [← s1]; exact Heap.get?_push_size _ rfl)
      have g3 : h₉.get? (N + 2) = some (tupO [.int (xs.getD i 0) tv, .int (i : Int) tk, .ref N, .ref (N + 1)]) := by
        rw [← hh₉, ← s2]; exact Heap.get?_push_size _ rfl
      have up₉ : ∀ b o, h₆.get? b = some o → h₉.get? b = some o := fun b o q => by
        rw [← hh₉]; exact Heap.get?_push_of_some _ (Heap.get?_push_of_some _ (Heap.get?_push_of_some _ q))
      have hD₉ : h₉.get? S = some (listOf ys.toArray ep) := up₉ _ _ (up₆ _ _ (Nat.lt_of_succ_lt hCH) (Nat.ne_of_lt (Nat.lt_succ_self _)) (Nat.ne_of_gt helt) (Nat.ne_of_gt hilt) hD')
      refine append_at (its := ys.toArray) (n := ep) hD₉ (fun h' hs' ho' => ?_) (by rw [List.size_toArray, sizeLine_eq]; omega)
      replace hs' : Heap.SameBut S h₉ h' := hs'
      have hSN : S + 2 ≤ N := Nat.le_trans hS2 (Nat.le_of_lt hsz₆)
      have nS : ∀ b, S + 1 ≤ b → b ≠ S := fun b hb => Nat.ne_of_gt hb
      have up' : ∀ b o, b < H.objs.size → b ≠ S → b ≠ S + 1 → b ≠ e → b ≠ it → H.get? b = some o → h'.get? b = some o := fun b o hb h0 h1 h2 h3 q =>
        hs'.extBut b o h0 (up₉ b o (up₆ b o hb h1 h2 h3 q))
      have from₃ : ∀ b o, b < H.objs.size → b ≠ S → b ≠ S + 1 → h₃.get? b = some o → h'.get? b = some o := fun b o hb h0 h1 q =>
        hs'.extBut b o h0 (up₉ b o (hs₆.extBut b o h1 (hs₅.extBut b o h1 (hx₄ b o (by rw [hz₃]; exact Nat.ne_of_lt (Nat.lt_succ_of_lt hb)) q))))
      have hitH : it < H.objs.size := by obtain ⟨o', q, _⟩ := hit'; exact Heap.lt_size q
      have hlH : l < H.objs.size := by obtain ⟨o', q, _⟩ := hl'; exact Heap.lt_size q
      have new3 : ∀ b o, S + 2 ≤ b → h₉.get? b = some o → h'.get? b = some o := fun b o hb q => hs'.extBut b o (nS b (Nat.le_of_succ_le hb)) q
      refine ⟨xs.length + 1 - (i + 1), by omega, h', _, m₆, i + 1, .int (xs.getD i 0) tv, ys ++ [.ref (N + 2)], ep + 1, (N + 2, tupO [.int (xs.getD i 0) tv, .int (i : Int) tk, .ref N, .ref (N + 1)]) :: (N + 1, tupO []) :: (N, tupO [.int (i : Int) tk]) :: T, rfl, ?_, ?_, ?_, ?_, ?_, hlt, rfl, by simp [hys], ?_, ?_, ?_, ?_⟩
      · have e1 : ((i + 1 : Nat) : Int) = (i : Int) + 1 := by omega
        rw [e1]
        exact from₃ _ _ heH (Nat.ne_of_lt helt) (Nat.ne_of_lt (Nat.lt_succ_of_lt helt)) he₃
      · obtain ⟨o', q, r⟩ := hit₂
        exact ⟨o', from₃ _ _ hitH (Nat.ne_of_lt hilt) (Nat.ne_of_lt (Nat.lt_succ_of_lt hilt)) ((hs₃.2 it hei.symm).trans q), r⟩
      · obtain ⟨o', q, r⟩ := hl'
        exact ⟨o', up' _ _ hlH (Nat.ne_of_lt hllt) (Nat.ne_of_lt (Nat.lt_succ_of_lt hllt)) hle hli q, r⟩
      · exact hn₆'.at fun o q => hs'.extBut _ o (nS _ (Nat.le_refl _)) (up₉ _ o q)
      · rw [ho']; simp
      · rw [hs'.1, s3]; exact Nat.le_trans hSN (Nat.le_add_right _ _)
      · intro p hp
        rcases List.mem_cons.mp hp with rfl | hp
        · exact ⟨Nat.le_trans hSN (Nat.le_add_right _ _), new3 _ _ (Nat.le_trans hSN (Nat.le_add_right _ _)) g3⟩
        · rcases List.mem_cons.mp hp with rfl | hp
          · exact ⟨Nat.le_trans hSN (Nat.le_add_right _ _), new3 _ _ (Nat.le_trans hSN (Nat.le_add_right _ _)) g2⟩
          · rcases List.mem_cons.mp hp with rfl | hp
            · exact ⟨hSN, new3 _ _ hSN g1⟩
            · have hp2 := (hT p hp).1
              exact ⟨hp2, up' _ _ (Heap.lt_size (hT p hp).2) (Nat.ne_of_gt (Nat.lt_of_lt_of_le (Nat.lt_succ_of_lt (Nat.lt_succ_self _)) hp2)) (Nat.ne_of_gt hp2) (Nat.ne_of_gt (Nat.lt_of_lt_of_le (Nat.lt_succ_of_lt (Nat.lt_succ_of_lt helt)) hp2)) (Nat.ne_of_gt (Nat.lt_of_lt_of_le (Nat.lt_succ_of_lt (Nat.lt_succ_of_lt hilt)) hp2)) (hT p hp).2⟩
      · intro j hj
        by_cases hji : j < i
        · have e1 : (ys ++ [Value.ref (N + 2)]).getD j .none = ys.getD j .none := by
            have : j < ys.length := by omega
            simp [List.getD, List.getElem?_append_left this]
          rw [e1]
          exact (hItm j hji).mono fun p hp => .tail _ (.tail _ (.tail _ hp))
        · have hji' : j = i := by omega
          subst hji'
          have e1 : (ys ++ [Value.ref (N + 2)]).getD j .none = .ref (N + 2) := by
            rw [← hys]; simp [List.getD]
          rw [e1]
          exact ⟨N + 2, N, N + 1, tv, tk, [.int (j : Int) tk], [], rfl, .head _, .tail _ (.tail _ (.head _)), .cons _ _ .nil, .tail _ (.head _), .nil⟩
      · intro b o hb h2 h3 q
        have q' := hk b o hb h2 h3 q
        exact up' b o (Heap.lt_size q') (Nat.ne_of_lt hb) (Nat.ne_of_lt (Nat.lt_succ_of_lt hb)) h2 h3 q'
  exact codeAny_compStart_list (loop _ rfl) (wpAny_pyIter_enum (old _ _ he) (loop _ rfl))

theorem frSame {g h h' : Heap} {L C : Addr} {m : Str → Option Value} (F : Fr g L h m) (hs : Heap.SameBut C h h') (hC : C ≠ L) (hg : g.get? C = none) : Fr g L h' m :=
  F.change hs hC hg

set_option maxHeartbeats 2000000 in
theorem assignEnum {y : Str} {py spos : Pos} {px pk pk2 pt1 pt2 pt3 p1 p2 pt : Pos} {n0 n1 n2 n3 : Nat} {iter : Expr} {scope : Scope} {pos : Pos} {vs : List Value} {xs : List Int} {g : Heap} {L : Addr} {Q : Flow → Shared → Prop}
    (hsw : swapsWith (.ListComp (.Tuple [.Name "x" px, .Name "k" pk, .Tuple [.Name "k" pk2] n1 pt1, .Tuple [] n2 pt2] n3 pt3) [⟨.Tuple [.Name "k" p1, .Name "x" p2] n0 pt, iter, [], 0⟩] scope pos) (some (.Name y py)) spos.line env = pure true)
    (hh : A.handled = none) (hkind : scope.kind = .function) (hsx : scope.names.lookup ("x" : Str) = some NameKind.local) (hsk : scope.names.lookup ("k" : Str) = some NameKind.local) (hcell : ∀ y ∈ scope.names, y.2 ≠ .cell)
    (hfree : ∀ z ∈ scope.names, z.2 ≠ .free) (hnames : ∀ z ∈ scope.names, z.2 = .local → scope.names.lookup z.1 = some .local)
    (hy : env.kindOf y = some .local) (hp : (env.scope.kind == .class || (env.scope.kind == .module && env.locals != env.globals)) = false) (hL : env.locals = L)
    (hi : IntsAre vs xs) (hsz : xs.length ≤ 64)
    (h : wpAny (model prog w) A (eval iter env) (fun xv s₁ => wpAny (model prog w) A (pyIter xv) (fun itv s₂ => ∃ (e it l : Addr) (m : Str → Option Value), itv = .ref e ∧ IsEnum s₂.heap e it 0 .none ∧ s₂.heap.IsListIter it l 0 ∧ s₂.heap.IsList l vs.toArray ∧ Fr g L s₂.heap m ∧
      e ≠ it ∧ l ≠ e ∧ l ≠ it ∧ e ≠ L ∧ it ≠ L ∧ g.get? e = none ∧ g.get? it = none ∧
      ∀ (D : Addr) (T : List (Addr × Obj)) (ys : List Value) (ep : Nat) (h' : Heap) (tk' : Nat), Fr g L h' (fun z => if z = y then some (.ref D) else m z) → News g L h' ((D, listOf ys.toArray ep) :: T) → (∀ p ∈ T, p.1 ≠ D) → ys.length = xs.length →
        (∀ j, j < xs.length → ItmIn T (ys.getD j .none) ⟨xs.getD j 0, j, [(j : Int)], []⟩) → Q .next { s₂ with heap := h', toks := tk' }) E s₁) E s)
    (hs : ∀ x, foldedSetIterable iter env x = pure x := by intro _; rfl) :
    wpAny (model prog w) A (exec (.Assign [.Name y py] (.ListComp (.Tuple [.Name "x" px, .Name "k" pk, .Tuple [.Name "k" pk2] n1 pt1, .Tuple [] n2 pt2] n3 pt3) [⟨.Tuple [.Name "k" p1, .Name "x" p2] n0 pt, iter, [], 0⟩] scope pos) spos) env) Q E s := by
  rw [exec_Assign_Name_used _ _ _ _ hsw]
  refine wpAny_bind (wpAny_standAt (wpAny_bind ?_))
  show wpAny _ A (do let _ ← comprehension (.ListComp (.Tuple [.Name "x" px, .Name "k" pk, .Tuple [.Name "k" pk2] n1 pt1, .Tuple [] n2 pt2] n3 pt3) [⟨.Tuple [.Name "k" p1, .Name "x" p2] n0 pt, iter, [], 0⟩] scope pos) scope env _ (newList []) false (eval iter env) (some (assign (.Name y py) env))) _ _ s
  refine wpAny_bind (wpAny_mono (wpAny_comprehension_use (Q := fun _ s' => Q .next s') rfl hs hfree hkind hnames (wpAny_mono h (fun xv s₁ h₁ => wpAny_mono h₁ (fun itv s₂ h₂ => ?_) fun _ _ e => e) fun _ _ e => e)) (fun _ s' hq => wpAny_pure (wpAny_pure hq)) fun _ _ e => e)
  obtain ⟨e, it, l, m, rfl, he, hit, hl, F, hei, hle, hli, heL, hiL, heg, hig, hQ⟩ := h₂
  refine compEnum (RR := fun acc cenv r s' => match r with
      | .ok _ => wpAny (model prog w) A (assign (.Name y py) env acc) (fun _ s'' => ∃ m, s''.heap.Ns cenv.locals m ∧ ∀ h', Heap.SameBut cenv.locals s''.heap h' → Q .next { s'' with heap := h' }) E s'
      | .error x => ∃ m, s'.heap.Ns cenv.locals m ∧ ∀ h', Heap.SameBut cenv.locals s'.heap h' → wpAny (model prog w) A (PySem.passOn "comprehension.variables-let-go" x cenv) (fun _ s' => Q .next s') E { s' with heap := h' }) hh hkind hsx hsk hcell he hit hl hi hsz F hei hle hli heL hiL heg hig ?_
  intro D C T ys ep h' tk' m' hnC hCL hCD hTC hgC hCs F' N' hTD hys hItm _ _ _
  refine wpAny_assign_Name (wpAny_storeName_local hy (hL ▸ F'.ns) (fun h₂ hn₂ hs₂ => ?_) hp)
  rw [hL] at hn₂ hs₂
  refine ⟨m', hnC.sameBut hs₂ hCL, fun h₃ hs₃ => ?_⟩
  have F₂ := F'.set hn₂ hs₂
  have N₂ := N'.set hs₂
  refine hQ D T ys ep h₃ _ (frSame F₂ hs₃ hCL hgC) (fun p hp => ⟨(hs₃.2 p.1 ?_).trans (N₂ p hp).1, (N₂ p hp).2⟩) hTD hys hItm
  rcases List.mem_cons.mp hp with rfl | hp
  · exact hCD.symm
  · exact hTC p hp
end
end Mine

-- W8
open PySem PySem.W PyProof.Rows PySem.Calls
set_option Elab.async false
set_option maxRecDepth 100000
namespace Mine
theorem lex_asymm {a b : Int × Int} (h : lexlt a b = true) : lexlt b a = false := by
  unfold lexlt at *
  simp only [decide_eq_true_eq, decide_eq_false_iff_not] at *
  omega
theorem lex_ntrans {a b c : Int × Int} (h : lexlt a b = false) (h' : lexlt b c = false) : lexlt a c = false := by
  unfold lexlt at *
  simp only [decide_eq_false_iff_not] at *
  omega
theorem lex_eq {a b : Int × Int} (h : lexlt a b = false) (h' : lexlt b a = false) : a = b := by
  unfold lexlt at *
  simp only [decide_eq_false_iff_not] at *
  exact Prod.ext (by omega) (by omega)
section
variable {prog : Program} {w : World} {A : Around} {E : Value → Shared → Prop} {s : Shared}

theorem Vok.keeps {h h' : Heap} {κ : Value → Int × Int} {vs : List Value} (V : Vok h κ vs) (hk : ∀ b o, h.get? b = some o → h'.get? b = some o) : Vok h' κ vs :=
  ⟨fun v hv => (V.1 v hv).keeps hk, V.2⟩

/-- max's loop over a list of items: the best of the first j so far -/
theorem max_loopV {l I S : Addr} {vs : List Value} {κ : Value → Int × Int} {H : Heap} {R : Result → Shared → Prop}
    (hh : A.handled = none) (hu : A.units + 1 < cLine) (hlI : l ≠ I) (hSI : S ≠ I) (hHI : H.objs.size ≤ I) (hHS : H.objs.size ≤ S) (hl : H.IsList l vs.toArray) (V : Vok H κ vs)
    (hR : ∀ v h' tk', v ∈ vs → (∀ u ∈ vs, lexlt (κ v) (κ u) = false) → (∀ b o, H.get? b = some o → h'.get? b = some o) → R (.ok (.ret v)) { s with heap := h', toks := tk' }) :
    ∀ (r j : Nat) (h : Heap) (tk : Nat) (vb : Value) (c : Nat), vs.length - j = r → j ≤ vs.length → (∀ b o, H.get? b = some o → h.get? b = some o) →
      h.get? S = some { cls := .type "list", dict := none, data := .seq #[vb, vb] c, slots := #[] } → h.IsListIter I l j → vb ∈ vs → (∀ i, i < j → lexlt (κ vb) (κ (vs.getD i .none)) = false) →
      codeAny (model prog w) A (.builtin "max.loop" ⟨[.ref I, .none, .ref S], []⟩) R { s with heap := h, toks := tk } := by
  have hname : (toString "max" ++ toString ".loop" : String) = "max.loop" := by decide
  have W := Walks.list (prog := prog) (w := w) (A := A.in1) hh I l hlI vs.toArray
  have hsz : vs.toArray.size = vs.length := List.size_toArray ..
  have up : ∀ {h h' : Heap}, (∀ b o, H.get? b = some o → h.get? b = some o) → (∀ b o, b ∉ [I] → h.get? b = some o → h'.get? b = some o) → ∀ b o, H.get? b = some o → h'.get? b = some o :=
    fun k1 k2 b o q => k2 b o (by rw [List.mem_singleton]; exact Nat.ne_of_lt (Nat.lt_of_lt_of_le (Heap.lt_size q) hHI)) (k1 b o q)
  have upS : ∀ {h h' : Heap}, (∀ b o, H.get? b = some o → h.get? b = some o) → Heap.SameBut S h h' → ∀ b o, H.get? b = some o → h'.get? b = some o :=
    fun k1 k2 b o q => k2.extBut b o (Nat.ne_of_lt (Nat.lt_of_lt_of_le (Heap.lt_size q) hHS)) (k1 b o q)
  intro r
  induction r with
  | zero =>
    intro j h tk vb c hr hj hk hS hit hvb hbest
    have hin : j = vs.length := by omega
    refine codeAny_builtin PySem.F.entry_max_loop ?_
    rw [Around.under_plainId PySem.F.plain_max_loop _]
    show wpAny _ A.in1 (seqItems? (.ref S) >>= _) _ _ _
    refine wpAny_bind (wpAny_seqItems hS rfl ?_)
    show wpAny _ A.in1 (tryCatch (pyNext (.ref I)) _ >>= _) _ _ _
    refine wpAny_bind (wpAny_tryCatch (W.done _ _ _ ⟨by rw [hsz, ← hin]; exact hit, hl.at fun o q => hk _ o q⟩ fun h' tk' hk' => ?_))
    have hS' := hk' S _ (by simpa using hSI) hS
    have s1 := Heap.SameBut.update h' S (Obj.mapSeq fun _ => (#[] : Array Value))
    show wpAny _ A.in1 (updateSeq S (fun _ => #[]) >>= _) _ _ _
    refine wpAny_bind ?_
    refine wpAny_updateSeq hS' rfl (wpAny_bind (wpAny_letGo (wpAny_pure ?_)))
    refine hR vb _ _ hvb (fun u hu' => ?_) (upS (up hk hk') s1)
    obtain ⟨i, hi, rfl⟩ := List.mem_iff_getElem.mp hu'
    have := hbest i (by omega)
    simpa [List.getD, hi] using this
  | succ r ih =>
    intro j h tk vb c hr hj hk hS hit hvb hbest
    have hlt : j < vs.length := by omega
    refine codeAny_builtin PySem.F.entry_max_loop ?_
    rw [Around.under_plainId PySem.F.plain_max_loop _]
    show wpAny _ A.in1 (seqItems? (.ref S) >>= _) _ _ _
    refine wpAny_bind (wpAny_seqItems hS rfl ?_)
    show wpAny _ A.in1 (tryCatch (pyNext (.ref I)) _ >>= _) _ _ _
    refine wpAny_bind (wpAny_tryCatch (W.item j _ _ _ (by rw [hsz]; exact hlt) ⟨hit, hl.at fun o q => hk _ o q⟩ fun v h' tk' hP hst' hk' => ?_))
    have hv : vs[j]? = some v := by simpa using hP
    have hvm : v ∈ vs := List.mem_of_getElem? hv
    have hvj : vs.getD j .none = v := by simp [List.getD, hv]
    have hk1 := up hk hk'
    have hS' := hk' S _ (by simpa using hSI) hS
    have V' := V.keeps hk1
    show wpAny _ A.in1 (tryCatch (holding [v, v] (richCompare .Gt v vb >>= _)) _ >>= _) _ _ _
    refine wpAny_bind (wpAny_tryCatch (wpAny_holding (wpAny_bind (tupGt (V'.1 v hvm) (V'.1 vb hvb) (V'.2 v hvm vb hvb) hu ?_))))
    refine wpAny_bind (wpAny_holding (wpAny_truthy_bool ?_))
    refine wpAny_bind (wpAny_letGo (wpAny_pure ?_))
    by_cases hb' : lexlt (κ vb) (κ v) = true
    · have s1 := Heap.SameBut.update h' S (Obj.mapSeq fun _ => #[v, v])
      obtain ⟨c2, hc2⟩ : ∃ c2, (h'.update S (Obj.mapSeq fun _ => #[v, v])).get? S = some { cls := .type "list", dict := none, data := .seq #[v, v] c2, slots := #[] } := ⟨_, get?_update_seq hS' fun _ => #[v, v]⟩
      rw [hb']
      simp only [if_true]
      refine wpAny_bind ?_
      refine wpAny_updateSeq hS' rfl (wpAny_bind (wpAny_letGo ?_))
      rw [hname]
      refine wpAny_pure ⟨plainId_quiet PySem.F.plain_max_loop _, ih (j + 1) _ _ v c2 (by omega) hlt (upS hk1 s1) hc2 ?_ hvm ?_⟩
      · obtain ⟨o, q, r⟩ := hst'.1
        exact ⟨o, (s1.2 I hSI.symm).trans q, r⟩
      · intro i hi
        by_cases e : i < j
        · exact lex_ntrans (lex_asymm hb') (hbest i e)
        · obtain rfl : i = j := by omega
          rw [hvj]; exact lexlt_irrefl _
    · have hb'' : lexlt (κ vb) (κ v) = false := by simpa using hb'
      rw [hb'']
      simp only [Bool.false_eq_true, if_false]
      refine wpAny_bind (wpAny_letGo ?_)
      rw [hname]
      refine wpAny_pure ⟨plainId_quiet PySem.F.plain_max_loop _, ih (j + 1) _ _ vb c (by omega) hlt hk1 hS' hst'.1 hvb ?_⟩
      intro i hi
      by_cases e : i < j
      · exact hbest i e
      · obtain rfl : i = j := by omega
        rw [hvj]; exact hb''

theorem maxH {l : Addr} {vs : List Value} {κ : Value → Int × Int} {Q : Value → Shared → Prop} (hh : A.handled = none) (hu : A.units + 1 < cLine) (hl : s.heap.IsList l vs.toArray) (hne : 0 < vs.length) (V : Vok s.heap κ vs)
    (hQ : ∀ v h' tk', v ∈ vs → (∀ u ∈ vs, lexlt (κ v) (κ u) = false) → (∀ b o, s.heap.get? b = some o → h'.get? b = some o) → Q v { s with heap := h', toks := tk' }) :
    wpAny (model prog w) A (call (.builtin "max") [.ref l]) Q E s := by
  have hname : (toString "max" ++ toString ".loop" : String) = "max.loop" := by decide
  refine call_function_tree F.kind_max F.plain_max F.entry_max (F.args_max1 _) ?_
  show wpAny _ A.in1 (Builtin.Builtins.bindParams "max" ["key", "default"] 0 ⟨[], []⟩ >>= _) _ _ s
  refine wpAny_bind (wpAny_of_eq (show Builtin.Builtins.bindParams "max" ["key", "default"] 0 ⟨[], []⟩ = pure [none, none] from rfl) ?_)
  refine wpAny_bind (wpAny_pure ?_)
  refine wpAny_bind (wpAny_pyIter_list hl ?_)
  refine wpAny_bind (wpAny_newObj_type ?_)
  rw [hname]
  obtain ⟨ol, hol, hol'⟩ := id hl
  have hlI : l ≠ s.heap.objs.size := Nat.ne_of_lt (Heap.lt_size hol)
  generalize hH1 : s.heap.push { cls := .type "list_iterator", data := .fields #[.ref l, .int 0 0] } = H1
  have z1 : H1.objs.size = s.heap.objs.size + 1 := by rw [← hH1, Heap.size_push]
  have W := Walks.list (prog := prog) (w := w) (A := A.in1) hh s.heap.objs.size l hlI vs.toArray
  have hsz : vs.toArray.size = vs.length := List.size_toArray ..
  refine wpAny_pure ⟨plainId_quiet F.plain_max_loop _, ?_⟩
  dsimp only
  rw [z1]
  generalize hH2 : H1.push { cls := .type "list", dict := none, data := .seq ([] : List Value).toArray } = H2
  have k2 : ∀ b o, s.heap.get? b = some o → H2.get? b = some o := fun b o q => hH2 ▸ Heap.get?_push_of_some _ (hH1 ▸ Heap.get?_push_of_some _ q)
  have hS : H2.get? (s.heap.objs.size + 1) = some { cls := .type "list", dict := none, data := .seq ([] : List Value).toArray } := by rw [← hH2, ← z1]; exact Heap.get?_push_size _ rfl
  have hI : H2.IsListIter s.heap.objs.size l 0 := ⟨_, hH2 ▸ Heap.get?_push_of_some _ (hH1 ▸ Heap.get?_push_size _ rfl), rfl, rfl⟩
  have hSI : s.heap.objs.size + 1 ≠ s.heap.objs.size := Nat.succ_ne_self _
  refine codeAny_builtin F.entry_max_loop ?_
  rw [Around.under_plainId F.plain_max_loop _]
  show wpAny _ A.in1 (seqItems? (.ref (s.heap.objs.size + 1)) >>= _) _ _ _
  refine wpAny_bind (wpAny_seqItems hS rfl ?_)
  show wpAny _ A.in1 (tryCatch (pyNext (.ref s.heap.objs.size)) _ >>= _) _ _ _
  refine wpAny_bind (wpAny_tryCatch (W.item 0 _ _ _ (by rw [hsz]; exact hne) ⟨hI, hl.at fun o q => k2 _ o q⟩ fun v h' tk hP hst' hk' => ?_))
  have hv : vs[0]? = some v := by simpa using hP
  have hvm : v ∈ vs := List.mem_of_getElem? hv
  have hS' := hk' _ _ (by simpa using hSI) hS
  have k3 : ∀ b o, s.heap.get? b = some o → h'.get? b = some o := fun b o q => hk' b o (by rw [List.mem_singleton]; exact Nat.ne_of_lt (Heap.lt_size q)) (k2 b o q)
  show wpAny _ A.in1 (updateSeq (s.heap.objs.size + 1) (fun _ => #[v, v]) >>= _) _ _ _
  refine wpAny_bind ?_
  refine wpAny_updateSeq hS' rfl ?_
  rw [hname]
  have s1 := Heap.SameBut.update h' (s.heap.objs.size + 1) (Obj.mapSeq fun _ => #[v, v])
  obtain ⟨c2, hc2⟩ : ∃ c2, (h'.update (s.heap.objs.size + 1) (Obj.mapSeq fun _ => #[v, v])).get? (s.heap.objs.size + 1) = some { cls := .type "list", dict := none, data := .seq #[v, v] c2, slots := #[] } := ⟨_, get?_update_seq hS' fun _ => #[v, v]⟩
  refine wpAny_pure ⟨plainId_quiet F.plain_max_loop _, max_loopV (H := s.heap) (l := l) (vs := vs) (κ := κ) hh hu hlI hSI (Nat.le_refl _) (Nat.le_succ _) hl V (fun v h'' tk'' a b c => hQ v h'' tk'' a b c) _ 1 _ _ v c2 rfl (by omega)
    (fun b o q => s1.extBut b o (Nat.ne_of_lt (Nat.lt_succ_of_lt (Heap.lt_size q))) (k3 b o q)) hc2 ?_ hvm ?_⟩
  · obtain ⟨o, q, r⟩ := hst'.1
    exact ⟨o, (s1.2 _ hSI.symm).trans q, r⟩
  · intro i hi
    obtain rfl : i = 0 := by omega
    rw [show vs.getD 0 .none = v by simp [List.getD, hv]]
    exact lexlt_irrefl _

theorem remove_loopV {l : Addr} {vs : List Value} {n : Nat} {v : Value} {κ : Value → Int × Int} {R : Result → Shared → Prop} (hl : s.heap.get? l = some (listOf vs.toArray n)) (hu : A.units + 1 < cLine) (V : Vok s.heap κ vs) (hv : v ∈ vs) (hfit : vs.length ≤ 64)
    (hR : ∀ k, k < vs.length → vs.getD k .none = v → (∀ i, i < k → vs.getD i .none ≠ v) → R (.ok (.ret .none)) { s with heap := s.heap.update l (Obj.mapSeq fun xs => xs.eraseIdxIfInBounds k) }) :
    ∀ (r j : Nat), vs.length - j = r → (∀ i, i < j → vs.getD i .none ≠ v) → codeAny (model prog w) A (.builtin "list.remove.loop" ⟨[.ref l, v, rawInt (j : Int)], []⟩) R s := by
  intro r
  induction r with
  | zero =>
    intro j hr hno
    obtain ⟨i, hi, e⟩ := List.mem_iff_getElem.mp hv
    exact absurd (by simpa [List.getD, hi] using e) (hno i (by omega))
  | succ r ih =>
    intro j hr hno
    have hlt : j < vs.length := by omega
    have hx : vs.toArray[((j : Nat) : Int).toNat]? = some (vs.getD j .none) := by simp [List.getD, hlt]
    refine codeAny_builtin PySem.MeetsSeq.entry_remove_loop ?_
    rw [Around.under_plainId PySem.MeetsSeq.plain_remove_loop _]
    show wpAny _ A.in1 (Builtin.List.listItems (.ref l) >>= _) _ _ s
    refine wpAny_bind (listItems_at hl rfl ?_)
    rw [hx]
    dsimp only
    refine wpAny_bind (tupEqB (V.1 _ (getD_mem hlt)) (V.1 v hv) (V.2 _ (getD_mem hlt) v hv) hu ?_)
    by_cases e : vs.getD j .none = v
    · rw [e]
      simp only [beq_self_eq_true, if_true]
      have h1 := PySem.MeetsSeq.size_erased vs.toArray ((j : Int)).toNat
      have h2 : vs.toArray.size = vs.length := by simp
      refine wpAny_bind (listUpdate_at hl rfl ?_ (by rw [h2, sizeLine_eq]; omega) (by rw [sizeLine_eq]; omega))
      rw [Int.toNat_natCast]
      exact wpAny_pure (hR j hlt e hno)
    · have hb : (vs.getD j .none == v) = false := by simpa using e
      rw [hb]
      simp only [Bool.false_eq_true, if_false]
      have hc : ((j : Int) + 1) = ((j + 1 : Nat) : Int) := by omega
      rw [hc]
      refine wpAny_pure ⟨plainId_quiet PySem.MeetsSeq.plain_remove_loop _, ih (j + 1) (by omega) fun i hi => ?_⟩
      by_cases h : i < j
      · exact hno i h
      · obtain rfl : i = j := by omega
        exact e

theorem eraseIdx_first {vs : List Value} {v : Value} : ∀ {k : Nat}, k < vs.length → vs.getD k .none = v → (∀ i, i < k → vs.getD i .none ≠ v) → vs.eraseIdx k = vs.erase v := by
  induction vs with
  | nil => intro k h; exact absurd h (Nat.not_lt_zero _)
  | cons a r ih =>
    intro k hk e hno
    cases k with
    | zero =>
      have : a = v := by simpa using e
      subst this
      simp
    | succ k =>
      have ha : a ≠ v := by simpa using hno 0 (Nat.succ_pos _)
      have := ih (k := k) (by simpa using hk) (by simpa using e) (fun i hi => by simpa using hno (i + 1) (by omega))
      rw [List.eraseIdx_cons_succ, this, List.erase_cons_tail (by simpa using ha)]

variable {h₀ : Heap} {L D : Addr} {m : Str → Option Value} {news news' : List (Addr × Obj)} {n : Nat} {vs : List Value}
theorem removeV {v : Value} {κ : Value → Int × Int} {Q : Value → Shared → Prop} (F : Fr h₀ L s.heap m) (N : News h₀ L s.heap news) (U : Upd D (listOf vs.toArray n) (listOf (vs.erase v).toArray (n + 1)) news news')
    (V : Vok s.heap κ vs) (hv : v ∈ vs) (hu : A.units + 1 < cLine) (hfit : vs.length ≤ 64)
    (h : ∀ h', Fr h₀ L h' m → News h₀ L h' news' → (∀ b o, b ≠ D → s.heap.get? b = some o → h'.get? b = some o) → Q .none { s with heap := h' }) :
    wpAny (model prog w) A (call (.builtin "list.remove") [.ref D, v]) Q E s := by
  obtain ⟨pre, post, rfl, rfl, a, b⟩ := U.split
  have z := N (D, listOf vs.toArray n) (List.mem_append.mpr (.inr (.head _)))
  refine wpAny_call (codeAny_call_builtin PySem.F.slot_list_remove.plain PySem.F.entry_list_remove (PySem.F.slot_list_remove.check _ _ _ _ _ _ _ _ ⟨_, z.1, rfl⟩ (PySem.F.args_list_remove_2 _ _) ?_))
  show wpAny _ A.in1 (again (.builtin "list.remove.loop" ⟨[.ref D, v, rawInt 0], []⟩)) _ _ s
  refine wpAny_pure ⟨plainId_quiet PySem.MeetsSeq.plain_remove_loop _, ?_⟩
  refine remove_loopV z.1 hu V hv hfit (fun k hk e hno => ?_) _ 0 rfl (fun i hi => absurd hi (Nat.not_lt_zero _))
  have hs := Heap.SameBut.update s.heap D (Obj.mapSeq fun xs => xs.eraseIdxIfInBounds k)
  refine h _ (F.change hs z.2.1 z.2.2) (ki_turn _ N a b ?_ ?_) fun b o hb q => hs.extBut b o hb q
  · show vs.toArray.eraseIdxIfInBounds k = (vs.erase v).toArray
    rw [← eraseIdx_first hk e hno]
    apply Array.toList_inj.mp
    simp [Array.toList_eraseIdxIfInBounds]
  · have h1 : (vs.erase v).length = vs.length - 1 := List.length_erase_of_mem hv
    have hq : (vs.erase v).toArray.size ≠ vs.toArray.size := by simp; omega
    rw [if_neg (by simpa using hq)]
end
end Mine

-- S1
open PySem PySem.W PyProof.Rows PySem.Calls
set_option Elab.async false
namespace Mine

/-- an order of n places: strict, total -/
structure TotL (n : Nat) (lt : Nat → Nat → Bool) : Prop where
  trans : ∀ a b c, lt a b = true → lt b c = true → lt a c = true
  tot : ∀ a b, a < n → b < n → a ≠ b → lt a b = false → lt b a = true
  asym : ∀ a b, lt a b = true → lt b a = false

def cmp0 (n : Nat) (lt : Nat → Nat → Bool) (i j : Nat) (C : Bool → Shared → Prop) (s : Shared) : Prop := i < n ∧ j < n ∧ C (lt i j) s

theorem kas_from0 {α : Type} {n : Nat} {lt : Nat → Nat → Bool} {cmp : Nat → Nat → (Bool → Shared → Prop) → Shared → Prop} {s : Shared} (hc : ∀ i j (C : Bool → Shared → Prop), i < n → j < n → C (lt i j) s → cmp i j C s) :
    ∀ (t : KasT α) {Q : α → Shared → Prop}, t.kasWp (cmp0 n lt) Q s → t.kasWp cmp Q s
  | .ret _, _, h => h
  | .ask i j k, Q, h => by
    obtain ⟨h1, h2, h3⟩ := h
    exact hc i j _ h1 h2 (kas_from0 hc (k (lt i j)) h3)

section
variable {n : Nat} {lt : Nat → Nat → Bool} {s : Shared}
abbrev pg (p : Array Nat) (i : Nat) : Nat := p.getD i 0
structure PermN (n : Nat) (p : Array Nat) : Prop where
  perm : p.toList.Perm (List.range n)
theorem PermN.size {p : Array Nat} (h : PermN n p) : p.size = n := by
  have := h.perm.length_eq
  simpa using this
theorem PermN.blt {p : Array Nat} (h : PermN n p) (hn : 0 < n) (i : Nat) : pg p i < n := by
  unfold pg
  rw [Array.getD_eq_getD_getElem?]
  cases e : p[i]? with
  | none => simpa using hn
  | some v =>
    have : v ∈ p.toList := by
      have := Array.mem_of_getElem? e
      simpa using this
    simpa using (h.perm.mem_iff.mp this)
theorem PermN.inj {p : Array Nat} (h : PermN n p) {i j : Nat} (hi : i < n) (hj : j < n) (e : pg p i = pg p j) : i = j := by
  have nd : p.toList.Nodup := h.perm.nodup_iff.mpr List.nodup_range
  have hs := h.size
  have hi' : i < p.toList.length := by simpa [hs] using hi
  have hj' : j < p.toList.length := by simpa [hs] using hj
  have e' : p.toList[i] = p.toList[j] := by
    have h1 : i < p.size := by omega
    have h2 : j < p.size := by omega
    simpa [pg, Array.getD, h1, h2] using e
  exact (List.getElem?_inj hi' nd).mp (by rw [List.getElem?_eq_getElem hi', List.getElem?_eq_getElem hj', e'])

def UpTo (lt : Nat → Nat → Bool) (p : Array Nat) (k : Nat) : Prop := ∀ i j, i < j → j < k → lt (pg p i) (pg p j) = true
def DownTo (lt : Nat → Nat → Bool) (p : Array Nat) (k : Nat) : Prop := ∀ i j, i < j → j < k → lt (pg p j) (pg p i) = true

theorem UpTo.step {p : Array Nat} {k : Nat} (O : TotL n lt) (h : UpTo lt p k) (hk : 1 ≤ k) (hl : lt (pg p (k - 1)) (pg p k) = true) : UpTo lt p (k + 1) := by
  intro i j hij hj
  by_cases e : j < k
  · exact h i j hij e
  · obtain rfl : j = k := by omega
    by_cases e2 : i = j - 1
    · rw [e2]; exact hl
    · exact O.trans _ _ _ (h i (j - 1) (by omega) (by omega)) hl
theorem DownTo.step {p : Array Nat} {k : Nat} (O : TotL n lt) (h : DownTo lt p k) (hk : 1 ≤ k) (hl : lt (pg p k) (pg p (k - 1)) = true) : DownTo lt p (k + 1) := by
  intro i j hij hj
  by_cases e : j < k
  · exact h i j hij e
  · obtain rfl : j = k := by omega
    by_cases e2 : i = j - 1
    · rw [e2]; exact hl
    · exact O.trans _ _ _ hl (h i (j - 1) (by omega) (by omega))

theorem asc_ok (O : TotL n lt) {p : Array Nat} (P : PermN n p) {Q : Nat → Shared → Prop} : ∀ (f k : Nat), 1 ≤ k → k + f ≤ n → UpTo lt p k →
    (∀ m, k ≤ m → m ≤ k + f → UpTo lt p m → (m < k + f → lt (pg p m) (pg p (m - 1)) = true) → Q m s) → (kas_asc p f k).kasWp (cmp0 n lt) Q s
  | 0, k, _, _, hu, h => h k (Nat.le_refl _) (Nat.le_refl _) hu fun e => absurd e (Nat.lt_irrefl _)
  | f + 1, k, hk, hkf, hu, h => by
    have hn : 0 < n := by omega
    refine ⟨P.blt hn k, P.blt hn (k - 1), ?_⟩
    cases e : lt (pg p k) (pg p (k - 1)) with
    | true =>
      show (KasT.ret k).kasWp _ _ _
      exact h k (Nat.le_refl _) (by omega) hu fun _ => e
    | false =>
      show (kas_asc p f (k + 1)).kasWp _ _ _
      have hl := O.tot _ _ (P.blt hn k) (P.blt hn (k - 1)) (fun q => by have := P.inj (by omega) (by omega) q; omega) e
      exact asc_ok O P f (k + 1) (by omega) (by omega) (hu.step O hk hl) fun m h1 h2 h3 h4 => h m (by omega) (by omega) h3 fun q => h4 (by omega)

theorem desc_ok (O : TotL n lt) {p : Array Nat} (P : PermN n p) {Q : Array Nat × Nat × Nat → Shared → Prop} : ∀ (f k : Nat), 1 ≤ k → k + f ≤ n → DownTo lt p k →
    (∀ m, k ≤ m → m ≤ k + f → DownTo lt p m → Q (p, m, 0) s) → (kas_desc f p k 0).kasWp (cmp0 n lt) Q s
  | 0, k, _, _, hu, h => h k (Nat.le_refl _) (Nat.le_refl _) hu
  | f + 1, k, hk, hkf, hu, h => by
    have hn : 0 < n := by omega
    refine ⟨P.blt hn k, P.blt hn (k - 1), ?_⟩
    cases e : lt (pg p k) (pg p (k - 1)) with
    | true =>
      show (kas_desc f p (k + 1) 0).kasWp _ _ _
      exact desc_ok O P f (k + 1) (by omega) (by omega) (hu.step O hk e) fun m h1 h2 h3 => h m (by omega) (by omega) h3
    | false =>
      have hl := O.tot _ _ (P.blt hn k) (P.blt hn (k - 1)) (fun q => by have := P.inj (by omega) (by omega) q; omega) e
      refine ⟨P.blt hn (k - 1), P.blt hn k, ?_⟩
      rw [hl]
      exact h k (Nat.le_refl _) (by omega) hu

theorem rev_perm {p : Array Nat} (P : PermN n p) (i j : Nat) : PermN n (kas_rev p i j) :=
  ⟨(Array.perm_iff_toList_perm.mp (mirror_perm p i j _)).trans P.perm⟩
theorem rev_get {p : Array Nat} {j : Nat} (hj : j ≤ p.size) (k : Nat) : pg (kas_rev p 0 j) k = if k < j then pg p (j - 1 - k) else pg p k := by
  unfold pg kas_rev
  rw [Array.getD_eq_getD_getElem?, getElem?_mirror_all hj]
  by_cases h : k < j
  · rw [if_pos ⟨Nat.zero_le _, h⟩, if_pos h, Array.getD_eq_getD_getElem?, Nat.zero_add]
  · rw [if_neg (fun q => h q.2), if_neg h, Array.getD_eq_getD_getElem?]
theorem rev_up {p : Array Nat} {j : Nat} (hj : j ≤ p.size) (h : DownTo lt p j) : UpTo lt (kas_rev p 0 j) j := by
  intro a b hab hb
  rw [rev_get hj, rev_get hj, if_pos (by omega), if_pos hb]
  exact h _ _ (by omega) (by omega)

theorem count_ok (O : TotL n lt) {p : Array Nat} (P : PermN n p) (hn : 1 ≤ n) {Q : Nat × Array Nat → Shared → Prop}
    (h : ∀ m p', 1 ≤ m → m ≤ n → PermN n p' → UpTo lt p' m → Q (m, p') s) : (kas_count n p).kasWp (cmp0 n lt) Q s := by
  unfold kas_count
  rw [KasT.kasWp_bind]
  refine asc_ok O P (n - 1) 1 (Nat.le_refl _) (by omega) (fun i j h1 h2 => by omega) fun m h1 h2 h3 h4 => ?_
  by_cases e : m = n
  · subst e
    rw [if_pos (by simp)]
    exact h m p h1 (Nat.le_refl _) P h3
  · rw [if_neg (by simpa using e)]
    by_cases e2 : m > 1
    · rw [if_pos e2]
      refine ⟨P.blt (by omega) 0, P.blt (by omega) (m - 1), ?_⟩
      rw [show p.getD 0 0 = pg p 0 from rfl, show p.getD (m - 1) 0 = pg p (m - 1) from rfl, h3 0 (m - 1) (by omega) (by omega)]
      exact h m p h1 (by omega) P h3
    · rw [if_neg e2]
      obtain rfl : m = 1 := by omega
      unfold kas_descPart
      rw [KasT.kasWp_bind]
      refine desc_ok O P (n - (1 + 1)) (1 + 1) (by omega) (by omega) ?_ fun m g1 g2 g3 => ?_
      · refine DownTo.step O (fun i j h1 h2 => by omega) (Nat.le_refl _) (h4 (by omega))
      · show (kas_tail3 m n p).kasWp _ _ _
        unfold kas_tail3
        rw [KasT.kasWp_bind]
        have hs := P.size
        refine asc_ok O (rev_perm P 0 m) (n - m) m (by omega) (by omega) (rev_up (by omega) g3) fun k k1 k2 k3 k4 => ?_
        exact h k _ (by omega) (by omega) (rev_perm P 0 m) k3

theorem place_ok (O : TotL n lt) {p : Array Nat} (P : PermN n p) {k : Nat} (hk : k < n) (hu : UpTo lt p k) {Q : Nat → Shared → Prop}
    (h : ∀ x, x ≤ k → (∀ i, i < x → lt (pg p i) (pg p k) = true) → (∀ i, x ≤ i → i < k → lt (pg p k) (pg p i) = true) → Q x s) :
    ∀ (f l r : Nat), r ≤ l + f → l ≤ r → r ≤ k → (∀ i, i < l → lt (pg p i) (pg p k) = true) → (∀ i, r ≤ i → i < k → lt (pg p k) (pg p i) = true) → (kas_place p k f l r).kasWp (cmp0 n lt) Q s
  | 0, l, r, h1, h2, h3, h4, h5 => by
    obtain rfl : l = r := by omega
    exact h l h3 h4 h5
  | f + 1, l, r, h1, h2, h3, h4, h5 => by
    unfold kas_place
    by_cases e : l ≥ r
    · rw [if_pos e]
      obtain rfl : l = r := by omega
      exact h l h3 h4 h5
    · rw [if_neg e]
      have hn : 0 < n := by omega
      refine ⟨P.blt hn k, P.blt hn _, ?_⟩
      have hm1 : l ≤ (l + r) / 2 := by omega
      have hm2 : (l + r) / 2 < r := by omega
      cases c : lt (p.getD k 0) (p.getD ((l + r) / 2) 0) with
      | true =>
        show (kas_place p k f l ((l + r) / 2)).kasWp _ _ _
        refine place_ok O P hk hu h f l _ (by omega) hm1 (by omega) h4 fun i hi hik => ?_
        by_cases e2 : i = (l + r) / 2
        · rw [e2]; exact c
        · exact O.trans _ _ _ c (hu _ _ (by omega) hik)
      | false =>
        show (kas_place p k f ((l + r) / 2 + 1) r).kasWp _ _ _
        have c' := O.tot _ _ (P.blt hn k) (P.blt hn _) (fun q => by have := P.inj hk (by omega) q; omega) c
        refine place_ok O P hk hu h f _ r (by omega) (by omega) h3 (fun i hi => ?_) h5
        by_cases e2 : i = (l + r) / 2
        · rw [e2]; exact c'
        · exact O.trans _ _ _ (hu i ((l + r) / 2) (by omega) (by omega)) c'

theorem bubble_get {p : Array Nat} {k l : Nat} (hk : k < p.size) (hl : l ≤ k) (i : Nat) : pg (bubble p k (k - l)) i = if i = l then pg p k else if l < i ∧ i ≤ k then pg p (i - 1) else pg p i := by
  have e : k - (k - l) = l := by omega
  have g := getElem?_bubble hk (k - l) (by omega) i
  rw [e] at g
  have d : ∀ (q : Array Nat) (x : Nat), pg q x = (q[x]?).getD 0 := fun q x => Array.getD_eq_getD_getElem? ..
  rw [d, g]
  by_cases h1 : i = l
  · rw [if_pos h1, if_pos h1, d]
  · rw [if_neg h1, if_neg h1]
    by_cases h2 : l < i ∧ i ≤ k
    · rw [if_pos h2, if_pos h2, d]
    · rw [if_neg h2, if_neg h2, d]

theorem bin_ok (O : TotL n lt) {Q : Array Nat → Shared → Prop} : ∀ (f k : Nat) (p : Array Nat), PermN n p → 1 ≤ k → k + f = n → UpTo lt p k →
    (∀ p', PermN n p' → UpTo lt p' n → Q p' s) → (kas_bin f p k).kasWp (cmp0 n lt) Q s
  | 0, k, p, P, _, hkf, hu, h => h p P (by rw [← hkf]; exact hu)
  | f + 1, k, p, P, hk1, hkf, hu, h => by
    unfold kas_bin
    rw [KasT.kasWp_bind]
    have hs := P.size
    refine place_ok O P (by omega) hu (fun x hx h1 h2 => ?_) k 0 k (by omega) (Nat.zero_le _) (Nat.le_refl _) (fun i hi => absurd hi (Nat.not_lt_zero _)) (fun i h1 h2 => absurd h2 (by omega))
    refine bin_ok O f (k + 1) _ ⟨(Array.perm_iff_toList_perm.mp (bubble_perm p k _)).trans P.perm⟩ (by omega) (by omega) ?_ h
    intro i j hij hj
    rw [bubble_get (by omega) hx, bubble_get (by omega) hx]
    by_cases a1 : i = x
    · rw [if_pos a1, if_neg (by omega), if_pos ⟨by omega, by omega⟩]
      exact h2 _ (by omega) (by omega)
    · rw [if_neg a1]
      by_cases a2 : x < i ∧ i ≤ k
      · rw [if_pos a2, if_neg (by omega), if_pos ⟨by omega, by omega⟩]
        exact hu _ _ (by omega) (by omega)
      · rw [if_neg a2]
        by_cases b1 : j = x
        · rw [if_pos b1]; exact h1 _ (by omega)
        · rw [if_neg b1]
          by_cases b2 : x < j ∧ j ≤ k
          · rw [if_pos b2]
            by_cases e : i = j - 1
            · omega
            · exact hu _ _ (by omega) (by omega)
          · rw [if_neg b2]
            exact hu _ _ hij (by omega)

theorem sort_ok (O : TotL n lt) (hn : 1 ≤ n) {Q : Array Nat → Shared → Prop} (h : ∀ p', PermN n p' → UpTo lt p' n → Q p' s) : (kas_sort n).kasWp (cmp0 n lt) Q s := by
  unfold kas_sort
  rw [KasT.kasWp_bind]
  refine count_ok O ⟨by simp⟩ hn fun m p' h1 h2 P hu => ?_
  dsimp only
  by_cases e : m < n
  · rw [if_pos e]
    have hm : max m 1 = m := by omega
    rw [hm]
    exact bin_ok O (n - m) m p' P h1 (by omega) hu h
  · rw [if_neg e]
    obtain rfl : m = n := by omega
    exact h p' P hu
end
end Mine

-- P1
open PySem PySem.W PyProof.Rows PySem.Calls
set_option Elab.async false
namespace Mine

/-- an order by which lists of values are heaped: what is not less one way and not less the next is not less -/
structure OrdL (lt : Value → Value → Bool) : Prop where
  asym : ∀ a b, lt a b = true → lt b a = false
  nt : ∀ a b c, lt a b = false → lt b c = false → lt a c = false

/-- each place from k on is no less than its two -/
def HeapFrom (lt : Value → Value → Bool) (k : Nat) (vs : List Value) : Prop :=
  ∀ i, 0 < i → i < vs.length → k ≤ (i - 1) / 2 → lt (vs.getD ((i - 1) / 2) .none) (vs.getD i .none) = false

theorem getD_set {vs : List Value} {p i : Nat} {x : Value} (hp : p < vs.length) : (vs.set p x).getD i .none = if i = p then x else vs.getD i .none := by
  simp only [List.getD, List.getElem?_set]
  by_cases h : p = i
  · subst h; simp [hp]
  · rw [if_neg h, if_neg (fun q => h q.symm)]

/-- the places of a subtree -/
inductive Desc (a : Nat) : Nat → Prop
  | here : Desc a a
  | down {p c : Nat} : Desc a p → (c - 1) / 2 = p → 0 < c → Desc a c
theorem Desc.le {a p : Nat} (h : Desc a p) : a ≤ p := by
  induction h with
  | here => exact Nat.le_refl _
  | down _ e h ih => omega
theorem Desc.up {a p : Nat} (h : Desc a p) (hne : p ≠ a) : Desc a ((p - 1) / 2) := by
  cases h with
  | here => exact absurd rfl hne
  | down h e _ => rw [e]; exact h

section
variable {lt : Value → Value → Bool}

/-- the hole p sinks within: what is known of the rest -/
structure Hole (lt : Value → Value → Bool) (a p : Nat) (vs : List Value) : Prop where
  pos : p < vs.length
  desc : Desc a p
  off : ∀ i, 0 < i → i < vs.length → a ≤ (i - 1) / 2 → i ≠ p → (i - 1) / 2 ≠ p → lt (vs.getD ((i - 1) / 2) .none) (vs.getD i .none) = false
  over : p ≠ a → ∀ i, 0 < i → i < vs.length → (i - 1) / 2 = p → lt (vs.getD ((p - 1) / 2) .none) (vs.getD i .none) = false

theorem Hole.sink {a p : Nat} {vs : List Value} (O : OrdL lt) (H : Hole lt a p vs) (hc : 2 * p + 1 < vs.length) :
    Hole lt a (suC lt p vs) (vs.set p (vs.getD (suC lt p vs) .none)) := by
  have hC := suC_lt (lt := lt) hc
  have hpar : (suC lt p vs - 1) / 2 = p ∧ 0 < suC lt p vs := by unfold suC; split <;> omega
  have hg := suC_gt (lt := lt) (pos := p) (vs := vs)
  have big : ∀ i, 0 < i → i < vs.length → (i - 1) / 2 = p → i ≠ suC lt p vs → lt (vs.getD (suC lt p vs) .none) (vs.getD i .none) = false := by
    intro i h0 h1 h2 h3
    unfold suC at h3 ⊢
    by_cases h : 2 * p + 2 < vs.length ∧ lt (vs.getD (2 * p + 2) .none) (vs.getD (2 * p + 1) .none) = false
    · rw [if_pos h] at h3 ⊢
      obtain rfl : i = 2 * p + 1 := by omega
      exact h.2
    · rw [if_neg h] at h3 ⊢
      obtain rfl : i = 2 * p + 2 := by omega
      have : lt (vs.getD (2 * p + 2) .none) (vs.getD (2 * p + 1) .none) = true := by
        cases e : lt (vs.getD (2 * p + 2) .none) (vs.getD (2 * p + 1) .none) with
        | true => rfl
        | false => exact absurd ⟨h1, e⟩ h
      exact O.asym _ _ this
  generalize suC lt p vs = c at *
  refine ⟨by rw [List.length_set]; exact hC, .down H.desc hpar.1 hpar.2, fun i h0 h1 h2 h3 h4 => ?_, fun _ i h0 h1 h2 => ?_⟩
  · rw [List.length_set] at h1
    rw [getD_set H.pos, getD_set H.pos]
    by_cases e1 : (i - 1) / 2 = p
    · rw [if_pos e1, if_neg (by omega)]
      exact big i h0 h1 e1 h3
    · rw [if_neg e1]
      by_cases e2 : i = p
      · rw [if_pos e2, e2]
        have hpa : p ≠ a := by
          intro q
          omega
        exact H.over hpa c hpar.2 hC hpar.1
      · rw [if_neg e2]
        exact H.off i h0 h1 h2 e2 e1
  · rw [List.length_set] at h1
    rw [getD_set H.pos, getD_set H.pos, if_pos hpar.1, if_neg (by omega)]
    have := H.off i h0 h1 (by have := H.desc.le; omega) (by omega) (by omega)
    rw [h2] at this
    exact this
theorem suGo_hole {a : Nat} (O : OrdL lt) : ∀ {f p : Nat} {vs : List Value}, vs.length ≤ p + f → Hole lt a p vs → Hole lt a (suGo lt f p vs).2 (suGo lt f p vs).1 ∧ vs.length ≤ 2 * (suGo lt f p vs).2 + 1
  | 0, p, vs, hf, H => ⟨H, by have := H.pos; show vs.length ≤ 2 * p + 1; omega⟩
  | f + 1, p, vs, hf, H => by
    rw [show suGo lt (f + 1) p vs = if 2 * p + 1 < vs.length then suGo lt f (suC lt p vs) (vs.set p (vs.getD (suC lt p vs) .none)) else (vs, p) from rfl]
    by_cases h : 2 * p + 1 < vs.length
    · rw [if_pos h]
      have hg := suC_gt (lt := lt) (pos := p) (vs := vs)
      have := suGo_hole O (f := f) (p := suC lt p vs) (vs := vs.set p (vs.getD (suC lt p vs) .none)) (by rw [List.length_set]; omega) (H.sink O h)
      rw [List.length_set] at this
      exact this
    · rw [if_neg h]
      exact ⟨H, by show vs.length ≤ 2 * p + 1; omega⟩

theorem sdGo_heap {a : Nat} {x : Value} (O : OrdL lt) : ∀ {f p : Nat} {vs : List Value}, p ≤ f → Hole lt a p vs → (∀ i, 0 < i → i < vs.length → (i - 1) / 2 = p → lt x (vs.getD i .none) = false) → HeapFrom lt a (sdGo lt x a f p vs)
  | 0, p, vs, hf, H, h3 => by
    obtain rfl : p = 0 := by omega
    show HeapFrom lt a (vs.set 0 x)
    intro i h0 h1 h2
    rw [List.length_set] at h1
    rw [getD_set H.pos, getD_set H.pos, if_neg (show i ≠ 0 by omega)]
    by_cases e : (i - 1) / 2 = 0
    · rw [if_pos e]; exact h3 i h0 h1 e
    · rw [if_neg e]; exact H.off i h0 h1 h2 (by omega) e
  | f + 1, p, vs, hf, H, h3 => by
    rw [show sdGo lt x a (f + 1) p vs = if a < p then (if lt (vs.getD ((p - 1) / 2) .none) x then sdGo lt x a f ((p - 1) / 2) (vs.set p (vs.getD ((p - 1) / 2) .none)) else vs.set p x) else vs.set p x from rfl]
    have hle := H.desc.le
    have stop : (a < p → lt (vs.getD ((p - 1) / 2) .none) x = false) → HeapFrom lt a (vs.set p x) := by
      intro hs i h0 h1 h2
      rw [List.length_set] at h1
      rw [getD_set H.pos, getD_set H.pos]
      by_cases e1 : (i - 1) / 2 = p
      · rw [if_pos e1, if_neg (by omega)]
        exact h3 i h0 h1 e1
      · rw [if_neg e1]
        by_cases e2 : i = p
        · rw [if_pos e2, e2]
          exact hs (by omega)
        · rw [if_neg e2]
          exact H.off i h0 h1 h2 e2 e1
    by_cases hap : a < p
    · rw [if_pos hap]
      have hd := H.desc.up (by omega)
      have hqle := hd.le
      have hpos := H.pos
      by_cases hc : lt (vs.getD ((p - 1) / 2) .none) x = true
      · rw [if_pos hc]
        refine sdGo_heap O (by omega) ⟨by rw [List.length_set]; omega, hd, fun i h0 h1 h2 h4 h5 => ?_, fun hqa i h0 h1 h2 => ?_⟩ fun i h0 h1 h2 => ?_
        · rw [List.length_set] at h1
          rw [getD_set H.pos, getD_set H.pos]
          by_cases e1 : (i - 1) / 2 = p
          · rw [if_pos e1, if_neg (by omega)]
            exact H.over (by omega) i h0 h1 e1
          · rw [if_neg e1, if_neg (by rintro rfl; exact h5 rfl)]
            exact H.off i h0 h1 h2 (by rintro rfl; exact h5 rfl) e1
        · rw [List.length_set] at h1
          have hq2 := (hd.up hqa).le
          have up : lt (vs.getD (((p - 1) / 2 - 1) / 2) .none) (vs.getD ((p - 1) / 2) .none) = false :=
            H.off _ (by have := hd.le; omega) (by omega) hq2 (by omega) (by omega)
          rw [getD_set H.pos, getD_set H.pos, if_neg (by omega)]
          by_cases e : i = p
          · rw [if_pos e]; exact up
          · rw [if_neg e]
            have := H.off i h0 h1 (by omega) e (by omega)
            rw [h2] at this
            exact O.nt _ _ _ up this
        · rw [List.length_set] at h1
          rw [getD_set H.pos]
          by_cases e : i = p
          · rw [if_pos e]; exact O.asym _ _ hc
          · rw [if_neg e]
            have := H.off i h0 h1 (by omega) e (by omega)
            rw [h2] at this
            exact O.nt _ _ _ (O.asym _ _ hc) this
      · rw [if_neg hc]
        exact stop fun _ => by simpa using hc
    · rw [if_neg hap]
      exact stop fun h => absurd h hap

theorem suAll_heap {pos : Nat} {vs : List Value} (O : OrdL lt) (hp : pos < vs.length) (h : HeapFrom lt (pos + 1) vs) : HeapFrom lt pos (suAll lt pos vs) := by
  have H0 : Hole lt pos pos vs := ⟨hp, .here, fun i h0 h1 h2 h3 h4 => h i h0 h1 (by omega), fun q => absurd rfl q⟩
  obtain ⟨H1, h1⟩ := suGo_hole O (f := vs.length) (by omega) H0
  have S := suGo_spec (lt := lt) (f := vs.length) hp
  unfold suAll
  generalize suGo lt vs.length pos vs = r at *
  refine sdGo_heap O (Nat.le_refl _) ⟨by rw [List.length_set]; exact H1.pos, H1.desc, fun i h0 h1' h2 h3 h4 => ?_, fun _ i h0 h1' h2 => ?_⟩ fun i h0 h1' h2 => ?_
  · rw [List.length_set] at h1'
    rw [getD_set H1.pos, getD_set H1.pos, if_neg h4, if_neg h3]
    exact H1.off i h0 h1' h2 h3 h4
  · rw [List.length_set] at h1'
    omega
  · rw [List.length_set] at h1'
    omega

theorem swap_perm {vs : List Value} {p q : Nat} {x : Value} (hp : p < vs.length) (hq : q < vs.length) (hne : p ≠ q) : ((vs.set p (vs.getD q .none)).set q x).Perm (vs.set p x) := by
  rw [List.perm_iff_count]
  intro a
  have hq' : q < (vs.set p (vs.getD q .none)).length := by rw [List.length_set]; exact hq
  rw [List.count_set hq', List.count_set hp, List.count_set hp]
  have e1 : (vs.set p (vs.getD q .none))[q] = vs[q] := by rw [List.getElem_set_ne hne]
  have e2 : vs.getD q .none = vs[q] := by simp [List.getD, hq]
  rw [e1, e2]
  have hc : (if (vs[p] == a) = true then 1 else 0) ≤ vs.count a := by
    split
    · rename_i h
      have : a ∈ vs := by rw [← eq_of_beq h]; exact List.getElem_mem hp
      exact List.count_pos_iff.mpr this
    · exact Nat.zero_le _
  omega

theorem sdGo_perm {x : Value} {a : Nat} : ∀ {f p : Nat} {vs : List Value}, p < vs.length → (sdGo lt x a f p vs).Perm (vs.set p x)
  | 0, p, vs, _ => List.Perm.refl _
  | f + 1, p, vs, hp => by
    rw [show sdGo lt x a (f + 1) p vs = if a < p then (if lt (vs.getD ((p - 1) / 2) .none) x then sdGo lt x a f ((p - 1) / 2) (vs.set p (vs.getD ((p - 1) / 2) .none)) else vs.set p x) else vs.set p x from rfl]
    split
    · split
      · exact (sdGo_perm (by rw [List.length_set]; omega)).trans (swap_perm hp (by omega) (by omega))
      · exact List.Perm.refl _
    · exact List.Perm.refl _
theorem suGo_perm {x : Value} : ∀ {f p : Nat} {vs : List Value}, p < vs.length → ((suGo lt f p vs).1.set (suGo lt f p vs).2 x).Perm (vs.set p x)
  | 0, p, vs, _ => List.Perm.refl _
  | f + 1, p, vs, hp => by
    rw [show suGo lt (f + 1) p vs = if 2 * p + 1 < vs.length then suGo lt f (suC lt p vs) (vs.set p (vs.getD (suC lt p vs) .none)) else (vs, p) from rfl]
    split
    · rename_i hc
      have hC := suC_lt (lt := lt) hc
      have hg := suC_gt (lt := lt) (pos := p) (vs := vs)
      exact (suGo_perm (by rw [List.length_set]; exact hC)).trans (swap_perm hp hC (by omega))
    · exact List.Perm.refl _
theorem suAll_perm {pos : Nat} {vs : List Value} (hp : pos < vs.length) : (suAll lt pos vs).Perm vs := by
  have S := suGo_spec (lt := lt) (f := vs.length) hp
  unfold suAll
  refine (sdGo_perm (by rw [List.length_set, S.1]; exact S.2.1)).trans ?_
  rw [List.set_set]
  refine (suGo_perm hp).trans ?_
  have : vs.set pos (vs.getD pos .none) = vs := by
    have e : vs.getD pos .none = vs[pos] := by simp [List.getD, hp]
    rw [e, List.set_getElem_self]
  rw [this]

theorem hfGo_heap (O : OrdL lt) : ∀ {k : Nat} {vs : List Value}, k ≤ vs.length → HeapFrom lt k vs → HeapFrom lt 0 (hfGo lt k vs) ∧ (hfGo lt k vs).Perm vs
  | 0, vs, _, h => ⟨h, List.Perm.refl _⟩
  | k + 1, vs, hk, h => by
    have h1 := suAll_heap O (pos := k) (by omega) h
    have h2 := suAll_perm (lt := lt) (pos := k) (vs := vs) (by omega)
    have := hfGo_heap O (k := k) (vs := suAll lt k vs) (by rw [h2.length_eq]; omega) h1
    exact ⟨this.1, this.2.trans h2⟩
theorem heapify_heap (O : OrdL lt) (vs : List Value) : HeapFrom lt 0 (hfGo lt (vs.length / 2) vs) ∧ (hfGo lt (vs.length / 2) vs).Perm vs :=
  hfGo_heap O (by omega) fun i h0 h1 h2 => by omega

theorem root_max (O : OrdL lt) {vs : List Value} (hs : ∀ v, lt v v = false) (h : HeapFrom lt 0 vs) : ∀ i, i < vs.length → lt (vs.getD 0 .none) (vs.getD i .none) = false := by
  intro i
  induction i using Nat.strongRecOn with
  | ind i ih =>
    intro hi
    by_cases e : i = 0
    · rw [e]; exact hs _
    · exact O.nt _ _ _ (ih ((i - 1) / 2) (by omega) (by omega)) (h i (by omega) hi (Nat.zero_le _))

theorem set0_heap {vs : List Value} {x : Value} (h : HeapFrom lt 0 vs) : HeapFrom lt 1 (vs.set 0 x) := by
  intro i h0 h1 h2
  rw [List.length_set] at h1
  rw [getD_set (by omega), getD_set (by omega), if_neg (by omega), if_neg (by omega)]
  exact h i h0 h1 (Nat.zero_le _)
theorem rep_heap (O : OrdL lt) {vs : List Value} {x : Value} (hv : 0 < vs.length) (h : HeapFrom lt 0 vs) : HeapFrom lt 0 (suAll lt 0 (vs.set 0 x)) ∧ (suAll lt 0 (vs.set 0 x)).Perm (vs.set 0 x) :=
  ⟨suAll_heap O (by rw [List.length_set]; exact hv) (set0_heap h), suAll_perm (by rw [List.length_set]; exact hv)⟩
theorem set0_perm {vs : List Value} {x : Value} (hv : 0 < vs.length) : (vs.getD 0 .none :: vs.set 0 x).Perm (x :: vs) := by
  cases vs with
  | nil => exact absurd hv (Nat.lt_irrefl _)
  | cons a r => exact List.Perm.swap _ _ _
theorem getD_dropLast {vs : List Value} {i : Nat} (h : i < vs.length - 1) : vs.dropLast.getD i .none = vs.getD i .none := by
  have h' : i < vs.length := by omega
  simp [List.getD, h, h']
theorem pop_heap (O : OrdL lt) {vs : List Value} (hv : 0 < vs.length) (h : HeapFrom lt 0 vs) : HeapFrom lt 0 (popAll lt vs) ∧ (vs.getD 0 .none :: popAll lt vs).Perm vs := by
  unfold popAll
  by_cases e : vs.length ≤ 1
  · rw [if_pos e]
    refine ⟨fun i h0 h1 _ => absurd h1 (Nat.not_lt_zero _), ?_⟩
    match vs, hv, e with
    | [a], _, _ => exact List.Perm.refl _
  · rw [if_neg e]
    have hd : HeapFrom lt 0 vs.dropLast := fun i h0 h1 h2 => by
      rw [List.length_dropLast] at h1
      rw [getD_dropLast h1, getD_dropLast (by omega)]
      exact h i h0 (by omega) h2
    have hl : 0 < vs.dropLast.length := by rw [List.length_dropLast]; omega
    have r := rep_heap O (x := vs.getD (vs.length - 1) .none) hl hd
    refine ⟨r.1, ?_⟩
    have h0 : vs.getD 0 .none = vs.dropLast.getD 0 .none := (getD_dropLast (by omega)).symm
    rw [h0]
    refine ((r.2.cons _).trans (set0_perm hl)).trans ?_
    have hne : vs ≠ [] := by rintro rfl; exact absurd hv (Nat.lt_irrefl _)
    have e2 : vs.getD (vs.length - 1) .none = vs.getLast hne := by
      rw [List.getLast_eq_getElem]
      simp [List.getD, show vs.length - 1 < vs.length by omega]
    rw [e2]
    have := List.perm_append_singleton (vs.getLast hne) vs.dropLast
    rw [List.dropLast_concat_getLast] at this
    exact this.symm
theorem rep_perm (O : OrdL lt) {vs : List Value} {x : Value} (hv : 0 < vs.length) (h : HeapFrom lt 0 vs) : (vs.getD 0 .none :: repAll lt x vs).Perm (x :: vs) :=
  ((rep_heap O (x := x) hv h).2.cons _).trans (set0_perm hv)
end
end Mine

-- W9
open PySem PySem.W PyProof.Rows PySem.Calls
set_option Elab.async false
set_option maxRecDepth 100000
namespace Mine
section
variable {prog : Program} {w : World} {A : Around} {E : Value → Shared → Prop} {s : Shared}

theorem eqSame (v : Value) {R : Bool → Shared → Prop} (hr : R true s) : wpAny (model prog w) A (eqBool v v) R E s := by
  unfold eqBool
  refine wpAny_holding ?_
  rw [if_pos (by simp)]
  exact wpAny_bind (wpAny_rule (wpAny_pure hr))

/-- the sort's question of two items -/
theorem keyLtV {v v' : Value} {k k' : Int × Int} {Q : Bool → Shared → Prop} (hv : TupAt s.heap v k) (hv' : TupAt s.heap v' k') (hne : v = v' ∨ k ≠ k') (h : Q (lexlt k k') s) :
    wpAny (model prog w) A (keyLt' (tuples' true) v v') Q E s := by
  obtain ⟨a, t, u, p, q, rfl, o, ho, hc, n, hd⟩ := id hv
  obtain ⟨b, t', u', p', q', rfl, o', ho', hc', n', hd'⟩ := id hv'
  refine kat_lt ho hd ho' hd' ?_
  simp only [List.zip_cons_cons, List.zip_nil_left]
  by_cases e : (Value.ref a) = .ref b
  · cases e
    have hk : k = k' := hv.fn hv'
    rw [ho] at ho'
    cases ho'
    rw [hd] at hd'
    injection hd' with e1 e2
    simp only [Array.mk.injEq, List.cons.injEq] at e1
    obtain ⟨e1, e2, e3, e4, _⟩ := e1
    rw [← e1, ← e2, ← e3, ← e4]
    refine kat_cons (eqSame _ (kat_yes (kat_cons (eqSame _ (kat_yes (kat_cons (eqSame _ (kat_yes (kat_cons (eqSame _ (kat_yes (kat_nil ?_))))))))))))
    rw [hk, lexlt_irrefl] at h
    exact h
  · have hk := hne.resolve_left e
    refine kat_cons (wpAny_eqBool_int ?_)
    by_cases h1 : k.1 = k'.1
    · rw [show (k.1 == k'.1) = true by simpa using h1]
      refine kat_yes (kat_cons (wpAny_eqBool_int ?_))
      have h2 : k.2 ≠ k'.2 := fun h2 => hk (Prod.ext h1 h2)
      rw [show (k.2 == k'.2) = false by simpa using h2]
      refine kat_no ?_
      refine kat_one _ _ (wpAny_lt_int ?_)
      have e2 : decide (k.2 < k'.2) = lexlt k k' := by unfold lexlt; simp [h1]
      rw [e2]
      exact h
    · rw [show (k.1 == k'.1) = false by simpa using h1]
      refine kat_no ?_
      refine oneLt_int ?_
      have e2 : decide (k.1 < k'.1) = lexlt k k' := by unfold lexlt; simp [h1]
      rw [e2]
      exact h
theorem tupsOf {h : Heap} {κ : Value → Int × Int} : ∀ {vs : List Value}, (∀ v ∈ vs, TupAt h v (κ v)) → ∃ fs, KatTups h vs fs ∧ fs.length = vs.length ∧ ∀ f ∈ fs, ∃ i t, f = .int i t
  | [], _ => ⟨[], KatTups.nil, rfl, fun _ h => nomatch h⟩
  | v :: vs, hv => by
    obtain ⟨fs, h1, h2, h3⟩ := tupsOf (vs := vs) fun u hu => hv u (.tail _ hu)
    obtain ⟨a, t, u, p, q, e, o, ho, hc, n, hd⟩ := hv v (.head _)
    subst e
    refine ⟨.int (κ (.ref a)).1 t :: fs, KatTups.cons ho hc hd rfl h1, by simp [h2], fun f hf => ?_⟩
    rcases List.mem_cons.mp hf with rfl | hf
    · exact ⟨_, _, rfl⟩
    · exact h3 f hf

variable {h₀ : Heap} {L : Addr} {m : Str → Option Value} {news : List (Addr × Obj)} {vs : List Value} {κ : Value → Int × Int}

theorem vlt_tot (hd : ∀ u ∈ vs, ∀ v ∈ vs, u = v ∨ κ u ≠ κ v) (nd : vs.Nodup) : TotL vs.length (fun i j => lexlt (κ (vs.getD i .none)) (κ (vs.getD j .none))) where
  trans := fun a b c h1 h2 => by
    unfold lexlt at *
    simp only [decide_eq_true_eq] at *
    omega
  asym := fun a b h => lex_asymm h
  tot := fun a b ha hb hab h => by
    cases h' : lexlt (κ (vs.getD b .none)) (κ (vs.getD a .none)) with
    | true => rfl
    | false =>
      have e := lex_eq h h'
      have e2 : vs.getD a .none = vs.getD b .none := (hd _ (getD_mem ha) _ (getD_mem hb)).resolve_right fun q => q e
      refine absurd ?_ hab
      exact (List.getElem?_inj ha nd).mp (by rw [List.getElem?_eq_getElem ha, List.getElem?_eq_getElem hb]; simpa [List.getD, ha, hb] using e2)

/-- the places of a list in the order of a permutation -/
theorem perm_places {p : Array Nat} (P : PermN vs.length p) : (p.toList.map fun i => vs.getD i .none).Perm vs := by
  have h1 := P.perm.map fun i => vs.getD i .none
  have h2 : (List.range vs.length).map (fun i => vs.getD i .none) = vs := by
    apply List.ext_getElem?
    intro i
    by_cases h : i < vs.length
    · simp [h]
    · simp [h]
  rwa [h2] at h1

theorem sorted2V {l : Addr} {Q : Value → Shared → Prop} (F : Fr h₀ L s.heap m) (N : News h₀ L s.heap news) (hl : s.heap.IsList l vs.toArray) (V : Vok s.heap κ vs) (nd : vs.Nodup) (h2 : 2 ≤ vs.length) (h64 : vs.length < 64) (VN : ∀ h, Fr h₀ L h m → News h₀ L h news → Vok h κ vs)
    (h : ∀ D c h' out, Fr h₀ L h' m → News h₀ L h' ((D, listOf (List.toArray out) c) :: news) → (∀ q ∈ news, q.1 < D) → out.Perm vs → out.Pairwise (fun u v => lexlt (κ u) (κ v) = true) → Q (.ref D) { s with heap := h' }) :
    wpAny (model prog w) A (call (.builtin "sorted") [.ref l]) Q E s := by
  refine kat_sorted F N hl h2 h64 fun D e1 h' F' N' hlt => ?_
  have N'' : News h₀ L h' news := fun p hp => N' p (.tail _ hp)
  have V' := VN h' F' N''
  obtain ⟨fs, t1, t2, t3⟩ := tupsOf V'.1
  refine kat_kind (T := .type "int") t1 (by omega) (fun f hf => ?_) rfl ?_
  · obtain ⟨i, t, rfl⟩ := t3 f hf
    exact Looks.of_pure rfl
  · have e : (Value.type "int" != Value.type "tuple") = true := by decide
    rw [e]
    refine kas_from0 (n := vs.length) (lt := fun i j => lexlt (κ (vs.getD i .none)) (κ (vs.getD j .none))) (fun i j C hi hj hC => ?_) _ (sort_ok (vlt_tot V.2 nd) (by omega) fun p' P hu => ?_)
    · unfold kas_ask
      exact keyLtV (V'.1 _ (getD_mem hi)) (V'.1 _ (getD_mem hj)) (V'.2 _ (getD_mem hi) _ (getD_mem hj)) hC
    · refine KasFin.intro (g := fun o => (D, o) :: news) F' N' (UpdF.head fun p hp => Nat.ne_of_lt (hlt p hp)) fun h'' c F'' N'' => ?_
      refine h D c h'' _ F'' N'' hlt (perm_places P) ?_
      rw [List.pairwise_iff_getElem]
      intro i j hi hj hij
      have hs := P.size
      have hi' : i < p'.size := by simpa using hi
      have hj' : j < p'.size := by simpa using hj
      have := hu i j hij (by omega)
      simpa [pg, Array.getD, hi', hj'] using this

theorem list_sort1 {a : Addr} {n : Nat} {P : PySem.Fin → Shared → Prop} (ho : s.heap.get? a = some (seqObj "list" vs.toArray n)) (h1 : vs.length < 2)
    (h : ∀ c h', h'.get? a = some (seqObj "list" vs.toArray c) → (∀ b o, b ≠ a → s.heap.get? b = some o → h'.get? b = some o) → P (.done (.ret .none)) { s with heap := h' }) :
    wpAny (model prog w) A (Builtin.«list.sort» ⟨[.ref a], []⟩) P E s := by
  rw [list_sort_plain]
  have ha : a < s.heap.objs.size := Heap.lt_size ho
  have hsz : vs.toArray.size = vs.length := by simp
  refine wpAny_bind (listItems_at ho rfl ?_)
  refine wpAny_bind (listUpdate_at ho rfl ?_ (by rw [hsz, sizeLine_eq]; omega))
  obtain ⟨e1, ho1⟩ : ∃ e1, (s.heap.update a (Obj.mapSeq fun _ => #[])).get? a = some (seqObj "list" #[] e1) := ⟨_, get?_update_seq ho (fun _ => #[])⟩
  refine wpAny_bind (seqEpoch_at ho1 rfl ?_)
  refine wpAny_bind (wpAny_newTuple ?_ (by simp [sizeLine_eq]; omega))
  refine wpAny_bind (wpAny_newList ?_)
  refine wpAny_holding ?_
  generalize hH : ((s.heap.update a (Obj.mapSeq fun _ => #[])).push (seqObj "tuple" vs.toArray 0)).push (seqObj "list" #[] 0) = H
  have hk : ∀ b o, b ≠ a → s.heap.get? b = some o → H.get? b = some o := fun b o hb q => by
    rw [← hH]
    exact Heap.get?_push_of_some _ (Heap.get?_push_of_some _ ((Heap.get?_update_other _ _ (Ne.symm hb)).trans q))
  have ho6 : H.get? a = some (seqObj "list" #[] e1) := by
    rw [← hH]
    exact Heap.get?_push_of_some _ (Heap.get?_push_of_some _ ho1)
  show wpAny (model prog w) A _ P E { s with heap := H }
  dsimp only
  rw [if_pos (by omega), if_pos (by omega)]
  refine wpAny_bind (wpAny_pure ?_)
  rw [StateT.run_pure]
  refine wpAny_bind (wpAny_pure ?_)
  dsimp only
  refine wpAny_bind (seqEpoch_at ho6 rfl ?_)
  have hz : ((vs.toArray.zip vs.toArray).map (·.2)) = vs.toArray := by
    apply Array.toList_inj.mp
    simp [List.map_snd_zip]
  rw [hz]
  refine wpAny_bind (listUpdate_at ho6 rfl ?_ (by simp) (by rw [hsz, sizeLine_eq]; omega))
  obtain ⟨e2, ho7⟩ : ∃ e2, (H.update a (Obj.mapSeq fun _ => vs.toArray)).get? a = some (seqObj "list" vs.toArray e2) := ⟨_, get?_update_seq ho6 (fun _ => vs.toArray)⟩
  simp only [bne_self_eq_false, Bool.false_eq_true, if_false]
  exact wpAny_pure (h e2 _ ho7 fun b o hb q => (Heap.get?_update_other _ _ (Ne.symm hb)).trans (hk b o hb q))

theorem sorted1V {l : Addr} {Q : Value → Shared → Prop} (F : Fr h₀ L s.heap m) (N : News h₀ L s.heap news) (hl : s.heap.IsList l vs.toArray) (h1 : vs.length < 2)
    (h : ∀ D c h', Fr h₀ L h' m → News h₀ L h' ((D, listOf vs.toArray c) :: news) → (∀ q ∈ news, q.1 < D) → Q (.ref D) { s with heap := h' }) :
    wpAny (model prog w) A (call (.builtin "sorted") [.ref l]) Q E s := by
  refine Calls.call_function_entry kind_sorted plain_sorted entry_sorted (args_sorted1 _) ?_
  unfold Builtin.«sorted»
  refine wpAny_bind (m := PySem.checkCount "sorted" 1 1 _) (wpAny_pure ?_)
  refine wpAny_bind (collect_list hl ?_ (by rw [sizeLine_eq]; omega))
  refine wpAny_bind (wpAny_newList ?_ (by rw [sizeLine_eq]; omega))
  have hsz : ((s.heap.push (seqObj "list" #[] 0)).update s.heap.objs.size (Obj.mapSeq (· ++ vs.toArray))).objs.size = s.heap.objs.size + 1 := by
    rw [Heap.size_update, size_push']
  have hoL : (((s.heap.push (seqObj "list" #[] 0)).update s.heap.objs.size (Obj.mapSeq (· ++ vs.toArray))).push (seqObj "list" vs.toArray 0)).get? (s.heap.objs.size + 1) = some (seqObj "list" vs.toArray 0) := by
    rw [← hsz]; exact Heap.get?_push_size _ rfl
  have keep : ∀ b o, s.heap.get? b = some o → (((s.heap.push (seqObj "list" #[] 0)).update s.heap.objs.size (Obj.mapSeq (· ++ vs.toArray))).push (seqObj "list" vs.toArray 0)).get? b = some o := fun b o q => by
    have hlt : b < s.heap.objs.size := Heap.lt_size q
    rw [Heap.get?_push_ne _ _ _ (by rw [hsz]; exact Nat.ne_of_lt (Nat.lt_succ_of_lt hlt)), Heap.get?_update_ne _ _ _ _ (Nat.ne_of_lt hlt), Heap.get?_push_ne _ _ _ (Nat.ne_of_lt hlt)]
    exact q
  have hL : L < s.heap.objs.size := F.ns.lt
  show wpAny _ _ _ _ _ { s with heap := ((s.heap.push (seqObj "list" #[] 0)).update s.heap.objs.size (Obj.mapSeq (· ++ vs.toArray))).push (seqObj "list" vs.toArray 0) }
  rw [hsz]
  refine wpAny_bind (wpAny_holding (wpAny_call_entry slot_list_sort ⟨_, hoL, rfl⟩ entry_list_sort ?body (args_list_sort _)))
  case body =>
    refine list_sort1 hoL h1 fun c h' ho' hk' => ⟨_, rfl, wpAny_pure ⟨_, rfl, ?_⟩⟩
    have up : ∀ b o, s.heap.get? b = some o → h'.get? b = some o := fun b o q => hk' b o (Nat.ne_of_lt (Nat.lt_succ_of_lt (Heap.lt_size q))) (keep b o q)
    refine h _ c h' (F.kept up) (fun p hp => ?_) fun q hq => Nat.lt_succ_of_lt (Heap.lt_size (N q hq).1)
    rcases List.mem_cons.mp hp with rfl | hp
    · exact ⟨ho', Nat.ne_of_gt (Nat.lt_succ_of_lt hL), Heap.get?_none_of_le (Nat.le_trans F.above (Nat.le_succ_of_le (Nat.le_of_lt hL)))⟩
    · exact N.grown up p hp
end
end Mine

-- K1
set_option Elab.async false
namespace Mine

/-- l splits into two groups with these sums -/
inductive Part : List Int → Int → Int → Prop
  | nil : Part [] 0 0
  | left {l p q} (x : Int) : Part l p q → Part (x :: l) (x + p) q
  | right {l p q} (x : Int) : Part l p q → Part (x :: l) p (x + q)

theorem Part.perm {l l' : List Int} (h : l.Perm l') : ∀ {p q : Int}, Part l p q → Part l' p q := by
  induction h with
  | nil => exact fun h => h
  | cons x _ ih =>
    intro p q h
    cases h with
    | left _ h => exact .left x (ih h)
    | right _ h => exact .right x (ih h)
  | swap x y l =>
    intro p q h
    cases h with
    | left _ h =>
      cases h with
      | @left _ p q _ h => rw [show y + (x + p) = x + (y + p) by omega]; exact .left x (.left y h)
      | @right _ p q _ h => exact .right x (.left y h)
    | right _ h =>
      cases h with
      | @left _ p q _ h => exact .left x (.right y h)
      | @right _ p q _ h => rw [show y + (x + q) = x + (y + q) by omega]; exact .right x (.right y h)
  | trans _ _ ih1 ih2 => exact fun h => ih2 (ih1 h)
theorem Part.sum {l : List Int} {p q : Int} (h : Part l p q) : p + q = l.sum := by
  induction h with
  | nil => rfl
  | left x _ ih => rw [List.sum_cons]; omega
  | right x _ ih => rw [List.sum_cons]; omega
theorem Part.nonneg {l : List Int} {p q : Int} (h : Part l p q) (hn : ∀ x ∈ l, 0 ≤ x) : 0 ≤ p ∧ 0 ≤ q := by
  induction h with
  | nil => exact ⟨Int.le_refl _, Int.le_refl _⟩
  | left x _ ih =>
    have := ih fun y hy => hn y (.tail _ hy)
    have := hn x (.head _)
    omega
  | right x _ ih =>
    have := ih fun y hy => hn y (.tail _ hy)
    have := hn x (.head _)
    omega

/-- Karmarkar and Karp: the two greatest give their difference, till one is left -/
inductive KKs : List Int → Int → Prop
  | one (x : Int) : KKs [x] x
  | step {l r : List Int} {a b D : Int} : l.Perm (a :: b :: r) → b ≤ a → (∀ y ∈ r, y ≤ b) → KKs ((a - b) :: r) D → KKs l D

theorem KKs.perm {l l' : List Int} {D : Int} (h : KKs l D) (hp : l.Perm l') : KKs l' D := by
  cases h with
  | one => rw [List.perm_singleton.mp hp.symm]; exact .one _
  | step h1 h2 h3 h4 => exact .step (hp.symm.trans h1) h2 h3 h4

theorem sum_perm {l l' : List Int} (h : l.Perm l') : l.sum = l'.sum := by
  induction h with
  | nil => rfl
  | cons x _ ih => rw [List.sum_cons, List.sum_cons, ih]
  | swap x y l => rw [List.sum_cons, List.sum_cons, List.sum_cons, List.sum_cons]; omega
  | trans _ _ ih1 ih2 => exact ih1.trans ih2

/-- the end lies between nought and the greatest -/
theorem kk_le {l : List Int} {D M : Int} (h : KKs l D) : (∀ y ∈ l, 0 ≤ y ∧ y ≤ M) → 0 ≤ D ∧ D ≤ M := by
  induction h with
  | one x => exact fun h => h x (.head _)
  | @step l r a b D hp hab hr _ ih =>
    intro h
    have h' : ∀ y ∈ a :: b :: r, 0 ≤ y ∧ y ≤ M := fun y hy => h y (hp.mem_iff.mpr hy)
    refine ih fun y hy => ?_
    rcases List.mem_cons.mp hy with rfl | hy
    · have := h' a (.head _); have := h' b (.tail _ (.head _)); omega
    · exact h' y (.tail _ (.tail _ hy))

/-- the greatest of large ones and small ones is a large one -/
theorem top_large {G : Int} {X S t : List Int} {a : Int} (hX : ∀ x ∈ X, G < 3 * x) (hS : ∀ y ∈ S, 3 * y ≤ G) (hne : X ≠ []) (hp : (X ++ S).Perm (a :: t)) (ha : ∀ y ∈ t, y ≤ a) :
    ∃ X', X.Perm (a :: X') ∧ t.Perm (X' ++ S) := by
  have hm : a ∈ X ++ S := hp.mem_iff.mpr (.head _)
  have hax : a ∈ X := by
    rcases List.mem_append.mp hm with h | h
    · exact h
    · exfalso
      obtain ⟨x, r, rfl⟩ : ∃ x r, X = x :: r := by
        cases X with
        | nil => exact absurd rfl hne
        | cons x r => exact ⟨x, r, rfl⟩
      have hx := hX x (.head _)
      have hs := hS a h
      have hxa : x ∈ a :: t := hp.mem_iff.mp (.head _)
      rcases List.mem_cons.mp hxa with e | hxt
      · omega
      · have := ha x hxt; omega
  have h1 : X.Perm (a :: X.erase a) := List.perm_cons_erase hax
  refine ⟨X.erase a, h1, ?_⟩
  have h2 : (a :: (X.erase a ++ S)).Perm (a :: t) := ((h1.append_right S).symm).trans hp
  exact (List.Perm.cons_inv h2).symm

section
variable {G : Int}
theorem kk_one {l : List Int} {D : Int} (h : KKs l D) : ∀ {x : Int} {S : List Int}, l.Perm (x :: S) → 0 ≤ x → (∀ y ∈ S, 0 ≤ y ∧ 3 * y ≤ G) → 3 * D ≤ G ∨ D = x - S.sum := by
  induction h with
  | one z =>
    intro x S hp _ _
    have : x :: S = [z] := List.perm_singleton.mp hp.symm
    injection this with e1 e2
    subst e1; subst e2
    right; simp
  | @step l r a b D hp hab hr hk ih =>
    intro x S hx h0 hS
    by_cases hb : 3 * x ≤ G
    · left
      have hM : ∀ y ∈ l, 0 ≤ y ∧ y ≤ G / 3 := fun y hy => by
        rcases List.mem_cons.mp (hx.mem_iff.mp hy) with rfl | hy
        · exact ⟨h0, by omega⟩
        · have := hS y hy; omega
      have := kk_le (KKs.step hp hab hr hk) hM
      omega
    · have T := top_large (G := G) (X := [x]) (S := S) (a := a) (t := b :: r) (fun y hy => by rw [List.mem_singleton.mp hy]; omega) (fun y hy => (hS y hy).2) (by simp) (hx.symm.trans hp) (fun y hy => by
        rcases List.mem_cons.mp hy with rfl | hy
        · exact hab
        · exact Int.le_trans (hr y hy) hab)
      obtain ⟨X', hX', ht⟩ := T
      have hl := hX'.length_eq
      have hX'0 : X' = [] := by
        cases X' with
        | nil => rfl
        | cons _ _ => simp at hl
      subst hX'0
      have hax : x = a := by
        have := hX'.mem_iff.mp (List.mem_singleton.mpr rfl)
        exact List.mem_singleton.mp this
      subst hax
      have ht' : (b :: r).Perm S := by simpa using ht
      have hbS := hS b (ht'.mem_iff.mp (.head _))
      have := ih (x := x - b) (S := r) (List.Perm.refl _) (by omega) fun y hy => hS y (ht'.mem_iff.mp (.tail _ hy))
      rcases this with h | h
      · exact .inl h
      · right
        have hs := sum_perm ht'
        rw [List.sum_cons] at hs
        omega

theorem kk_two {l : List Int} {D : Int} (h : KKs l D) {x y : Int} {S : List Int} (hp : l.Perm (x :: y :: S)) (hx : 0 ≤ x) (hy : 0 ≤ y) (hS : ∀ z ∈ S, 0 ≤ z ∧ 3 * z ≤ G) :
    3 * D ≤ G ∨ (D = x - y - S.sum ∧ y ≤ x) ∨ (D = y - x - S.sum ∧ x ≤ y) := by
  have small : ∀ {u v : Int}, l.Perm (u :: v :: S) → 0 ≤ u → 0 ≤ v → 3 * v ≤ G → 3 * D ≤ G ∨ (D = u - v - S.sum ∧ v ≤ u) := by
    intro u v hp hu hv hs
    by_cases h3 : v ≤ u
    · rcases kk_one (G := G) h hp hu (fun z hz => by
        rcases List.mem_cons.mp hz with rfl | hz
        · exact ⟨hv, hs⟩
        · exact hS z hz) with q | q
      · exact .inl q
      · right
        rw [List.sum_cons] at q
        exact ⟨by omega, h3⟩
    · left
      have := kk_le (M := G / 3) h fun z hz => by
        rcases List.mem_cons.mp (hp.mem_iff.mp hz) with rfl | hz
        · omega
        · rcases List.mem_cons.mp hz with rfl | hz
          · omega
          · have := hS z hz; omega
      omega
  by_cases h1 : 3 * y ≤ G
  · rcases small hp hx hy h1 with q | q
    · exact .inl q
    · exact .inr (.inl q)
  · by_cases h2 : 3 * x ≤ G
    · rcases small (hp.trans (List.Perm.swap _ _ _)) hy hx h2 with q | q
      · exact .inl q
      · exact .inr (.inr q)
    · cases h with
      | one z => have := hp.length_eq; simp at this
      | @step _ r a b D hp' hab hr hk =>
        obtain ⟨X1, e1, t1⟩ := top_large (G := G) (X := [x, y]) (S := S) (a := a) (t := b :: r) (fun z hz => by
            rcases List.mem_cons.mp hz with rfl | hz
            · omega
            · rw [List.mem_singleton.mp hz]; omega) (fun z hz => (hS z hz).2) (by simp) (hp.symm.trans hp') (fun z hz => by
          rcases List.mem_cons.mp hz with rfl | hz
          · exact hab
          · exact Int.le_trans (hr z hz) hab)
        have l1 := e1.length_eq
        obtain ⟨c, rfl⟩ : ∃ c, X1 = [c] := by
          match X1, l1 with
          | [c], _ => exact ⟨c, rfl⟩
        have s1 := sum_perm e1
        simp only [List.sum_cons, List.sum_nil] at s1
        have hc : G < 3 * c := by
          have := e1.mem_iff.mpr (show c ∈ [a, c] from .tail _ (.head _))
          rcases List.mem_cons.mp this with e | e
          · omega
          · rw [List.mem_singleton.mp e]; omega
        obtain ⟨X2, e2, t2⟩ := top_large (G := G) (X := [c]) (S := S) (a := b) (t := r) (fun z hz => by rw [List.mem_singleton.mp hz]; exact hc) (fun z hz => (hS z hz).2) (by simp) t1.symm hr
        have l2 := e2.length_eq
        have hX2 : X2 = [] := by
          cases X2 with
          | nil => rfl
          | cons _ _ => simp at l2
        subst hX2
        have hcb : c = b := List.mem_singleton.mp (e2.mem_iff.mp (List.mem_singleton.mpr rfl))
        have t2' : r.Perm S := by simpa using t2
        rcases kk_one (G := G) hk (x := a - b) (S := S) (t2'.cons _) (by omega) hS with q | q
        · exact .inl q
        · right
          have ha : a = x ∨ a = y := by
            have := e1.mem_iff.mpr (List.mem_cons_self (a := a) (l := [c]))
            rcases List.mem_cons.mp this with e | e
            · exact .inl e
            · exact .inr (List.mem_singleton.mp e)
          rcases ha with e | e
          · left; omega
          · right; omega
end
end Mine

-- K2
set_option Elab.async false
namespace Mine

theorem Part.nil_inv {p q : Int} (h : Part [] p q) : p = 0 ∧ q = 0 := by cases h; exact ⟨rfl, rfl⟩
theorem Part.inv {x : Int} {l : List Int} {p q : Int} (h : Part (x :: l) p q) : ∃ p' q', Part l p' q' ∧ ((p = x + p' ∧ q = q') ∨ (p = p' ∧ q = x + q')) := by
  cases h with
  | left _ h => exact ⟨_, _, h, .inl ⟨rfl, rfl⟩⟩
  | right _ h => exact ⟨_, _, h, .inr ⟨rfl, rfl⟩⟩

section
variable {G : Int}
theorem kk_three {l : List Int} {D : Int} (h : KKs l D) {x y z : Int} {S : List Int} (hp : l.Perm (x :: y :: z :: S)) (hx : 0 ≤ x ∧ G < 3 * x) (hy : 0 ≤ y ∧ G < 3 * y) (hz : 0 ≤ z ∧ G < 3 * z) (hS : ∀ w ∈ S, 0 ≤ w ∧ 3 * w ≤ G)
    {p q : Int} (hP : Part l p q) (hpG : p ≤ G) (hqG : q ≤ G) : 3 * D ≤ G ∨ l.sum + D ≤ 2 * G := by
  have hbig : ∀ u ∈ [x, y, z], 0 ≤ u ∧ G < 3 * u := fun u hu => by
    simp only [List.mem_cons, List.not_mem_nil, or_false] at hu
    rcases hu with rfl | rfl | rfl <;> assumption
  cases h with
  | one w => have := hp.length_eq; simp at this
  | @step _ r a b D hp' hab hr hk =>
    obtain ⟨X1, e1, t1⟩ := top_large (G := G) (X := [x, y, z]) (S := S) (a := a) (t := b :: r) (fun u hu => (hbig u hu).2) (fun u hu => (hS u hu).2) (by simp) (hp.symm.trans hp') (fun u hu => by
      rcases List.mem_cons.mp hu with rfl | hu
      · exact hab
      · exact Int.le_trans (hr u hu) hab)
    have hbig1 : ∀ u ∈ X1, 0 ≤ u ∧ G < 3 * u := fun u hu => hbig u (e1.mem_iff.mpr (.tail _ hu))
    have hne : X1 ≠ [] := by rintro rfl; have := e1.length_eq; simp at this
    obtain ⟨X2, e2, t2⟩ := top_large (G := G) (X := X1) (S := S) (a := b) (t := r) (fun u hu => (hbig1 u hu).2) (fun u hu => (hS u hu).2) hne t1.symm hr
    have l1 := e1.length_eq
    have l2 := e2.length_eq
    obtain ⟨c, rfl⟩ : ∃ c, X2 = [c] := by
      simp only [List.length_cons, List.length_nil] at l1 l2
      match X2, (show X2.length = 1 by omega) with
      | [c], _ => exact ⟨c, rfl⟩
    have hc := hbig1 c (e2.mem_iff.mpr (.tail _ (.head _)))
    have ha := hbig a (e1.mem_iff.mpr (.head _))
    have hb := hbig1 b (e2.mem_iff.mpr (.head _))
    have hcb : c ≤ b := hr c (t2.mem_iff.mpr (.head _))
    have t2' : r.Perm (c :: S) := t2
    have hl : l.Perm (a :: b :: c :: S) := hp'.trans ((t2'.cons b).cons a)
    have hs := sum_perm hl
    simp only [List.sum_cons] at hs
    obtain ⟨p1, q1, P1, c1⟩ := (hP.perm hl).inv
    obtain ⟨p2, q2, P2, c2⟩ := P1.inv
    obtain ⟨p3, q3, P3, c3⟩ := P2.inv
    have := P3.nonneg fun u hu => (hS u hu).1
    have := P3.sum
    have hk' := kk_two (G := G) hk (x := c) (y := a - b) (S := S) ((t2'.cons _).trans (List.Perm.swap _ _ _)) hc.1 (by omega) hS
    omega

theorem kk_four {l : List Int} {D : Int} (h : KKs l D) {X : List Int} {S : List Int} (hp : l.Perm (X ++ S)) (hX4 : X.length = 4) (hX : ∀ u ∈ X, 0 ≤ u ∧ G < 3 * u) (hS : ∀ w ∈ S, 0 ≤ w ∧ 3 * w ≤ G)
    {p q : Int} (hP : Part l p q) (hpG : p ≤ G) (hqG : q ≤ G) : 3 * D ≤ G := by
  cases h with
  | one w => have := hp.length_eq; simp only [List.length_append, List.length_cons, List.length_nil] at this; omega
  | @step _ r a b D hp' hab hr hk =>
    have hne0 : X ≠ [] := by rintro rfl; simp at hX4
    obtain ⟨X1, e1, t1⟩ := top_large (G := G) (X := X) (S := S) (a := a) (t := b :: r) (fun u hu => (hX u hu).2) (fun u hu => (hS u hu).2) hne0 (hp.symm.trans hp') (fun u hu => by
      rcases List.mem_cons.mp hu with rfl | hu
      · exact hab
      · exact Int.le_trans (hr u hu) hab)
    have hbig1 : ∀ u ∈ X1, 0 ≤ u ∧ G < 3 * u := fun u hu => hX u (e1.mem_iff.mpr (.tail _ hu))
    have l1 := e1.length_eq
    have hne : X1 ≠ [] := by rintro rfl; simp only [List.length_cons, List.length_nil] at l1; omega
    obtain ⟨X2, e2, t2⟩ := top_large (G := G) (X := X1) (S := S) (a := b) (t := r) (fun u hu => (hbig1 u hu).2) (fun u hu => (hS u hu).2) hne t1.symm hr
    have l2 := e2.length_eq
    obtain ⟨c, d, rfl⟩ : ∃ c d, X2 = [c, d] := by
      simp only [List.length_cons] at l1 l2
      match X2, (show X2.length = 2 by omega) with
      | [c, d], _ => exact ⟨c, d, rfl⟩
    have hc := hbig1 c (e2.mem_iff.mpr (.tail _ (.head _)))
    have hd := hbig1 d (e2.mem_iff.mpr (.tail _ (.tail _ (.head _))))
    have ha := hX a (e1.mem_iff.mpr (.head _))
    have hb := hbig1 b (e2.mem_iff.mpr (.head _))
    have t2' : r.Perm (c :: d :: S) := t2
    have hl : l.Perm (a :: b :: c :: d :: S) := hp'.trans ((t2'.cons b).cons a)
    obtain ⟨p1, q1, P1, c1⟩ := (hP.perm hl).inv
    obtain ⟨p2, q2, P2, c2⟩ := P1.inv
    obtain ⟨p3, q3, P3, c3⟩ := P2.inv
    obtain ⟨p4, q4, P4, c4⟩ := P3.inv
    have hnn := P4.nonneg fun u hu => (hS u hu).1
    have hsmall : 3 * (a - b) ≤ G ∧ 3 * (c - d) ≤ G ∧ 3 * (d - c) ≤ G := by
      rcases c1 with c1 | c1 <;> rcases c2 with c2 | c2 <;> rcases c3 with c3 | c3 <;> rcases c4 with c4 | c4 <;> omega
    have hS' : ∀ w ∈ (a - b) :: S, 0 ≤ w ∧ 3 * w ≤ G := fun w hw => by
      rcases List.mem_cons.mp hw with rfl | hw
      · exact ⟨by omega, hsmall.1⟩
      · exact hS w hw
    have perm3 : ((a - b) :: r).Perm (c :: d :: (a - b) :: S) := by
      refine (t2'.cons _).trans ?_
      refine (List.Perm.swap _ _ _).trans ?_
      exact (List.Perm.swap _ _ _).cons _
    have hk' := kk_two (G := G) hk (x := c) (y := d) (S := (a - b) :: S) perm3 hc.1 hd.1 hS'
    have hsn : ∀ l : List Int, (∀ w ∈ l, 0 ≤ w) → 0 ≤ l.sum := fun l => by
      induction l with
      | nil => intro _; simp
      | cons a l ih => intro h; rw [List.sum_cons]; have := ih fun w hw => h w (.tail _ hw); have := h a (.head _); omega
    have := hsn _ fun w hw => (hS' w hw).1
    omega

theorem five_no {l X S : List Int} (hp : l.Perm (X ++ S)) (hX5 : 5 ≤ X.length) (hX : ∀ u ∈ X, 0 ≤ u ∧ G < 3 * u) (hS : ∀ w ∈ S, 0 ≤ w ∧ 3 * w ≤ G)
    {p q : Int} (hP : Part l p q) (hpG : p ≤ G) (hqG : q ≤ G) : False := by
  obtain ⟨a, b, c, d, e, r, rfl⟩ : ∃ a b c d e r, X = a :: b :: c :: d :: e :: r := by
    match X, hX5 with
    | a :: b :: c :: d :: e :: r, _ => exact ⟨a, b, c, d, e, r, rfl⟩
  obtain ⟨p1, q1, P1, c1⟩ := (hP.perm hp).inv
  obtain ⟨p2, q2, P2, c2⟩ := P1.inv
  obtain ⟨p3, q3, P3, c3⟩ := P2.inv
  obtain ⟨p4, q4, P4, c4⟩ := P3.inv
  obtain ⟨p5, q5, P5, c5⟩ := P4.inv
  have hnn := P5.nonneg fun u hu => by
    rcases List.mem_append.mp hu with h | h
    · exact (hX u (by simp [h])).1
    · exact (hS u h).1
  have ha := hX a (by simp)
  have hb := hX b (by simp)
  have hc := hX c (by simp)
  have hd := hX d (by simp)
  have he := hX e (by simp)
  rcases c1 with c1 | c1 <;> rcases c2 with c2 | c2 <;> rcases c3 with c3 | c3 <;> rcases c4 with c4 | c4 <;> rcases c5 with c5 | c5 <;> omega

/-- Fischetti and Martello: the end is at most a third of the best, or the parting is the best -/
theorem kk_main {l : List Int} {D : Int} (h : KKs l D) (hn : ∀ x ∈ l, 0 ≤ x) {p q : Int} (hP : Part l p q) (hpG : p ≤ G) (hqG : q ≤ G) : 3 * D ≤ G ∨ l.sum + D ≤ 2 * G := by
  have hp : l.Perm (l.filter (fun x => decide (G < 3 * x)) ++ l.filter fun x => !decide (G < 3 * x)) := (List.filter_append_perm _ l).symm
  have hX : ∀ u ∈ l.filter (fun x => decide (G < 3 * x)), 0 ≤ u ∧ G < 3 * u := fun u hu => by
    rw [List.mem_filter] at hu
    exact ⟨hn u hu.1, by simpa using hu.2⟩
  have hS : ∀ w ∈ l.filter (fun x => !decide (G < 3 * x)), 0 ≤ w ∧ 3 * w ≤ G := fun w hw => by
    rw [List.mem_filter] at hw
    have h2 := hw.2
    simp only [Bool.not_eq_true', decide_eq_false_iff_not] at h2
    exact ⟨hn w hw.1, by omega⟩
  generalize l.filter (fun x => decide (G < 3 * x)) = X at *
  generalize l.filter (fun x => !decide (G < 3 * x)) = S at *
  match X, hp, hX with
  | [], hp, hX =>
    left
    have := kk_le (M := G / 3) h fun z hz => by have := hS z (hp.mem_iff.mp hz); omega
    omega
  | [x], hp, hX =>
    have hx := hX x (.head _)
    obtain ⟨p1, q1, P1, c1⟩ := (hP.perm hp).inv
    have h1 := P1.nonneg fun u hu => (hS u hu).1
    have hs := sum_perm (l' := x :: S) hp
    have hk := kk_one (G := G) (x := x) (S := S) h hp hx.1 hS
    rw [List.sum_cons] at hs
    omega
  | [x, y], hp, hX =>
    have hx := hX x (.head _)
    have hy := hX y (.tail _ (.head _))
    obtain ⟨p1, q1, P1, c1⟩ := (hP.perm hp).inv
    obtain ⟨p2, q2, P2, c2⟩ := P1.inv
    have h1 := P2.nonneg fun u hu => (hS u hu).1
    have hs := sum_perm (l' := x :: y :: S) hp
    have hk := kk_two (G := G) (x := x) (y := y) (S := S) h hp hx.1 hy.1 hS
    rw [List.sum_cons, List.sum_cons] at hs
    omega
  | [x, y, z], hp, hX => exact kk_three h hp (hX x (by simp)) (hX y (by simp)) (hX z (by simp)) hS hP hpG hqG
  | [x, y, z, u], hp, hX => exact .inl (kk_four h hp rfl hX hS hP hpG hqG)
  | _ :: _ :: _ :: _ :: _ :: _, hp, hX => exact (five_no hp (by simp) hX hS hP hpG hqG).elim
end

theorem perm2 {a b x y : Int} (h : [a, b].Perm [x, y]) : (a = x ∧ b = y) ∨ (a = y ∧ b = x) := by
  have hm : a ∈ [x, y] := h.mem_iff.mp (.head _)
  simp only [List.mem_cons, List.not_mem_nil, or_false] at hm
  rcases hm with rfl | rfl
  · exact .inl ⟨rfl, by simpa using h.cons_inv⟩
  · exact .inr ⟨rfl, by simpa using (h.trans (List.Perm.swap _ _ _)).cons_inv⟩
theorem perm3 {a b c x y z : Int} (h : [a, b, c].Perm [x, y, z]) : (a = x ∧ ((b = y ∧ c = z) ∨ (b = z ∧ c = y))) ∨ (a = y ∧ ((b = x ∧ c = z) ∨ (b = z ∧ c = x))) ∨ (a = z ∧ ((b = x ∧ c = y) ∨ (b = y ∧ c = x))) := by
  have hm : a ∈ [x, y, z] := h.mem_iff.mp (.head _)
  simp only [List.mem_cons, List.not_mem_nil, or_false] at hm
  rcases hm with rfl | rfl | rfl
  · exact .inl ⟨rfl, perm2 h.cons_inv⟩
  · exact .inr (.inl ⟨rfl, perm2 (h.trans (List.Perm.swap _ _ _)).cons_inv⟩)
  · refine .inr (.inr ⟨rfl, perm2 (h.trans ?_).cons_inv⟩)
    exact ((List.Perm.swap _ _ _).cons _).trans (List.Perm.swap _ _ _)

theorem kk1 {x D : Int} (h : KKs [x] D) : D = x := by
  cases h with
  | one _ => rfl
  | step hp _ _ _ => have := hp.length_eq; simp at this
theorem kk2 {x y D : Int} (h : KKs [x, y] D) : (D = x - y ∧ y ≤ x) ∨ (D = y - x ∧ x ≤ y) := by
  cases h with
  | @step _ r a b D hp hab hr hk =>
    have hl := hp.length_eq
    simp only [List.length_cons, List.length_nil] at hl
    obtain rfl : r = [] := List.eq_nil_of_length_eq_zero (by omega)
    have := kk1 hk
    rcases perm2 hp with ⟨rfl, rfl⟩ | ⟨rfl, rfl⟩ <;> omega
/-- three numbers -/
theorem kk3 {x y z D : Int} (h : KKs [x, y, z] D) : ∃ a b c, [x, y, z].Perm [a, b, c] ∧ b ≤ a ∧ c ≤ b ∧ ((D = a - b - c ∧ c ≤ a - b) ∨ (D = c - (a - b) ∧ a - b ≤ c)) := by
  cases h with
  | @step _ r a b D hp hab hr hk =>
    have hl := hp.length_eq
    simp only [List.length_cons, List.length_nil] at hl
    obtain ⟨c, rfl⟩ : ∃ c, r = [c] := by
      match r, (show r.length = 1 by omega) with
      | [c], _ => exact ⟨c, rfl⟩
    exact ⟨a, b, c, hp, hab, hr c (.head _), kk2 hk⟩

/-- of up to four numbers the parting is the best -/
theorem kk_small {l : List Int} {D : Int} (h : KKs l D) (h4 : l.length ≤ 4) (hn : ∀ x ∈ l, 0 ≤ x) {G p q : Int} (hP : Part l p q) (hpG : p ≤ G) (hqG : q ≤ G) : l.sum + D ≤ 2 * G := by
  cases h with
  | one w =>
    obtain ⟨p1, q1, P1, c1⟩ := hP.inv
    obtain ⟨rfl, rfl⟩ := P1.nil_inv
    have := hn D (.head _)
    simp only [List.sum_cons, List.sum_nil]
    omega
  | @step _ r a b D hp hab hr hk =>
    have hl := hp.length_eq
    simp only [List.length_cons] at hl
    have hs := sum_perm hp
    have hnn : ∀ u ∈ a :: b :: r, 0 ≤ u := fun u hu => hn u (hp.mem_iff.mpr hu)
    have ha := hnn a (.head _)
    have hb := hnn b (.tail _ (.head _))
    obtain ⟨p1, q1, P1, c1⟩ := (hP.perm hp).inv
    obtain ⟨p2, q2, P2, c2⟩ := P1.inv
    simp only [List.sum_cons] at hs
    match r, (show r.length ≤ 2 by omega) with
    | [], _ =>
      obtain ⟨rfl, rfl⟩ := P2.nil_inv
      have := kk1 hk
      simp only [List.sum_nil] at hs
      omega
    | [c], _ =>
      obtain ⟨p3, q3, P3, c3⟩ := P2.inv
      obtain ⟨rfl, rfl⟩ := P3.nil_inv
      have hk' := kk2 hk
      have hc := hnn c (by simp)
      have hcb := hr c (.head _)
      simp only [List.sum_nil, List.sum_cons] at hs
      omega
    | [c, d], _ =>
      obtain ⟨p3, q3, P3, c3⟩ := P2.inv
      obtain ⟨p4, q4, P4, c4⟩ := P3.inv
      obtain ⟨rfl, rfl⟩ := P4.nil_inv
      obtain ⟨x, y, z, e, h1, h2, h3⟩ := kk3 hk
      have hc := hnn c (by simp)
      have hd := hnn d (by simp)
      have hcb := hr c (.head _)
      have hdb := hr d (.tail _ (.head _))
      simp only [List.sum_nil, List.sum_cons] at hs
      have e3 := perm3 e
      rcases c1 with c1 | c1 <;> rcases c2 with c2 | c2 <;> rcases c3 with c3 | c3 <;> rcases c4 with c4 | c4 <;> omega

theorem kk_unique {l : List Int} {D : Int} (h : KKs l D) : ∀ {l' : List Int} {D' : Int}, l.Perm l' → KKs l' D' → D = D' := by
  induction h with
  | one x =>
    intro l' D' hp h'
    rw [List.perm_singleton.mp hp.symm] at h'
    exact (kk1 h').symm
  | @step l r a b D hp hab hr hk ih =>
    intro l' D' hpl h'
    cases h' with
    | one x => have := (hp.symm.trans hpl).length_eq; simp at this
    | @step _ r' a' b' D' hp' hab' hr' hk' =>
      have hq : (a :: b :: r).Perm (a' :: b' :: r') := hp.symm.trans (hpl.trans hp')
      have le1 : ∀ u ∈ a :: b :: r, u ≤ a := fun u hu => by
        rcases List.mem_cons.mp hu with rfl | hu
        · exact Int.le_refl _
        · rcases List.mem_cons.mp hu with rfl | hu
          · exact hab
          · exact Int.le_trans (hr u hu) hab
      have le2 : ∀ u ∈ a' :: b' :: r', u ≤ a' := fun u hu => by
        rcases List.mem_cons.mp hu with rfl | hu
        · exact Int.le_refl _
        · rcases List.mem_cons.mp hu with rfl | hu
          · exact hab'
          · exact Int.le_trans (hr' u hu) hab'
      obtain rfl : a = a' := Int.le_antisymm (le2 a (hq.mem_iff.mp (.head _))) (le1 a' (hq.mem_iff.mpr (.head _)))
      have hq2 : (b :: r).Perm (b' :: r') := hq.cons_inv
      have le3 : ∀ u ∈ b :: r, u ≤ b := fun u hu => by
        rcases List.mem_cons.mp hu with rfl | hu
        · exact Int.le_refl _
        · exact hr u hu
      have le4 : ∀ u ∈ b' :: r', u ≤ b' := fun u hu => by
        rcases List.mem_cons.mp hu with rfl | hu
        · exact Int.le_refl _
        · exact hr' u hu
      obtain rfl : b = b' := Int.le_antisymm (le4 b (hq2.mem_iff.mp (.head _))) (le3 b' (hq2.mem_iff.mpr (.head _)))
      exact ih (hq2.cons_inv.cons _) hk'

/-- 3c, 3c, 2c, 2c, 2c end at 2c -/
theorem kk_worst {c D : Int} (hc : 0 ≤ c) (h : KKs [3 * c, 3 * c, 2 * c, 2 * c, 2 * c] D) : D = 2 * c := by
  have h' : KKs [3 * c, 3 * c, 2 * c, 2 * c, 2 * c] (2 * c) := by
    refine KKs.step (List.Perm.refl _) (Int.le_refl _) (fun y hy => by simp at hy; omega) ?_
    refine KKs.step (a := 2 * c) (b := 2 * c) (r := [2 * c, 3 * c - 3 * c]) ?_ (Int.le_refl _) (fun y hy => by simp at hy; omega) ?_
    · rw [List.perm_iff_count]; intro u; simp only [List.count_cons, List.count_nil]; omega
    refine KKs.step (a := 2 * c) (b := 2 * c - 2 * c) (r := [3 * c - 3 * c]) ?_ (by omega) (fun y hy => by simp at hy; omega) ?_
    · rw [List.perm_iff_count]; intro u; simp only [List.count_cons, List.count_nil]; omega
    have e1 : 2 * c - (2 * c - 2 * c) = 2 * c := by omega
    rw [e1]
    refine KKs.step (a := 2 * c) (b := 3 * c - 3 * c) (r := []) (List.Perm.refl _) (by omega) (fun y hy => by simp at hy) ?_
    have e2 : 2 * c - (3 * c - 3 * c) = 2 * c := by omega
    rw [e2]
    exact .one _
  exact kk_unique h (List.Perm.refl _) h'
end Mine

-- W10
open PySem PySem.W PyProof.Rows PySem.Calls
set_option Elab.async false
set_option maxRecDepth 100000
namespace Mine

abbrev kap (ι : Value → Itm) (v : Value) : Int × Int := ((ι v).x, (ι v).k)
/-- the sum of the numbers at these places -/
def sumAt (xs : List Int) (l : List Int) : Int := (l.map fun k => xs.getD k.toNat 0).sum
theorem sumAt_app (xs l l' : List Int) : sumAt xs (l ++ l') = sumAt xs l + sumAt xs l' := by
  unfold sumAt
  rw [List.map_append, List.sum_append]

theorem ItmIn.tup {h₀ h : Heap} {L : Addr} {news T : List (Addr × Obj)} {v : Value} {it : Itm} (i : ItmIn T v it) (N : News h₀ L h news) (hs : ∀ p ∈ T, p ∈ news) : TupAt h v (it.x, it.k) := by
  obtain ⟨a, sa, ua, t1, t2, svs, uvs, rfl, h1, _⟩ := i
  exact ⟨a, t1, t2, _, _, rfl, _, (N _ (hs _ h1)).1, rfl, _, rfl⟩
theorem ItmIn.fnV {T : List (Addr × Obj)} {v : Value} {it it' : Itm} {h₀ h : Heap} {L : Addr} (N : News h₀ L h T) (i : ItmIn T v it) (i' : ItmIn T v it') : it.x = it'.x ∧ it.k = it'.k := by
  have := (i.tup N fun _ h => h).fn (i'.tup N fun _ h => h)
  exact ⟨congrArg Prod.fst this, congrArg Prod.snd this⟩

theorem ordLex (κ : Value → Int × Int) : OrdL (vlt κ) where
  asym := fun _ _ h => lex_asymm h
  nt := fun _ _ _ h h' => lex_ntrans h h'

/-- the items of the plain list: their places and their numbers -/
structure PInv (xs : List Int) (T : List (Addr × Obj)) (ps : List Value) (ι : Value → Itm) (made : Int) : Prop where
  itm : ∀ v ∈ ps, ItmIn T v (ι v)
  apart : ∀ u ∈ ps, ∀ v ∈ ps, u = v ∨ (ι u).k ≠ (ι v).k
  nodup : ps.Nodup
  lt : ∀ v ∈ ps, (ι v).k < made
  pos : ∀ v ∈ ps, 0 ≤ (ι v).x
  diff : ∀ v ∈ ps, (ι v).x = sumAt xs (ι v).near - sumAt xs (ι v).far
  idx : (ps.flatMap fun v => (ι v).near ++ (ι v).far).Perm ((List.range xs.length).map fun (i : Nat) => (i : Int))
  kk : ∀ D, KKs (ps.map fun v => (ι v).x) D → KKs xs D

theorem PInv.vok {xs : List Int} {T news : List (Addr × Obj)} {ps : List Value} {ι : Value → Itm} {made : Int} {h₀ h : Heap} {L : Addr} (I : PInv xs T ps ι made) (N : News h₀ L h news) (hs : ∀ p ∈ T, p ∈ news) : Vok h (kap ι) ps :=
  ⟨fun v hv => (I.itm v hv).tup N hs, fun u hu v hv => (I.apart u hu v hv).imp id fun h e => h (congrArg Prod.snd e)⟩

theorem PInv.same {xs : List Int} {T : List (Addr × Obj)} {ps : List Value} {ι : Value → Itm} {made : Int} (I : PInv xs T ps ι made) {u v : Value} (hu : u ∈ ps) (hv : v ∈ ps) (h1 : lexlt (kap ι u) (kap ι v) = false) (h2 : lexlt (kap ι v) (kap ι u) = false) : u = v :=
  (I.apart u hu v hv).resolve_right fun h => h (congrArg Prod.snd (lex_eq h1 h2))

theorem PInv.small {xs : List Int} {T : List (Addr × Obj)} {ps : List Value} {ι : Value → Itm} {made : Int} (I : PInv xs T ps ι made) {v : Value} (hv : v ∈ ps) : (ι v).near.length + (ι v).far.length ≤ xs.length := by
  have h1 := (List.Perm.flatMap_right (fun v => (ι v).near ++ (ι v).far) (List.perm_cons_erase hv)).symm.trans I.idx
  have h2 := h1.length_eq
  rw [List.flatMap_cons, List.length_append, List.length_append, List.length_map, List.length_range] at h2
  omega

theorem lex_le {a b : Int × Int} (h : lexlt a b = false) : b.1 ≤ a.1 := by
  unfold lexlt at h
  simp only [decide_eq_false_iff_not] at h
  omega

theorem PInv.step {xs : List Int} {T T' : List (Addr × Obj)} {ps : List Value} {ι : Value → Itm} {made : Int} {f g fresh : Value} (I : PInv xs T ps ι made)
    (hf : f ∈ ps) (hg : g ∈ ps.erase f) (mf : ∀ u ∈ ps, lexlt (kap ι f) (kap ι u) = false) (mg : ∀ u ∈ ps.erase f, lexlt (kap ι g) (kap ι u) = false) (hne : ∀ u ∈ ps, u ≠ fresh)
    (hT : ∀ p ∈ T, p ∈ T') (hi : ItmIn T' fresh ⟨(ι f).x - (ι g).x, made, (ι f).near ++ (ι g).far, (ι f).far ++ (ι g).near⟩) :
    PInv xs T' ((ps.erase f).erase g ++ [fresh]) (fun v => if v = fresh then ⟨(ι f).x - (ι g).x, made, (ι f).near ++ (ι g).far, (ι f).far ++ (ι g).near⟩ else ι v) (made + 1) := by
  generalize hit : (⟨(ι f).x - (ι g).x, made, (ι f).near ++ (ι g).far, (ι f).far ++ (ι g).near⟩ : Itm) = it at hi ⊢
  have P1 : ps.Perm (f :: ps.erase f) := List.perm_cons_erase hf
  have P2 : (ps.erase f).Perm (g :: (ps.erase f).erase g) := List.perm_cons_erase hg
  have P : ps.Perm (f :: g :: (ps.erase f).erase g) := P1.trans (P2.cons f)
  generalize (ps.erase f).erase g = r at P P2 ⊢
  have hgp : g ∈ ps := P.mem_iff.mpr (.tail _ (.head _))
  have hr : ∀ v ∈ r, v ∈ ps := fun v hv => P.mem_iff.mpr (.tail _ (.tail _ hv))
  have hrf : ∀ v ∈ r, v ≠ fresh := fun v hv => hne v (hr v hv)
  have mem : ∀ v ∈ r ++ [fresh], v ∈ r ∨ v = fresh := fun v hv => (List.mem_append.mp hv).imp id fun h => List.mem_singleton.mp h
  have lx : (ι g).x ≤ (ι f).x := lex_le (mf g hgp)
  have nd := (P.nodup_iff).mp I.nodup
  have ndr : r.Nodup := (List.nodup_cons.mp (List.nodup_cons.mp nd).2).2
  have Pn : (r ++ [fresh]).Perm (fresh :: r) := List.perm_append_singleton _ _
  have mapr : ∀ {β : Type} (φ : Itm → β), r.map (fun v => φ (if v = fresh then it else ι v)) = r.map fun v => φ (ι v) := fun φ => List.map_congr_left fun v hv => by rw [if_neg (hrf v hv)]
  refine ⟨fun v hv => ?_, fun u hu v hv => ?_, ?_, fun v hv => ?_, fun v hv => ?_, fun v hv => ?_, ?_, fun D hD => ?_⟩
  · rcases mem v hv with h | rfl
    · rw [if_neg (hrf v h)]; exact (I.itm v (hr v h)).mono hT
    · rw [if_pos rfl]; exact hi
  · rcases mem u hu with h | rfl <;> rcases mem v hv with h' | h'
    · rw [if_neg (hrf u h), if_neg (hrf v h')]; exact I.apart u (hr u h) v (hr v h')
    · subst h'
      right
      rw [if_neg (hrf u h), if_pos rfl, ← hit]
      exact Int.ne_of_lt (I.lt u (hr u h))
    · right
      rw [if_neg (hrf v h'), if_pos rfl, ← hit]
      exact Int.ne_of_gt (I.lt v (hr v h'))
    · exact .inl h'.symm
  · rw [Pn.nodup_iff]
    exact List.nodup_cons.mpr ⟨fun h => hrf _ h rfl, ndr⟩
  · rcases mem v hv with h | rfl
    · rw [if_neg (hrf v h)]; have := I.lt v (hr v h); omega
    · rw [if_pos rfl, ← hit]; show made < made + 1; omega
  · rcases mem v hv with h | rfl
    · rw [if_neg (hrf v h)]; exact I.pos v (hr v h)
    · rw [if_pos rfl, ← hit]; show 0 ≤ (ι f).x - (ι g).x; omega
  · rcases mem v hv with h | rfl
    · rw [if_neg (hrf v h)]; exact I.diff v (hr v h)
    · rw [if_pos rfl, ← hit]
      have d1 := I.diff f hf
      have d2 := I.diff g hgp
      show (ι f).x - (ι g).x = sumAt xs ((ι f).near ++ (ι g).far) - sumAt xs ((ι f).far ++ (ι g).near)
      rw [sumAt_app, sumAt_app]
      omega
  · refine List.Perm.trans ?_ I.idx
    refine List.Perm.trans ?_ (List.Perm.flatMap_right _ P).symm
    refine List.Perm.trans (List.Perm.flatMap_right _ Pn) ?_
    simp only [List.flatMap_cons, if_true]
    have e : (r.flatMap fun v => (if v = fresh then it else ι v).near ++ (if v = fresh then it else ι v).far) = r.flatMap fun v => (ι v).near ++ (ι v).far := by
      rw [List.flatMap_def, List.flatMap_def, mapr fun i => i.near ++ i.far]
    rw [e, ← List.append_assoc]
    refine List.Perm.append_right _ ?_
    rw [← hit]
    show ((ι f).near ++ (ι g).far ++ ((ι f).far ++ (ι g).near)).Perm _
    rw [List.perm_iff_count]
    intro a
    simp only [List.count_append]
    omega
  · refine I.kk D ?_
    refine KKs.step (a := (ι f).x) (b := (ι g).x) (r := r.map fun v => (ι v).x) (P.map fun v => (ι v).x) lx (fun y hy => ?_) (hD.perm ?_)
    · obtain ⟨v, hv, rfl⟩ := List.mem_map.mp hy
      exact lex_le (mg v (P2.mem_iff.mpr (.tail _ hv)))
    · refine (Pn.map _).trans ?_
      have e := mapr fun i => i.x
      simp only [List.map_cons, if_true]
      rw [e, ← hit]

theorem HeapFrom.congr {κ κ' : Value → Int × Int} {vs : List Value} {k : Nat} (h : HeapFrom (vlt κ) k vs) (e : ∀ v ∈ vs, κ' v = κ v) : HeapFrom (vlt κ') k vs := fun i h0 h1 h2 => by
  have := h i h0 h1 h2
  unfold vlt at this ⊢
  rw [e _ (getD_mem (by omega)), e _ (getD_mem h1)]
  exact this

/-- the top of the heap is the greatest of the plain list -/
theorem PInv.top {xs : List Int} {T : List (Addr × Obj)} {ps hs : List Value} {ι : Value → Itm} {made : Int} (I : PInv xs T ps ι made) {qs : List Value} (hq : ∀ v ∈ qs, v ∈ ps) (P : hs.Perm qs) (H : HeapFrom (vlt (kap ι)) 0 hs) {f : Value} (hf : f ∈ qs)
    (mf : ∀ u ∈ qs, lexlt (kap ι f) (kap ι u) = false) : hs.getD 0 .none = f := by
  have h0 : 0 < hs.length := by rw [P.length_eq]; exact List.length_pos_of_mem hf
  have hm := P.mem_iff.mp (getD_mem h0)
  refine I.same (hq _ hm) (hq _ hf) ?_ (mf _ hm)
  obtain ⟨i, hi, e⟩ := List.mem_iff_getElem.mp (P.mem_iff.mpr hf)
  have := root_max (ordLex (kap ι)) (fun v => lexlt_irrefl _) H i hi
  have e2 : hs.getD i .none = f := by simp [List.getD, hi, e]
  rw [e2] at this
  exact this

/-- the first items: each number with its own place -/
theorem PInv.start {xs : List Int} {T : List (Addr × Obj)} {ys : List Value} {h₀ h : Heap} {L : Addr} (N : News h₀ L h T) (hl : ys.length = xs.length) (h : ∀ j, j < xs.length → ItmIn T (ys.getD j .none) ⟨xs.getD j 0, j, [(j : Int)], []⟩) (h0 : ∀ x ∈ xs, 0 ≤ x) :
    PInv xs T ys (fun v => ⟨xs.getD (ys.idxOf v) 0, (ys.idxOf v : Nat), [((ys.idxOf v : Nat) : Int)], []⟩) xs.length := by
  have inj : ∀ i j, i < ys.length → j < ys.length → ys.getD i .none = ys.getD j .none → i = j := fun i j hi hj e => by
    have a := h i (by omega)
    have b := h j (by omega)
    rw [← e] at b
    have := (a.fnV N b).2
    exact Int.ofNat.inj this
  have nd : ys.Nodup := by
    refine List.pairwise_iff_getElem.mpr fun i j hi hj hij e => ?_
    have := inj i j hi hj (by simp [List.getD, hj, hi, e])
    omega
  have ix : ∀ v ∈ ys, ys.idxOf v < ys.length ∧ ys.getD (ys.idxOf v) .none = v := fun v hv => by
    have hlt := List.idxOf_lt_length_of_mem hv
    exact ⟨hlt, by simp [List.getD, hlt, List.getElem_idxOf]⟩
  have ixe : ∀ i, i < ys.length → ys.idxOf (ys.getD i .none) = i := fun i hi => by
    obtain ⟨a, b⟩ := ix _ (getD_mem hi)
    exact inj _ _ a hi b
  have mp : ∀ {β : Type} (φ : Nat → β), ys.map (fun v => φ (ys.idxOf v)) = (List.range xs.length).map φ := fun φ => by
    apply List.ext_getElem?
    intro i
    by_cases hi : i < ys.length
    · have := ixe i hi
      simp only [List.getElem?_map, List.getElem?_range, hi, ← hl, List.getElem?_eq_getElem, Option.map_some]
      have e : ys.getD i .none = ys[i] := by simp [List.getD, hi]
      rw [e] at this
      rw [this]
    · simp [hi, ← hl]
  refine ⟨fun v hv => ?_, fun u hu v hv => ?_, nd, fun v hv => ?_, fun v hv => ?_, fun v hv => ?_, ?_, fun D hD => ?_⟩
  · have := h (ys.idxOf v) (by rw [← hl]; exact (ix v hv).1)
    rw [(ix v hv).2] at this
    exact this
  · by_cases e : ys.idxOf u = ys.idxOf v
    · left
      rw [← (ix u hu).2, ← (ix v hv).2, e]
    · right
      exact fun q => e (Int.ofNat.inj q)
  · have := (ix v hv).1
    show ((ys.idxOf v : Nat) : Int) < _
    omega
  · have hlt := (ix v hv).1
    show 0 ≤ xs.getD (ys.idxOf v) 0
    have : ys.idxOf v < xs.length := by omega
    rw [show xs.getD (ys.idxOf v) 0 = xs[ys.idxOf v] by simp [List.getD, this]]
    exact h0 _ (List.getElem_mem this)
  · simp [sumAt]
  · have one : ∀ {l : List Value} (φ : Value → Int), (l.flatMap fun v => [φ v] ++ []) = l.map φ := fun {l} φ => by
      induction l with
      | nil => rfl
      | cons a r ih => rw [List.flatMap_cons, ih]; rfl
    have e := one (l := ys) fun v => ((ys.idxOf v : Nat) : Int)
    show (ys.flatMap fun v => [((ys.idxOf v : Nat) : Int)] ++ []).Perm _
    rw [e, mp fun (i : Nat) => (i : Int)]
  · have e := mp fun i => xs.getD i 0
    have e2 : (List.range xs.length).map (fun i => xs.getD i 0) = xs := by
      apply List.ext_getElem?
      intro i
      by_cases hi : i < xs.length
      · simp [hi]
      · simp [hi]
    have hD' : KKs (ys.map fun v => xs.getD (ys.idxOf v) 0) D := hD
    rw [e, e2] at hD'
    exact hD'
end Mine

-- K3
set_option Elab.async false
namespace Mine
theorem part_right : ∀ {l : List Int}, Part l 0 l.sum
  | [] => .nil
  | a :: l => by rw [List.sum_cons]; exact .right a part_right
theorem part_app : ∀ {l l' : List Int}, Part (l ++ l') l.sum l'.sum
  | [], l' => part_right
  | a :: l, l' => by rw [List.sum_cons]; exact .left a part_app
theorem at_all (xs : List Int) : ((List.range xs.length).map fun (i : Nat) => (i : Int)).map (fun k => xs.getD k.toNat 0) = xs := by
  apply List.ext_getElem?
  intro i
  by_cases hi : i < xs.length
  · simp [hi]
  · simp [hi]
/-- the two sides part the numbers -/
theorem places_part {xs near far : List Int} (h : (near ++ far).Perm ((List.range xs.length).map fun (i : Nat) => (i : Int))) : Part xs (sumAt xs near) (sumAt xs far) := by
  have h1 := h.map fun k => xs.getD k.toNat 0
  rw [at_all, List.map_append] at h1
  exact part_app.perm h1

/-- what the law asks of the numbers' end: the greater sum against the least -/
theorem law_arith {xs : List Int} {D least : Int} (hn : ∀ x ∈ xs, 0 ≤ x) (hk : KKs xs D) (hd : ∃ p q, Part xs p q ∧ p - q = D) (hl : ∃ p q, Part xs p q ∧ max p q = least) (hall : ∀ p q, Part xs p q → least ≤ max p q) :
    (xs.sum + D) % 2 = 0 ∧ least ≤ (xs.sum + D) / 2 ∧ 6 * ((xs.sum + D) / 2) ≤ 7 * least ∧ (xs.length ≤ 4 → (xs.sum + D) / 2 = least) ∧ 0 ≤ D := by
  obtain ⟨p, q, P, e⟩ := hd
  obtain ⟨p', q', P', e'⟩ := hl
  have hs := P.sum
  have hs' := P'.sum
  have h0 := P'.nonneg hn
  have hD : 0 ≤ D := by
    have hb : ∀ {l : List Int} {D : Int}, KKs l D → (∀ x ∈ l, 0 ≤ x) → 0 ≤ D := fun {l D} h => by
      induction h with
      | one x => exact fun h => h x (.head _)
      | @step l r a b D hp hab hr _ ih =>
        intro h
        refine ih fun y hy => ?_
        rcases List.mem_cons.mp hy with rfl | hy
        · omega
        · exact h y (hp.mem_iff.mpr (.tail _ (.tail _ hy)))
    exact hb hk hn
  have h1 := hall p q P
  have hm := kk_main (G := least) hk hn P' (by omega) (by omega)
  have h4 : xs.length ≤ 4 → xs.sum + D ≤ 2 * least := fun h => kk_small hk h hn P' (by omega) (by omega)
  have h2 : least ≤ (xs.sum + D) / 2 := by omega
  have hw : xs.sum ≤ 2 * least := by omega
  refine ⟨by omega, h2, by omega, fun h => ?_, hD⟩
  have := h4 h
  omega
end Mine

-- W11
open PySem PySem.W PyProof.Rows PySem.Calls
set_option Elab.async false
set_option maxRecDepth 100000
namespace Mine
section
variable {prog : Program} {w : World} {A : Around} {E : Value → Shared → Prop} {s : Shared} {h₀ : Heap} {L D : Addr} {m : Str → Option Value} {news news' T : List (Addr × Obj)} {n : Nat} {vs : List Value}

/-- two tuples put together: the first, the second or a new one -/
theorem addTup {t b : Addr} {vs ws : List Value} {Q : Value → Shared → Prop}
    (F : Fr h₀ L s.heap m) (N : News h₀ L s.heap news) (hT : ∀ p ∈ T, p ∈ news) (ht : (t, tupO vs) ∈ T) (hb : (b, tupO ws) ∈ T) (hsz : vs.length + ws.length ≤ 64)
    (h : ∀ r h' new, Fr h₀ L h' m → News h₀ L h' (new ++ news) → (∀ p ∈ new, s.heap.objs.size ≤ p.1) → (r, tupO (vs ++ ws)) ∈ new ++ T → Q (.ref r) { s with heap := h' }) :
    wpAny (model prog w) A (binaryOp .Add (.ref t) (.ref b)) Q E s := by
  refine add_tuples F N (vs := vs) (ws := ws) ⟨_, (N _ (hT _ ht)).1, rfl, _, rfl⟩ ⟨_, (N _ (hT _ hb)).1, rfl, _, rfl⟩ (fun e => ?_) (fun _ e => ?_) (fun _ _ h' F' N' => ?_) (by rw [sizeLine_eq]; omega)
  · subst e; exact h b s.heap [] F N (fun _ h => nomatch h) hb
  · subst e; exact h t s.heap [] F N (fun _ h => nomatch h) (by rw [List.append_nil]; exact ht)
  · exact h _ h' [(_, tupO (vs ++ ws))] F' N' (fun p hp => by rw [List.mem_singleton.mp hp]; exact Nat.le_refl _) (.head _)

/-- a place of an item -/
theorem itmAt {value slice : PySem.Expr} {t : Addr} {a b c d : Value} {k : Int} {u : Tok} {j : Nat} {x : Value} {Q : Value → Shared → Prop}
    (N : News h₀ L s.heap news) (ht : (t, tupO [a, b, c, d]) ∈ news) (hk : k = (j : Int)) (hj : j < 4) (hx : ([a, b, c, d] : List Value)[j]? = some x) (h : Q x s)
    (hs : subscripted slice false (.ref t) (.int k u) = operate [.ref t, .int k u] (getItem (.ref t) (.int k u)) := by with_unfolding_all rfl) :
    wpAny (model prog w) A (subscriptTail value slice (.ref t) (.int k u)) Q E s := by
  subst hk
  refine item_tupleT (l := [a, b, c, d]) (j := j) ⟨_, (N _ ht).1, rfl, _, rfl⟩ (by omega) (by omega) ?_ hx h hs
  match j, hj with
  | 0, _ => rfl
  | 1, _ => rfl
  | 2, _ => rfl
  | 3, _ => rfl

theorem appendV {v : Value} {Q : Value → Shared → Prop} (F : Fr h₀ L s.heap m) (N : News h₀ L s.heap news) (U : Upd D (listOf vs.toArray n) (listOf (vs ++ [v]).toArray (n + 1)) news news') (hfit : vs.length ≤ 64)
    (h : ∀ h', Fr h₀ L h' m → News h₀ L h' news' → Q .none { s with heap := h' }) :
    wpAny (model prog w) A (call (.builtin "list.append") [.ref D, v]) Q E s := by
  obtain ⟨pre, post, rfl, rfl, a, b⟩ := U.split
  have z := N (D, listOf vs.toArray n) (List.mem_append.mpr (.inr (.head _)))
  refine append_at (its := vs.toArray) (n := n) z.1 (fun h' hs ho' => h h' (F.change hs z.2.1 z.2.2) (news_set N a b hs ?_)) (by rw [List.size_toArray, sizeLine_eq]; omega)
  rw [ho']
  simp

theorem sortedV {l : Addr} {κ : Value → Int × Int} {Q : Value → Shared → Prop} (F : Fr h₀ L s.heap m) (N : News h₀ L s.heap news) (hl : s.heap.IsList l vs.toArray) (nd : vs.Nodup) (h64 : vs.length < 64) (VN : ∀ h, Fr h₀ L h m → News h₀ L h news → Vok h κ vs)
    (h : ∀ D c h' out, Fr h₀ L h' m → News h₀ L h' ((D, listOf (List.toArray out) c) :: news) → (∀ q ∈ news, q.1 < D) → out.Perm vs → out.Pairwise (fun u v => lexlt (κ u) (κ v) = true) → Q (.ref D) { s with heap := h' }) :
    wpAny (model prog w) A (call (.builtin "sorted") [.ref l]) Q E s := by
  by_cases h2 : 2 ≤ vs.length
  · exact sorted2V F N hl (VN _ F N) nd h2 h64 VN h
  · refine sorted1V F N hl (by omega) fun D c h' F' N' hq => h D c h' vs F' N' hq (List.Perm.refl _) ?_
    match vs, h2 with
    | [], _ => exact List.Pairwise.nil
    | [a], _ => exact List.pairwise_singleton _ _
    | _ :: _ :: r, h2 => exact absurd (by simp) h2

/-- two lists of the same values -/
theorem neSame {l b : Addr} {Q : Value → Shared → Prop} (hl : s.heap.IsList l vs.toArray) (hb : s.heap.IsList b vs.toArray) (hu : A.units < cLine) (h : Q (.bool false) s) :
    wpAny (model prog w) A (compareOp .NotEq (.ref l) (.ref b)) Q E s := by
  have R := PySem.SeqAt.RcNeAt.lists (A := A) (e := fun _ => true) hl hb rfl hu fun j h1 h2 => fun prog w E Q hq => eqSame _ hq
  have e : (!(List.range vs.toArray.size).all fun _ => true) = false := by simp
  rw [e] at R
  exact R prog w E Q h
end

theorem sorted_same {κ : Value → Int × Int} {o1 o2 vs ws : List Value} (h1 : o1.Perm vs) (h2 : o2.Perm ws) (h : vs.Perm ws) (p1 : o1.Pairwise fun u v => lexlt (κ u) (κ v) = true) (p2 : o2.Pairwise fun u v => lexlt (κ u) (κ v) = true) : o1 = o2 :=
  List.Perm.eq_of_pairwise (fun a b _ _ x y => by rw [lex_asymm x] at y; cases y) p1 p2 (h1.trans (h.trans h2.symm))

/-- the heap with the new item bears items apart -/
theorem PInv.vokRep {xs : List Int} {T T' news : List (Addr × Obj)} {ps vs : List Value} {ι : Value → Itm} {made : Int} {h₀ h : Heap} {L : Addr} {fresh : Value} {it : Itm} (I : PInv xs T ps ι made) (N : News h₀ L h news) (hs : ∀ p ∈ T', p ∈ news)
    (hne : ∀ u ∈ ps, u ≠ fresh) (hT : ∀ p ∈ T, p ∈ T') (hi : ItmIn T' fresh it) (hk : it.k = made) (hv : ∀ v ∈ vs, v ∈ ps) : Vok h (kap fun v => if v = fresh then it else ι v) (fresh :: vs) := by
  have e0 : kap (fun v => if v = fresh then it else ι v) fresh = (it.x, it.k) := by simp
  have e1 : ∀ v ∈ ps, kap (fun v => if v = fresh then it else ι v) v = kap ι v := fun v h => by simp [kap, hne v h]
  generalize kap (fun v => if v = fresh then it else ι v) = κ at e0 e1
  refine ⟨fun v hv' => ?_, fun u hu v hv' => ?_⟩
  · rcases List.mem_cons.mp hv' with rfl | h'
    · rw [e0]; exact hi.tup N hs
    · rw [e1 v (hv v h')]; exact (I.itm v (hv v h')).tup N fun p hp => hs p (hT p hp)
  · rcases List.mem_cons.mp hu with rfl | h1 <;> rcases List.mem_cons.mp hv' with h2 | h2
    · exact .inl h2.symm
    · right
      rw [e0, e1 v (hv v h2)]
      intro e
      have e2 : it.k = (ι v).k := congrArg Prod.snd e
      have := I.lt v (hv v h2)
      omega
    · subst h2
      right
      rw [e0, e1 u (hv u h1)]
      intro e
      have e2 : (ι u).k = it.k := congrArg Prod.snd e
      have := I.lt u (hv u h1)
      omega
    · rw [e1 u (hv u h1), e1 v (hv v h2)]
      exact (I.apart u (hv u h1) v (hv v h2)).imp id fun h e => h (congrArg Prod.snd e)

/-- the heap behind _heapreplace_max holds what the plain list holds -/
theorem PInv.rep {xs : List Int} {T : List (Addr × Obj)} {ps hs : List Value} {ι : Value → Itm} {made : Int} {f g fresh : Value} {it : Itm} (_ : PInv xs T ps ι made)
    (hg : g ∈ ps.erase f) (hne : ∀ u ∈ ps, u ≠ fresh) (P : hs.Perm (ps.erase f)) (H : HeapFrom (vlt (kap ι)) 0 hs) (htop : hs.getD 0 .none = g) :
    (repAll (vlt (kap fun v => if v = fresh then it else ι v)) fresh hs).Perm ((ps.erase f).erase g ++ [fresh]) ∧ HeapFrom (vlt (kap fun v => if v = fresh then it else ι v)) 0 (repAll (vlt (kap fun v => if v = fresh then it else ι v)) fresh hs) := by
  have e1 : ∀ v ∈ hs, kap (fun v => if v = fresh then it else ι v) v = kap ι v := fun v h => by simp [kap, hne v (List.mem_of_mem_erase (P.mem_iff.mp h))]
  generalize kap (fun v => if v = fresh then it else ι v) = κ at e1
  have H' : HeapFrom (vlt κ) 0 hs := H.congr e1
  have h0 : 0 < hs.length := by rw [P.length_eq]; exact List.length_pos_of_mem hg
  have r1 := rep_heap (ordLex κ) (x := fresh) h0 H'
  have r2 := rep_perm (ordLex κ) (x := fresh) h0 H'
  refine ⟨?_, r1.1⟩
  rw [htop] at r2
  have r3 : (g :: repAll (vlt κ) fresh hs).Perm (g :: (fresh :: (ps.erase f).erase g)) :=
    r2.trans (((P.trans (List.perm_cons_erase hg)).cons fresh).trans (List.Perm.swap _ _ _))
  exact r3.cons_inv.trans (List.perm_append_singleton _ _).symm
end Mine

-- W13
open PySem PySem.W PyProof.Rows PySem.Calls
set_option Elab.async false
set_option maxRecDepth 100000
namespace Mine
section
variable {prog : Program} {w : World} {A : Around} {E : Value → Shared → Prop} {s : Shared} {D : Addr} {n : Nat}
theorem popNone {Q : Value → Shared → Prop} (hA : A.handled = none) (ho : s.heap.get? D = some (listOf ([] : List Value).toArray n))
    (hE : ∀ h' tk e, Heap.NewExc s.heap h' e "IndexError" → E (.ref e) { s with heap := h', toks := tk }) :
    wpAny (model prog w) A (call (.builtin "list.pop") [.ref D]) Q E s :=
  call_meets PySem.F.slot_list_pop ⟨_, ho, rfl⟩ PySem.F.entry_list_pop (PySem.F.args_list_pop_1 _) (PySem.AutoSeq1.list_pop_list_0 D _ n rfl) ⟨ho, hA, fun h' tk e x => hE h' tk e x⟩
end

section
variable {prog : Program} {w : World} {A₀ A : Around} {s : Shared} {base h₀ : Heap} {L a : Addr} {m : Str → Option Value} {cn : Str} {cs : Scope} {ccd : Value} {K : Frag} {p : Program} {loose : List Str} {mean : ExcName → Option Value} {mg mb : Str → Option Value}
  {R : Result → Shared → Prop} {name qual : Str} {params : Arguments} {body : List Stmt} {scope : Scope} {dV kV doc pm cdv ct oc : Value} {an od : Option Addr} {osl : Array (Option Value)} {f : Addr} {args : Args} {binds : List (Str × Value)}

/-- the law's frame may bear other slots behind a def that caught something: all else stays -/
theorem enter_try (B : Below A₀ base [] h₀) (F : Fr h₀ L s.heap m) (X₀ : K.In h₀) (T : Top p loose mean mg mb h₀) (hA : A.frames = some [envOf cn cs L a ccd])
    (ho : K.lookup f = some ⟨oc, od, .func (fnOf name qual params body scope dV kV doc pm an cdv ct), osl⟩) (hcd : codeIn K cdv qual = true) (hroom : A.depth < recursionLimit)
    (hbind : BindsTo s (fnOf name qual params body scope dV kV doc pm an cdv ct) args binds) (hloc : ∀ y ∈ binds, scope.names.lookup y.1 = some .local)
    (h : ∀ g L' h₁, g = s.heap → Fr g L' h₁ (fun y => binds.reverse.lookup y) → Below A base [envOf cn cs L a ccd] g → K.In g → Top p loose mean mg mb g → KtsDicts ([envOf cn cs L a ccd].filterMap (·.frame)) g →
      wpAny (model prog w) (A.deeper (envOf qual scope L' f cdv)) (execs body (envOf qual scope L' f cdv))
        (fun fl s' => LeaveS0 ([envOf cn cs L a ccd].filterMap (·.frame)) h₀ L m g R (match fl with | .ret v => v | _ => .none) s')
        (fun e s' => wpAny (model prog w) (A.deeper (envOf qual scope L' f cdv)) (leaving (envOf qual scope L' f cdv) e) (fun _ s'' => R (.error e) s'') (fun e' s'' => R (.error e') s'') s')
        { s with heap := h₁, toks := s.toks + binds.length })
    (hck : cs.kind = .function) (hco : scope.isCoroutine = false) (hgen : scope.isGenerator = false) (hk : scope.kind = .function)
    (hcell : ∀ x ∈ scope.names, x.2 ≠ .cell) : codeAny (model prog w) A (.call (.ref f) args) R s := by
  have N : News h₀ L s.heap [] := News.nil
  obtain ⟨oL, es, ep, hLg, hLd, hN, hNs, st, B₂⟩ := kts_enter B F N hA hck
  replace hLg : s.heap.get? L = some oL := hLg
  replace st : h₀.StaysIn s.heap := st
  have frm : ∀ b, b ∈ [envOf cn cs L a ccd].filterMap (·.frame) → b = L := fun b hb => by
    rcases kts_mem hb with z | z
    · exact z
    · simp at z
  have D : KtsDicts ([envOf cn cs L a ccd].filterMap (·.frame)) s.heap := fun b hb => by
    rw [frm b hb]
    exact ⟨oL, es, ep, hLg, hLd⟩
  refine codeAny_call_def (fd := fnOf name qual params body scope dV kV doc pm an cdv ct) (body := body) (binds := binds) hroom (X₀.keeps st _ _ ho) rfl (T.nolimit.keeps st) (codeRec_of (X₀.keeps st) hcd) rfl hbind hcell hloc (fun h₁ hns hk₁ => ?_) hco hgen hk
  refine wpAny_mono (h s.heap s.heap.objs.size h₁ rfl ⟨hns, hk₁, Nat.le_refl _⟩ B₂ (X₀.keeps st) (T.keeps st) D) (fun fl s' hl => ?_) fun _ _ y => y
  obtain ⟨g', L', m', news', T', F', N', k⟩ := hl
  obtain ⟨sl, hs⟩ := T'.up hLg
  have up : ∀ b o, h₀.get? b = some o → g'.get? b = some o := fun b o e => T'.other b o (st b o e) fun hb => by
    have := kts_self F
    rw [frm b hb] at e
    rw [this] at e
    cases e
  refine k ⟨hNs sl _ (F'.keep _ _ hs), fun b o e => F'.keep b o (up b o e), F.above⟩ fun q hq => ⟨(N' q hq).1, fun e => ?_, ?_⟩
  · have := (N' q hq).2.2
    rw [e, hs] at this
    cases this
  · cases e : h₀.get? q.1 with
    | none => rfl
    | some o =>
      have := (N' q hq).2.2
      rw [up _ _ e] at this
      cases this
end
end Mine

-- M1
open PySem PySem.W PyProof.Rows PySem.Calls
set_option Elab.async false
set_option maxRecDepth 100000
namespace Mine
section
variable {prog : Program} {w : World} {A : Around} {E : Value → Shared → Prop} {s : Shared} {h₀ : Heap} {L : Addr} {m : Str → Option Value} {env : Env}

/-- a list made over a tuple of the ledger, turn by turn -/
theorem compTup {elt iter : PySem.Expr} {x : Str} {px : Pos} {scope : Scope} {cl : List (Str × Addr)} {pos : Pos} {Q : Value → Shared → Prop}
    (F₀ : Fr h₀ L s.heap m) (hclos : closureFor scope env = pure cl) (hcell : ∀ y ∈ scope.names, y.2 ≠ .cell) (hkind : scope.kind = .function)
    (hnames : ∀ y ∈ scope.names, y.2 = .local → scope.names.lookup y.1 = some .local) (hx : scope.names.lookup x = some .local)
    (h : wpAny (model prog w) A (eval iter env) (fun xv s₁ => ∃ (ax : Addr) (its : List Value) (news : List (Addr × Obj)), xv = .ref ax ∧ A.handled = none ∧ Fr h₀ L s₁.heap m ∧ News h₀ L s₁.heap news ∧ (ax, tupO its) ∈ news ∧ its.length ≤ 64 ∧
      ∀ g, LCg.CompRest prog w A h₀ L m env elt x scope cl { s₁ with heap := g } (fun nw => (ax, tupO its) ∈ nw) (fun i v => its.toArray[i]? = some v) (LCg.FinE h₀ L m { s₁ with heap := g } Q) its.toArray.size 0 [] news) E s)
    (hs : ∀ x, foldedSetIterable iter env x = pure x := by intro _; rfl) :
    wpAny (model prog w) A (eval (.ListComp elt [⟨.Name x px, iter, [], 0⟩] scope pos) env) Q E s := by
  rw [eval_ListComp]
  refine wpAny_comprehension_free (use := none) rfl hs hclos hkind hnames (wpAny_mono h (fun xv s₁ h₁ => ?_) fun _ _ e => e)
  obtain ⟨ax, its, news, rfl, hh, F, N, hm, hsz, R⟩ := h₁
  have hl : s₁.heap.IsTuple ax its.toArray := ⟨_, (N _ hm).1, rfl, _, rfl⟩
  have hlt : ax < s₁.heap.objs.size := Heap.lt_size (N _ hm).1
  refine wpAny_pyIter_tuple hl ?_
  have st : ∀ i (h h' : Heap) (o : Obj) (nw : List (Addr × Obj)), (h.IsTupleIter s₁.heap.objs.size ax i ∧ h.IsTuple ax its.toArray) → h.get? s₁.heap.objs.size = some o → h'.get? s₁.heap.objs.size = some o → (∀ b o, h₀.get? b = some o → h'.get? b = some o) → News h₀ L h' nw → (ax, tupO its) ∈ nw →
      (h'.IsTupleIter s₁.heap.objs.size ax i ∧ h'.IsTuple ax its.toArray) := fun i h h' o nw st e e' _ N' S => ⟨by obtain ⟨o', q, r⟩ := st.1; rw [e] at q; cases q; exact ⟨o, e', r⟩, ⟨_, (N' _ S).1, rfl, _, rfl⟩⟩
  have hm' : ax ∈ news.map (·.1) := List.mem_map_of_mem hm
  refine LCg.block_U (S := fun nw => (ax, tupO its) ∈ nw) (Walks.tuple hh s₁.heap.objs.size ax (Nat.ne_of_lt hlt) its.toArray) (by rw [List.size_toArray, sizeLine_eq]; omega) (fun i h st => by obtain ⟨o, e, _⟩ := st.1; exact ⟨o, e⟩) st hcell hkind hx
    ⟨⟨_, Heap.get?_push_size _ rfl, rfl, rfl⟩, ?tup⟩ (fun b hb => ?_)
    (F.keeps fun _ _ e => Heap.get?_push_of_some _ e) (N.grown fun _ _ e => Heap.get?_push_of_some _ e) (Nat.ne_of_lt F.ns.lt) (next_is_new F) (fun p hp => Nat.ne_of_lt (Heap.lt_size (N p hp).1)) hm (R _) ?_
  case tup => exact ⟨_, Heap.get?_push_of_some _ (N _ hm).1, rfl, _, rfl⟩
  · show b < (s₁.heap.push _).objs.size
    rw [Heap.size_push]
    rcases List.mem_cons.mp hb with rfl | hb
    · exact Nat.lt_succ_self _
    · rw [List.mem_singleton.mp hb]; exact Nat.lt_succ_of_lt hlt
  · intro D C h tk m' ys news' F' N' o1 hn hC₀ hD₀ hCL hDL hCD offC fin
    refine ⟨m', hn, fun h'' hs'' => fin D h'' tk (F'.change hs'' hCL hC₀) (fun p hp => ?_) o1⟩
    refine ⟨hs''.extBut _ _ ?_ (N' p hp).1, (N' p hp).2⟩
    rcases List.mem_cons.mp hp with rfl | hp
    · exact Ne.symm hCD
    · exact offC p hp

variable {news : List (Addr × Obj)}
/-- an int of a list of the ledger -/
theorem itemI {value slice : PySem.Expr} {D : Addr} {vs : List Value} {xs : List Int} {n : Nat} {k : Int} {u : Tok} {Q : Value → Shared → Prop} (N : News h₀ L s.heap news) (hm : (D, listOf vs.toArray n) ∈ news) (hi : IntsAre vs xs) (h0 : 0 ≤ k) (h1 : k < xs.length) (hfit : xs.length ≤ 64)
    (h : ∀ t, Q (.int (xs.getD k.toNat 0) t) s) (hs : subscripted slice false (.ref D) (.int k u) = operate [.ref D, .int k u] (getItem (.ref D) (.int k u)) := by with_unfolding_all rfl) :
    wpAny (model prog w) A (subscriptTail value slice (.ref D) (.int k u)) Q E s := by
  have hl := hi.length
  refine itemV N hm h0 (by omega) (by omega) ?_ hs
  obtain ⟨t, ht⟩ := hi.get k.toNat (xs.getD k.toNat 0) (by
    have : k.toNat < xs.length := by omega
    simp [List.getD, this])
  have e : vs.getD k.toNat .none = .int (xs.getD k.toNat 0) t := by
    rw [List.getD, ht]; rfl
  rw [e]
  exact h t
end
end Mine

-- M2
open PySem PySem.W PyProof.Rows PySem.Calls
set_option Elab.async false
set_option maxRecDepth 100000
namespace Mine
section
variable {prog : Program} {w : World} {A : Around} {E : Value → Shared → Prop} {s : Shared} {h₀ : Heap} {L : Addr} {m : Str → Option Value} {news : List (Addr × Obj)} {vs : List Value}

theorem gatherTup {l : Addr} {Q : List Value → Shared → Prop} (hl : IsTup s.heap l vs.toArray)
    (h : Q vs { s with heap := (s.heap.push (seqObj "list" #[] 0)).update s.heap.objs.size (Obj.mapSeq (· ++ vs.toArray)) }) (hsz : vs.length ≤ 64) :
    wpAny (model prog w) A (collect (.ref l)) Q E s := by
  obtain ⟨o, ho, hc, n, hd⟩ := id hl
  unfold collect
  refine wpAny_bind (wpAny_runValue (codeAny_builtin entry_proto_collect' ?_))
  show wpAny _ _ (do again (.builtin "list.__iadd__" ⟨[← newList [], .ref l], []⟩)) _ _ s
  refine wpAny_bind (wpAny_newList (wpAny_pure ⟨Code.quiet_builtin _ (by decide +kernel), codeAny_builtin entry_list_iadd' ?_⟩))
  show wpAny _ _ (Builtin.List.listExtendWith (.ref s.heap.objs.size) (.ref l) (.ref s.heap.objs.size)) _ _ { s with heap := s.heap.push (seqObj "list" #[] 0) }
  unfold Builtin.List.listExtendWith
  have ho' : (s.heap.push (seqObj "list" #[] 0)).get? l = some o := Heap.get?_push_of_some _ ho
  refine wpAny_bind (wpAny_typeOf (T := "tuple") ⟨o, ho', hc⟩ ?_)
  have ht : (Value.type "tuple" == Value.type "tuple") = true := by rfl
  rw [if_pos (by rw [ht]; simp)]
  refine wpAny_bind (listItems_at ho' hd ?_)
  refine wpAny_bind (listItems_at (xs := #[]) (n := 0) (Heap.get?_push_size _ rfl) rfl ?_)
  rw [if_neg (by simp)]
  refine wpAny_bind (listUpdate_at (xs := #[]) (n := 0) (Heap.get?_push_size _ rfl) rfl ?_ (Nat.zero_le _) (by show (#[] ++ vs.toArray).size ≤ sizeLine + 1; simp only [Array.size_append, List.size_toArray, List.length_nil]; rw [sizeLine_eq]; omega))
  refine wpAny_pure ?_
  show wpAny (model prog w) A (do
      let o ← load s.heap.objs.size
      match o.data with
      | .seq xs _ => pure xs.toList
      | _ => unsupported "internal:collect") Q E { s with heap := (s.heap.push (seqObj "list" #[] 0)).update s.heap.objs.size (Obj.mapSeq (· ++ vs.toArray)) }
  refine wpAny_bind (wpAny_load (get?_update_seq (Heap.get?_push_size _ rfl) _) ?_)
  show wpAny _ _ (pure ((#[] : Array Value) ++ vs.toArray).toList) Q E _
  rw [show ((#[] : Array Value) ++ vs.toArray).toList = vs by simp]
  exact wpAny_pure h

/-- a tuple of ints sorted -/
theorem sortedTup {l : Addr} {ns : List Int} {Q : Value → Shared → Prop} (F : Fr h₀ L s.heap m) (N : News h₀ L s.heap news) (hm : (l, tupO vs) ∈ news) (hI : IntsAre vs ns) (h64 : vs.length < 64)
    (h : ∀ D c h' us ns', Fr h₀ L h' m → News h₀ L h' ((D, listOf (List.toArray us) c) :: news) → (∀ q ∈ news, q.1 < D) → IntsAre us ns' → ns'.Perm ns → ns'.Pairwise (· ≤ ·) → Q (.ref D) { s with heap := h' }) :
    wpAny (model prog w) A (call (.builtin "sorted") [.ref l]) Q E s := by
  have hl : IsTup s.heap l vs.toArray := ⟨_, (N _ hm).1, rfl, _, rfl⟩
  refine Calls.call_function_entry kind_sorted plain_sorted entry_sorted (args_sorted1 _) ?_
  unfold Builtin.«sorted»
  refine wpAny_bind (m := PySem.checkCount "sorted" 1 1 _) (wpAny_pure ?_)
  refine wpAny_bind (gatherTup hl ?_ (by omega))
  refine wpAny_bind (wpAny_newList ?_ (by rw [sizeLine_eq]; omega))
  have hsz : ((s.heap.push (seqObj "list" #[] 0)).update s.heap.objs.size (Obj.mapSeq (· ++ vs.toArray))).objs.size = s.heap.objs.size + 1 := by
    rw [Heap.size_update, size_push']
  have hoL : (((s.heap.push (seqObj "list" #[] 0)).update s.heap.objs.size (Obj.mapSeq (· ++ vs.toArray))).push (seqObj "list" vs.toArray 0)).get? (s.heap.objs.size + 1) = some (seqObj "list" vs.toArray 0) := by
    rw [← hsz]; exact Heap.get?_push_size _ rfl
  show wpAny _ _ _ _ _ { s with heap := ((s.heap.push (seqObj "list" #[] 0)).update s.heap.objs.size (Obj.mapSeq (· ++ vs.toArray))).push (seqObj "list" vs.toArray 0) }
  rw [hsz]
  refine wpAny_bind (wpAny_holding (wpAny_call_entry slot_list_sort ⟨_, hoL, rfl⟩ entry_list_sort (list_sort_tree hoL hI h64 fun out ns' a1 a2 a3 => ⟨_, rfl, ?_⟩) (args_list_sort _)))
  obtain ⟨e, he⟩ := sortedAll_at s.heap vs out
  have up : ∀ b o, s.heap.get? b = some o → (sortedAll s.heap vs out).get? b = some o := fun _ _ => sortedAll_old
  exact wpAny_pure ⟨_, rfl, h _ e (sortedAll s.heap vs out) out.toList ns' (F.kept up) (N.kept_cons F up (Nat.le_succ _) he) (fun q hq => Nat.lt_succ_of_lt (Heap.lt_size (N q hq).1)) a1 a2 a3⟩

theorem IntsAre_same {us ws : List Value} {ns : List Int} (h1 : IntsAre us ns) (h2 : IntsAre ws ns) : us.length = ws.length := by rw [h1.length, h2.length]

/-- two lists of the same ints -/
theorem eqInts {l b : Addr} {us ws : List Value} {ns : List Int} {Q : Value → Shared → Prop} (hl : s.heap.IsList l us.toArray) (hb : s.heap.IsList b ws.toArray) (h1 : IntsAre us ns) (h2 : IntsAre ws ns) (hu : A.units < cLine) (h : Q (.bool true) s) :
    wpAny (model prog w) A (compareOp .Eq (.ref l) (.ref b)) Q E s := by
  have hsz : us.toArray.size = ws.toArray.size := by rw [List.size_toArray, List.size_toArray]; exact IntsAre_same h1 h2
  have R := PySem.SeqAt.RcAt.lists (A := A) (e := fun _ => true) hl hb hsz hu fun j j1 j2 => by
    have j1' : j < us.length := by simpa using j1
    have j2' : j < ws.length := by simpa using j2
    have l1 := h1.length
    obtain ⟨t, e1⟩ := h1.get j (ns.getD j 0) (by simp [List.getD, show j < ns.length by omega])
    obtain ⟨u, e2⟩ := h2.get j (ns.getD j 0) (by simp [List.getD, show j < ns.length by omega])
    have f1 : us.toArray[j] = .int (ns.getD j 0) t := by
      rw [List.getElem_toArray]; exact Option.some.inj ((List.getElem?_eq_getElem j1').symm.trans e1)
    have f2 : ws.toArray[j] = .int (ns.getD j 0) u := by
      rw [List.getElem_toArray]; exact Option.some.inj ((List.getElem?_eq_getElem j2').symm.trans e2)
    rw [f1, f2]
    have := PySem.SeqAt.EqAt.int_int (A := A.in1) (s := s) (ns.getD j 0) t (ns.getD j 0) u
    rwa [beq_self_eq_true] at this
  have e : ((List.range us.toArray.size).all fun _ => true) = true := by simp
  rw [e] at R
  exact R prog w E Q h
end
end Mine

-- W7
open PySem PySem.W PyProof.Rows PySem.Calls
set_option Elab.async false
set_option maxRecDepth 100000
namespace Mine
local macro_rules | `(tactic| walk_at "enterG") => `(tactic| (refine' code_defG ?k1 ?k2 ?k3 ?k4 ?k5 ?kA ?kF ?kK ?k6 ?k7 ?k8 ?k9 ?kB ?_ ?c2 ?c3 ?c4 ?c5; (case kA => exact rfl); (case kF => exact rfl); (case kK => first | exact rfl | assumption); (case k1 => k_asm); (case k2 => k_asm); (case k3 => k_asm); (case k4 => k_asm); (case k5 => k_asm); (case k6 => k_is); (case k7 => k_is); (case k8 => ktr_room); (case k9 => first | exact BindsTo.of_eq rfl | exact binds_K (by k_in) rfl (by k_is) rfl rfl rfl | fail "k_enter: no rule for these arguments"); (case c5 => decide); (case kB => exact locs rfl); (case c2 => exact rfl); (case c3 => exact rfl); (case c4 => exact rfl); k_whole; intro g' L' h' FG' F' N' B' X' T' kG'; (try dsimp only)))
local macro_rules | `(tactic| walk_at "noloop") => `(tactic| ((fail_if_success (with_reducible show wpAny _ _ (exec (Stmt.While _ _ _ _) _) _ _ _)); (fail_if_success (with_reducible show wpAny _ _ (pyIter _) _ _ _)); (fail_if_success (with_reducible show wpAny _ _ (PySem.call (Value.ref _) _ _) _ _ _)); (fail_if_success (with_reducible show wpAny _ _ (exec (Stmt.Assign _ (Expr.ListComp _ _ _ _) _) _) _ _ _)); (fail_if_success (with_reducible show wpAny _ _ (eval (Expr.ListComp _ _ _ _) _) _ _ _)); (fail_if_success (with_reducible show wpAny _ _ (subscriptTail _ _ (Value.ref _) _) _ _ _)); (fail_if_success (with_reducible show wpAny _ _ (PySem.call (Value.builtin _) _ _) _ _ _)); (fail_if_success (with_reducible show wpAny _ _ (PySem.call (Value.type _) _ _) _ _ _)); (fail_if_success (with_reducible show wpAny _ _ (binaryOp _ (Value.ref _) _) _ _ _)); (fail_if_success (with_reducible show wpAny _ _ (compareOp _ (Value.ref _) (Value.ref _)) _ _ _)); (fail_if_success (with_reducible show LeaveK _ _ _ _ _ _ _)); (fail_if_success (with_reducible show KswEnd _ _ _ _ _ _ _ _ _ _ _ _)); (fail_if_success (with_reducible show InvEndN _ _ _ _ _ _ _))))
local macro_rules | `(tactic| walk_at "go") => `(tactic| repeat' (first | (walk_at "noloop"; walk1; (try dsimp only)) | (dsimp only; walk_at "noloop"; walk1)))

local macro_rules | `(tactic| walk_at "enterS") => `(tactic| (refine' enter_try ?k1 ?k2 ?k3 ?k5 ?kA ?k6 ?k7 ?k8 ?k9 ?kB ?_ ?cK ?c2 ?c3 ?c4 ?c5; (case kA => exact rfl); (case k2 => k_asm); (case k1 => k_asm); (case k3 => k_asm); (case k5 => k_asm); (case k6 => k_is); (case k7 => k_is); (case k8 => ktr_room); (case k9 => first | exact BindsTo.of_eq rfl | exact binds_K (by k_in) rfl (by k_is) rfl rfl rfl | fail "enterS: no rule for these arguments"); (case kB => exact locs rfl); (case cK => first | exact rfl | assumption); (case c2 => exact rfl); (case c3 => exact rfl); (case c4 => exact rfl); (case c5 => decide); k_whole; intro g' L' h' FG' F' B' X' T' D'; (try dsimp only)))
structure DS where
  T : List (Addr × Obj)
  hs : List Value
  ps : List Value
  e1 : Nat
  e2 : Nat
  ι : Value → Itm
  made : Int
  t : Tok
set_option maxHeartbeats 4000000 in
theorem difference_c {prog : Program} {w : World} {p : Program} {loose : List Str} {mean : ExcName → Option Value} {mg mb : Str → Option Value}
    {dp un : Nat} {gd : Option (List Code)} {cn : Str} {cs : Scope} {a : Addr} {ccd : Value} {h₀ : Heap} {A₀ : Around} {L : Addr} {m : Str → Option Value} {s : Shared} {Q E : Value → Shared → Prop}
    {nl : Addr} {en : Nat} {vs : List Value} {xs : List Int}
    (B : Below A₀ h₀ [] h₀) (F : Fr h₀ L s.heap m) (X : (hd.heap_39 w.params).In h₀) (T : Top p loose mean mg mb h₀) (hk : cs.kind = .function)
    (hl : s.heap.get? nl = some (listOf vs.toArray en)) (hi : IntsAre vs xs) (hnn : ∀ x ∈ xs, 0 ≤ x) (hpos : 2 ≤ xs.length) (hsz : xs.length ≤ 8) (hd : dp + 5 < recursionLimit) (hu : un + 40 < cLine)
    (ret : ∀ v h' tk' TT it, Fr h₀ L h' m → News h₀ L h' TT → ItmIn TT v it → KKs xs it.x → 0 ≤ it.x → it.x = sumAt xs it.near - sumAt xs it.far → (it.near ++ it.far).Perm ((List.range xs.length).map fun (i : Nat) => (i : Int)) →
      (∀ b o, b ≠ L → s.heap.get? b = some o → h'.get? b = some o) → Q v { s with heap := h', toks := tk' }) :
    wpAny (model prog w) (ktrTop dp un gd cn cs L a ccd [] []) (call (.ref 62) [.ref nl]) Q E s := by
  have N0 : News h₀ L s.heap [] := News.nil
  refine wpAny_call ?_
  k_dflt (walk_at "enterS")
  rename_i g L₁ h₁ hgs F₁ B₁ X₁ T₁ D₁
  have hlg : g.get? nl = some (listOf vs.toArray en) := by rw [hgs]; exact hl
  have N₁ : News g L₁ h₁ [] := News.nil
  have hnlt : nl < h₁.objs.size := Heap.lt_size (F₁.keep _ _ hlg)
  walk_at "go"
  refine assignEnum (g := g) (L := L₁) (vs := vs) (xs := xs) rfl rfl rfl rfl rfl (by decide) (by decide) (by decide) rfl rfl rfl hi (by omega) ?_
  walk_at "go"
  refine call_enumerate_1 (F₁.keep _ _ hlg) fun h₂ he₂ hit₂ hz₂ hk₂ => ?_
  dsimp only at he₂ hit₂ hz₂ hk₂ ⊢
  refine wpAny_pyIter_enum he₂ ?_
  have hL₁ : L₁ < h₁.objs.size := F₁.ns.lt
  have gnew : ∀ b, h₁.objs.size ≤ b → g.get? b = none := fun b hb => by
    cases q : g.get? b with
    | none => rfl
    | some o => exact absurd (Heap.lt_size (F₁.keep _ _ q)) (Nat.not_lt.mpr hb)
  have F₂ : Fr g L₁ h₂ _ := frKept (e := h₁.objs.size) (it := h₁.objs.size) F₁ (Nat.ne_of_gt hL₁) (Nat.ne_of_gt hL₁) (gnew _ (Nat.le_refl _)) (gnew _ (Nat.le_refl _)) fun b o _ _ q => hk₂ b o q
  refine ⟨_, _, nl, _, rfl, he₂, hit₂, ⟨_, F₂.keep _ _ hlg, rfl, _, rfl⟩, F₂, Nat.succ_ne_self _, Nat.ne_of_lt (Nat.lt_succ_of_lt hnlt), Nat.ne_of_lt hnlt, Nat.ne_of_gt (Nat.lt_succ_of_lt hL₁), Nat.ne_of_gt hL₁, gnew _ (Nat.le_succ _), gnew _ (Nat.le_refl _), ?_⟩
  intro D TT ys ep h₃ tk₃ F₃ N₃ hTD hys hItm
  dsimp only
  walk_at "go"
  have I₀ := PInv.start (xs := xs) (newsSub N₃ fun p hp => .tail _ hp) hys hItm hnn
  have hDl : h₃.IsList D ys.toArray := ⟨_, (N₃ _ (.head _)).1, rfl, _, rfl⟩
  refine list_copyK F₃ N₃ hDl ?_ (by rw [List.size_toArray, sizeLine_eq]; omega)
  intro pl e2 h₄ F₄ N₄ hplt
  dsimp only
  walk_at "go"
  rename Fr _ _ _ _ => F₅
  rename News _ _ _ _ => N₅
  have V₅ := I₀.vok N₅ fun p hp => .tail _ (.tail _ hp)
  refine heapify_c B₁ F₅ X₁ (newsSub (news' := [(D, listOf ys.toArray ep)]) N₅ (by simp)) T₁ rfl V₅ (by omega) (by ktr_room) (by ktr_units) ?_
  intro h₆ tk₆ F₆ N₆ K₆
  have hplD : pl ≠ D := Nat.ne_of_gt (hplt _ (.head _))
  have N₆' : News g L₁ h₆ ((D, listOf (hfGo (vlt (kap _)) (ys.length / 2) ys).toArray ep) :: (pl, listOf ys.toArray e2) :: TT) :=
    newsCons N₆ (newsAfter (newsSub N₅ fun p hp => by
      rcases List.mem_cons.mp hp with rfl | hp
      · exact .head _
      · exact .tail _ (.tail _ hp)) K₆ fun p hp => by
      rcases List.mem_cons.mp hp with rfl | hp
      · exact hplD
      · exact hTD p hp)
  clear N₆
  dsimp only
  walk_at "go"
  have hlen : vs.toArray.size = xs.length := by rw [List.size_toArray]; exact hi.length
  refine Calls.call_len_list ⟨_, F₆.keep _ _ hlg, rfl, _, rfl⟩ (by omega) ?_
  rw [hlen]
  walk_at "go"
  rename Fr _ _ _ _ => F₇
  rename News _ _ _ _ => N₇
  have hys1 : 1 ≤ ys.length := by omega
  have hys8 : ys.length ≤ 8 := by omega
  have HH := heapify_heap (ordLex (kap fun v => (⟨xs.getD (ys.idxOf v) 0, (ys.idxOf v : Nat), [((ys.idxOf v : Nat) : Int)], []⟩ : Itm))) ys
  generalize hfGo (vlt (kap _)) (ys.length / 2) ys = hs₀ at HH N₇
  generalize (fun v => (⟨xs.getD (ys.idxOf v) 0, (ys.idxOf v : Nat), [((ys.idxOf v : Nat) : Int)], []⟩ : Itm)) = ι₀ at HH I₀ V₅
  refine' ksw_while (σ := DS) (fun c => (D, listOf c.hs.toArray c.e1) :: (pl, listOf c.ps.toArray c.e2) :: c.T)
    (fun c => [(Str.ofString "numbers", .ref nl), (Str.ofString "heap", .ref D), (Str.ofString "plain", .ref pl), (Str.ofString "made", .int c.made c.t)])
    (fun _ => True) [Str.ofString "first", Str.ofString "second", Str.ofString "fresh"]
    (fun c => PInv xs c.T c.ps c.ι c.made ∧ c.hs.Perm c.ps ∧ HeapFrom (vlt (kap c.ι)) 0 c.hs ∧ (∀ p ∈ c.T, p.1 ≠ D ∧ p.1 ≠ pl) ∧ 1 ≤ c.ps.length ∧ c.ps.length ≤ 8)
    (fun c => c.ps.length) ⟨TT, hs₀, ys, ep, e2, ι₀, xs.length, ?tk⟩ F₇ N₇ trivial ?hk ⟨I₀, HH.2, HH.1, fun p hp => ⟨hTD p hp, Nat.ne_of_lt (hplt _ (.tail _ hp))⟩, hys1, hys8⟩ ?turn
  case hk => dsimp only; kst_all
  rintro ⟨T₁', hs, ps, e1, e2, ι, made, t⟩ u h₈ tk₈ - ⟨I, P, H, hTA, p1, p2⟩ F₈ N₈
  dsimp only [kstB] at I P H hTA p1 p2 F₈ N₈ ⊢
  walk_at "go"
  refine lenV N₈ (.tail _ (.head _)) (by omega) fun tE tk₉ => ?_
  dsimp only
  walk_at "go"
  case _ =>
    rename (1 < (ps.length : Int)) => h1
    have h2 : 2 ≤ ps.length := by omega
    refine maxH rfl (by ktr_units) ⟨_, (N₈ _ (.tail _ (.head _))).1, rfl, _, rfl⟩ (by omega) (I.vok N₈ fun p hp => .tail _ (.tail _ hp)) fun f h₉ tk₉ hf mf K₉ => ?_
    have F₉ := F₈.kept K₉
    have N₉ := N₈.grown K₉
    clear F₈ N₈ K₉
    walk_at "go"
    rename Fr _ _ _ _ => F₁₀
    rename News _ _ _ _ => N₁₀
    refine removeV F₁₀ N₁₀ (.tail hplD.symm (.head fun p hp => (hTA p hp).2)) (I.vok N₁₀ fun p hp => .tail _ (.tail _ hp)) hf (by ktr_units) (by omega) ?_
    intro h₁₁ F₁₁ N₁₁ K₁₁
    walk_at "go"
    have hle1 : (ps.erase f).length = ps.length - 1 := List.length_erase_of_mem hf
    have Ve := (I.vok N₁₁ fun p hp => .tail _ (.tail _ hp)).sub (vs' := ps.erase f) fun v hv => List.mem_of_mem_erase hv
    refine maxH rfl (by ktr_units) ⟨_, (N₁₁ _ (.tail _ (.head _))).1, rfl, _, rfl⟩ (by omega) Ve fun g' h₁₂ tk₁₂ hg mg K₁₂ => ?_
    have F₁₂ := F₁₁.kept K₁₂
    have N₁₂ := N₁₁.grown K₁₂
    clear F₁₁ N₁₁ K₁₂
    walk_at "go"
    rename Fr _ _ _ _ => F₁₃
    rename News _ _ _ _ => N₁₃
    refine removeV F₁₃ N₁₃ (.tail hplD.symm (.head fun p hp => (hTA p hp).2)) ((I.vok N₁₃ fun p hp => .tail _ (.tail _ hp)).sub (vs' := ps.erase f) fun v hv => List.mem_of_mem_erase hv) hg (by ktr_units) (by omega) ?_
    intro h₁₄ F₁₄ N₁₄ K₁₄
    walk_at "go"
    have hlh := P.length_eq
    have Vh := (I.vok N₁₄ fun p hp => .tail _ (.tail _ hp)).sub (vs' := hs) fun v hv => P.mem_iff.mp hv
    refine heappop_c B₁ F₁₄ X₁ (newsSub (news' := [(D, listOf hs.toArray e1)]) N₁₄ (by simp)) T₁ rfl Vh (by omega) (by omega) (by ktr_room) (by ktr_units) ?_
    intro h₁₅ tk₁₅ e1' F₁₅ N₁₅ K₁₅
    have htop := I.top (fun _ h => h) P H hf mf
    have PH := pop_heap (ordLex (kap ι)) (show 0 < hs.length by omega) H
    rw [htop] at PH ⊢
    have hTD' : ∀ p ∈ (pl, listOf ((ps.erase f).erase g').toArray (e2 + 1 + 1)) :: T₁', p.1 ≠ D := fun p hp => by
      rcases List.mem_cons.mp hp with rfl | hp
      · exact hplD
      · exact (hTA p hp).1
    have N₁₅' : News g L₁ h₁₅ ((D, listOf (popAll (vlt (kap ι)) hs).toArray e1') :: (pl, listOf ((ps.erase f).erase g').toArray (e2 + 1 + 1)) :: T₁') :=
      newsCons N₁₅ (newsAfter (newsSub N₁₄ fun p hp => .tail _ hp) K₁₅ hTD')
    clear N₁₅ F₁₄ N₁₄ K₁₄ Vh K₁₅
    generalize popAll (vlt (kap ι)) hs = hs' at PH N₁₅'
    have P' : hs'.Perm (ps.erase f) := List.Perm.cons_inv (PH.2.trans (P.trans (List.perm_cons_erase hf)))
    dsimp only
    walk_at "go"
    have Tf := (I.itm f hf).tup N₁₅' fun p hp => .tail _ (.tail _ hp)
    refine tupNe Tf Tf (.inl rfl) (by ktr_units) ?_
    rw [bne_self_eq_false]
    walk_at "go"
    refine itemV' (i := 0) N₁₅' (.head _) rfl (by rw [P'.length_eq]; omega) (by rw [P'.length_eq]; omega) ?_
    have hgp : g' ∈ ps := List.mem_of_mem_erase hg
    have htop2 := I.top (fun _ h => List.mem_of_mem_erase h) P' PH.1 hg mg
    rw [htop2]
    walk_at "go"
    have Tg := (I.itm g' hgp).tup N₁₅' fun p hp => .tail _ (.tail _ hp)
    refine tupNe Tg Tg (.inl rfl) (by ktr_units) ?_
    rw [bne_self_eq_false]
    obtain ⟨af, fa, fb, tf1, tf2, fvs, fws, ef, mf1, mf2, if2, mf3, if3⟩ := I.itm f hf
    obtain ⟨ag, ga, gb, tg1, tg2, gvs, gws, eg, mg1, mg2, ig2, mg3, ig3⟩ := I.itm g' hgp
    rw [ef, eg] at F₁₅
    walk_at "go"
    refine itmAt (j := 0) N₁₅' (.tail _ (.tail _ mf1)) rfl (by decide) rfl ?_
    walk_at "go"
    refine itmAt (j := 0) N₁₅' (.tail _ (.tail _ mg1)) rfl (by decide) rfl ?_
    walk_at "go"
    have sm1 := I.small hf
    have sm2 := I.small hgp
    have lf2 := if2.length
    have lf3 := if3.length
    have lg2 := ig2.length
    have lg3 := ig3.length
    refine itmAt (j := 2) N₁₅' (.tail _ (.tail _ mf1)) rfl (by decide) rfl ?_
    walk_at "go"
    refine itmAt (j := 3) N₁₅' (.tail _ (.tail _ mg1)) rfl (by decide) rfl ?_
    walk_at "go"
    refine addTup F₁₅ N₁₅' (T := T₁') (fun p hp => .tail _ (.tail _ hp)) mf2 mg3 (by omega) ?_
    intro r1 h₁₆ new1 F₁₆ N₁₆ hn1 hr1
    have inj1 : ∀ p ∈ T₁', p ∈ new1 ++ (D, listOf hs'.toArray e1') :: (pl, listOf ((ps.erase f).erase g').toArray (e2 + 1 + 1)) :: T₁' := fun p hp => List.mem_append.mpr (.inr (.tail _ (.tail _ hp)))
    walk_at "go"
    refine itmAt (j := 3) N₁₆ (inj1 _ mf1) rfl (by decide) rfl ?_
    walk_at "go"
    refine itmAt (j := 2) N₁₆ (inj1 _ mg1) rfl (by decide) rfl ?_
    walk_at "go"
    refine addTup F₁₆ N₁₆ (T := new1 ++ T₁') (fun p hp => (List.mem_append.mp hp).elim (fun h => List.mem_append.mpr (.inl h)) (inj1 p)) (List.mem_append.mpr (.inr mf3)) (List.mem_append.mpr (.inr mg2)) (by omega) ?_
    intro r2 h₁₇ new2 F₁₇ N₁₇ hn2 hr2
    have hDlt : D < h₁₅.objs.size := Heap.lt_size (N₁₅' _ (.head _)).1
    have hplt' : pl < h₁₅.objs.size := Heap.lt_size (N₁₅' _ (.tail _ (.head _))).1
    have hDlt2 : D < h₁₆.objs.size := Heap.lt_size (N₁₆ _ (List.mem_append.mpr (.inr (.head _)))).1
    have hplt2 : pl < h₁₆.objs.size := Heap.lt_size (N₁₆ _ (List.mem_append.mpr (.inr (.tail _ (.head _))))).1
    walk_at "go"
    rename_i fr ha hfr hb tkb hc F₁₈ N₁₈
    have hfrD : ∀ p ∈ T₁', p.1 < fr := fun p hp => hfr p (List.mem_append.mpr (.inr (inj1 p hp)))
    have hne : ∀ u ∈ ps, u ≠ Value.ref fr := fun u hu e => by
      obtain ⟨a0, _, _, _, _, _, _, e1, e2, _⟩ := I.itm u hu
      rw [e1] at e
      cases e
      exact Nat.lt_irrefl _ (hfrD _ e2)
    obtain ⟨itO, tq, hitO, N₁₈'⟩ : ∃ o tq, o = tupO [Value.int ((ι f).x - (ι g').x) tq, Value.int made t, Value.ref r1, Value.ref r2] ∧ News g L₁ _ ((fr, o) :: (new2 ++ (new1 ++ (D, listOf hs'.toArray e1') :: (pl, listOf ((ps.erase f).erase g').toArray (e2 + 1 + 1)) :: T₁'))) := ⟨_, _, rfl, N₁₈⟩
    have N₁₉ : News g L₁ _ ((D, listOf hs'.toArray e1') :: (pl, listOf ((ps.erase f).erase g').toArray (e2 + 1 + 1)) :: (fr, itO) :: (new2 ++ (new1 ++ T₁'))) := newsSub N₁₈' (by
      intro p hp
      simp only [List.mem_cons, List.mem_append] at hp ⊢
      rcases hp with h | h | h | h | h | h <;> simp [h])
    have hTA' : ∀ p ∈ (fr, itO) :: (new2 ++ (new1 ++ T₁')), p.1 ≠ D ∧ p.1 ≠ pl := fun p hp => by
      rcases List.mem_cons.mp hp with rfl | hp
      · exact ⟨Nat.ne_of_gt (hfr (D, _) (List.mem_append.mpr (.inr (List.mem_append.mpr (.inr (.head _)))))), Nat.ne_of_gt (hfr (pl, _) (List.mem_append.mpr (.inr (List.mem_append.mpr (.inr (.tail _ (.head _)))))))⟩
      · rcases List.mem_append.mp hp with h | h
        · exact ⟨Nat.ne_of_gt (Nat.lt_of_lt_of_le hDlt2 (hn2 p h)), Nat.ne_of_gt (Nat.lt_of_lt_of_le hplt2 (hn2 p h))⟩
        · rcases List.mem_append.mp h with h | h
          · exact ⟨Nat.ne_of_gt (Nat.lt_of_lt_of_le hDlt (hn1 p h)), Nat.ne_of_gt (Nat.lt_of_lt_of_le hplt' (hn1 p h))⟩
          · exact hTA p h
    have hi : ItmIn ((fr, itO) :: (new2 ++ (new1 ++ T₁'))) (.ref fr) ⟨(ι f).x - (ι g').x, made, (ι f).near ++ (ι g').far, (ι f).far ++ (ι g').near⟩ :=
      ⟨fr, r1, r2, tq, t, _, _, rfl, by rw [hitO]; exact List.mem_cons_self, .tail _ (List.mem_append.mpr (.inr hr1)), if2.append ig3, .tail _ hr2, if3.append ig2⟩
    have hT2 : ∀ p ∈ T₁', p ∈ (fr, itO) :: (new2 ++ (new1 ++ T₁')) := fun p hp => .tail _ (List.mem_append.mpr (.inr (List.mem_append.mpr (.inr hp))))
    generalize (fr, itO) :: (new2 ++ (new1 ++ T₁')) = T2 at N₁₉ hTA' hi hT2
    clear N₁₈ N₁₈'
    walk_at "go"
    refine appendV F₁₈ N₁₉ (.tail hplD.symm (.head fun p hp => (hTA' p hp).2)) (by have := List.length_erase_le (a := g') (l := ps.erase f); omega) ?_
    intro h₂₀ F₂₀ N₂₀
    have I' := I.step hf hg mf mg hne hT2 hi
    have R' := I.rep (it := ⟨(ι f).x - (ι g').x, made, (ι f).near ++ (ι g').far, (ι f).far ++ (ι g').near⟩) hg hne P' PH.1 htop2
    have Vr := I.vokRep N₂₀ (fun p hp => .tail _ (.tail _ hp)) hne hT2 hi rfl (fun v hv => List.mem_of_mem_erase (P'.mem_iff.mp hv))
    have hTg : ∃ it, ItmIn T2 (.ref ag) it := ⟨_, (eg ▸ I.itm g' hgp).mono hT2⟩
    have hps' : ((ps.erase f).erase g' ++ [Value.ref fr]).length = ps.length - 1 := by
      have := List.length_erase_of_mem hg
      rw [List.length_append]
      simp only [List.length_cons, List.length_nil]
      omega
    have hlh' := P'.length_eq
    generalize (fun v => if v = Value.ref fr then (⟨(ι f).x - (ι g').x, made, (ι f).near ++ (ι g').far, (ι f).far ++ (ι g').near⟩ : Itm) else ι v) = ι' at I' R' Vr
    generalize (ps.erase f).erase g' ++ [Value.ref fr] = ps' at I' R' N₂₀ hps'
    clear N₁₉ F₁₈
    walk_at "go"
    rename Fr _ _ _ _ => F₂₁
    rename News _ _ _ _ => N₂₁
    refine heapreplace_c B₁ F₂₁ X₁ (newsSub (news' := [(D, listOf hs'.toArray e1')]) N₂₁ (by simp)) T₁ rfl Vr (by omega) (by omega) (by ktr_room) (by ktr_units) ?_
    intro h₂₂ tk₂₂ F₂₂ N₂₂ K₂₂
    have N₂₂' := newsCons N₂₂ (newsAfter (newsSub (news' := (pl, listOf ps'.toArray (e2 + 1 + 1 + 1)) :: T2) N₂₁ fun p hp => .tail _ hp) K₂₂ fun p hp => by
      rcases List.mem_cons.mp hp with rfl | hp
      · exact hplD
      · exact (hTA' p hp).1)
    clear N₂₂ N₂₁ F₂₁ K₂₂
    generalize repAll (vlt (kap ι')) (Value.ref fr) hs' = hs2 at R' N₂₂'
    rw [htop2, eg]
    dsimp only
    walk_at "go"
    obtain ⟨ig, hig⟩ := hTg
    have Tg2 := hig.tup N₂₂' fun p hp => .tail _ (.tail _ hp)
    refine tupNe Tg2 Tg2 (.inl rfl) (by ktr_units) ?_
    rw [bne_self_eq_false]
    walk_at "go"
    have VN2 : ∀ h, News g L₁ h ((D, listOf hs2.toArray e1') :: (pl, listOf ps'.toArray (e2 + 1 + 1 + 1)) :: T2) → Vok h (kap ι') ps' := fun h N => I'.vok N fun p hp => .tail _ (.tail _ hp)
    have hlen2 := R'.1.length_eq
    refine sortedV (κ := kap ι') F₂₂ N₂₂' ⟨_, (N₂₂' _ (.head _)).1, rfl, _, rfl⟩ (R'.1.nodup_iff.mpr I'.nodup) (by omega) (fun h _ N => (VN2 h N).sub fun v hv => R'.1.mem_iff.mp hv) ?_
    intro S1 c1 h₂₃ o1 F₂₃ N₂₃ l1 po1 pw1
    dsimp only
    walk_at "go"
    refine sortedV (κ := kap ι') F₂₃ N₂₃ ⟨_, (N₂₃ _ (.tail _ (.tail _ (.head _)))).1, rfl, _, rfl⟩ I'.nodup (by omega) (fun h _ N => VN2 h (newsSub N fun p hp => .tail _ hp)) ?_
    intro S2 c2 h₂₄ o2 F₂₄ N₂₄ l2 po2 pw2
    obtain rfl := sorted_same po1 po2 R'.1 pw1 pw2
    dsimp only
    refine neSame ⟨_, (N₂₄ _ (.tail _ (.head _))).1, rfl, _, rfl⟩ ⟨_, (N₂₄ _ (.head _)).1, rfl, _, rfl⟩ (by ktr_units) ?_
    walk_at "go"
    refine ksw_end (⟨T2, hs2, ps', e1', e2 + 1 + 1 + 1, ι', made + 1, _⟩ : DS) F₂₄ N₂₄ (fun p hp => .tail _ (.tail _ hp)) trivial (by dsimp only; kst_all) (by dsimp only; ksw_same) ⟨I', R'.1, R'.2, hTA', by show 1 ≤ ps'.length; omega, by show ps'.length ≤ 8; omega⟩ (by show ps'.length < ps.length; omega)
  case _ =>
    rename (¬ 1 < (ps.length : Int)) => h1
    have h1' : ps.length = 1 := by omega
    have hlh := P.length_eq
    have Vh := (I.vok N₈ fun p hp => .tail _ (.tail _ hp)).sub (vs' := hs) fun v hv => P.mem_iff.mp hv
    refine heappop_c B₁ F₈ X₁ (newsSub (news' := [(D, listOf hs.toArray e1)]) N₈ (by simp)) T₁ rfl Vh (by omega) (by omega) (by ktr_room) (by ktr_units) ?_
    intro h₁₅ tk₁₅ e1' F₁₅ N₁₅ K₁₅
    have hpa : popAll (vlt (kap ι)) hs = [] := by unfold popAll; rw [if_pos (by omega)]
    have hTD' : ∀ p ∈ (pl, listOf ps.toArray e2) :: T₁', p.1 ≠ D := fun p hp => by
      rcases List.mem_cons.mp hp with rfl | hp
      · exact hplD
      · exact (hTA p hp).1
    have N₁₅' : News g L₁ h₁₅ ((D, listOf (popAll (vlt (kap ι)) hs).toArray e1') :: (pl, listOf ps.toArray e2) :: T₁') :=
      newsCons N₁₅ (newsAfter (newsSub N₈ fun p hp => .tail _ hp) K₁₅ hTD')
    rw [hpa] at N₁₅'
    clear N₁₅ F₈ N₈ Vh K₁₅
    obtain ⟨v, rfl⟩ : ∃ v, ps = [v] := by
      match ps, h1' with
      | [v], _ => exact ⟨v, rfl⟩
    obtain rfl : hs = [v] := List.perm_singleton.mp P
    have Iv := I.itm v (.head _)
    obtain ⟨av, fa, fb, tv1, tv2, fvs, fws, ev, mv1, mv2, iv2, mv3, iv3⟩ := Iv
    subst ev
    rw [show ([Value.ref av] : List Value).getD 0 .none = .ref av from rfl]
    dsimp only
    walk_at "go"
    rename Fr _ _ _ _ => F₁₆
    rename News _ _ _ _ => N₁₆
    refine itemV' (i := 0) N₁₆ (.tail _ (.head _)) rfl (by simp) (by simp) ?_
    rw [show ([Value.ref av] : List Value).getD 0 .none = .ref av from rfl]
    have Tv := (I.itm _ (.head _)).tup N₁₆ fun p hp => .tail _ (.tail _ hp)
    refine tupNe Tv Tv (.inl rfl) (by ktr_units) ?_
    rw [bne_self_eq_false]
    walk_at "go"
    show wpAny _ _ _ _ _ _
    rename Fr _ _ _ _ => F₁₇
    rename News _ _ _ _ => N₁₇
    refine neSame (vs := []) ⟨_, (N₁₇ _ (.tail _ (.head _))).1, rfl, _, rfl⟩ ⟨_, (N₁₇ _ (.head _)).1, rfl, _, rfl⟩ (by ktr_units) ?_
    walk_at "go"
    refine wpAny_call ?_
    k_dflt (walk_at "enterG")
    rename_i g₂ L₂ h₂₀ FG₂ F₂₁ N₂₁ B₂ X₂ T₂ G₂
    walk_at "go"
    refine popNone rfl (N₂₁ _ (.tail _ (.head _))).1 ?_
    intro h₃₀ tk₃₀ e₃₀ hx
    dsimp only
    walk_at "go"
    rename KtsTurn _ _ _ => KT
    rename Fr _ L₁ _ _ => F₄₀
    rename Fr h₀ L _ _ => kF
    rename News h₀ L _ _ => kN
    refine ret _ _ _ T₁' (ι (.ref av)) kF (newsSub kN fun p hp => .tail _ (.tail _ (.tail _ hp))) (I.itm _ (.head _)) (I.kk _ (KKs.one _)) (I.pos _ (.head _)) (I.diff _ (.head _)) ?_ fun b o hb q => ?_
    · have hidx := I.idx
      rw [List.flatMap_cons, List.flatMap_nil, List.append_nil] at hidx
      exact hidx
    · refine F₄₀.keep b o (KT.other b o (by rw [hgs]; exact q) fun hm => ?_)
      rcases kts_mem (name := cn) (scope := cs) (a := a) (cd := ccd) (outer := []) hm with z | z
      · exact hb z
      · simp at z
end Mine

-- N1
open PySem PySem.W PyProof.Rows PySem.Calls
set_option Elab.async false
set_option maxRecDepth 100000
namespace Mine
local macro_rules | `(tactic| walk_at "enterG") => `(tactic| (refine' code_defG ?k1 ?k2 ?k3 ?k4 ?k5 ?kA ?kF ?kK ?k6 ?k7 ?k8 ?k9 ?kB ?_ ?c2 ?c3 ?c4 ?c5; (case kA => exact rfl); (case kF => exact rfl); (case kK => first | exact rfl | assumption); (case k1 => k_asm); (case k2 => k_asm); (case k3 => k_asm); (case k4 => k_asm); (case k5 => k_asm); (case k6 => k_is); (case k7 => k_is); (case k8 => ktr_room); (case k9 => first | exact BindsTo.of_eq rfl | exact binds_K (by k_in) rfl (by k_is) rfl rfl rfl | fail "k_enter: no rule for these arguments"); (case c5 => decide); (case kB => exact locs rfl); (case c2 => exact rfl); (case c3 => exact rfl); (case c4 => exact rfl); k_whole; intro g' L' h' FG' F' N' B' X' T' kG'; (try dsimp only)))
local macro_rules | `(tactic| walk_at "noloop") => `(tactic| ((fail_if_success (with_reducible show wpAny _ _ (exec (Stmt.While _ _ _ _) _) _ _ _)); (fail_if_success (with_reducible show wpAny _ _ (pyIter _) _ _ _)); (fail_if_success (with_reducible show wpAny _ _ (PySem.call (Value.ref _) _ _) _ _ _)); (fail_if_success (with_reducible show wpAny _ _ (exec (Stmt.Assign _ (Expr.ListComp _ _ _ _) _) _) _ _ _)); (fail_if_success (with_reducible show wpAny _ _ (eval (Expr.ListComp _ _ _ _) _) _ _ _)); (fail_if_success (with_reducible show wpAny _ _ (subscriptTail _ _ (Value.ref _) _) _ _ _)); (fail_if_success (with_reducible show wpAny _ _ (PySem.call (Value.builtin _) _ _) _ _ _)); (fail_if_success (with_reducible show wpAny _ _ (PySem.call (Value.type _) _ _) _ _ _)); (fail_if_success (with_reducible show wpAny _ _ (binaryOp _ (Value.ref _) _) _ _ _)); (fail_if_success (with_reducible show wpAny _ _ (compareOp _ (Value.ref _) (Value.ref _)) _ _ _)); (fail_if_success (with_reducible show LeaveK _ _ _ _ _ _ _)); (fail_if_success (with_reducible show KswEnd _ _ _ _ _ _ _ _ _ _ _ _)); (fail_if_success (with_reducible show InvEndN _ _ _ _ _ _ _))))
local macro_rules | `(tactic| walk_at "go") => `(tactic| repeat' (first | (walk_at "noloop"; walk1; (try dsimp only)) | (dsimp only; walk_at "noloop"; walk1)))

set_option maxHeartbeats 4000000 in
theorem numbers_c {prog : Program} {w : World} {p : Program} {loose : List Str} {mean : ExcName → Option Value} {mg mb : Str → Option Value}
    {dp un : Nat} {gd : Option (List Code)} {cn : Str} {cs : Scope} {a : Addr} {ccd : Value} {cl : List (Str × Addr)} {outer : List Env} {A₀ : Around} {base h₀ : Heap} {L : Addr} {m : Str → Option Value} {s : Shared} {Q E : Value → Shared → Prop}
    {sl : Addr} {vs : List Value} {xs : List Int}
    (B : Below A₀ base outer h₀) (F : Fr h₀ L s.heap m) (X : (hd.heap_39 w.params).In h₀) (T : Top p loose mean mg mb h₀) (hk : cs.kind = .function)
    (hl : h₀.IsList sl vs.toArray) (hi : IntsAre vs xs) (hsz : xs.length ≤ 63) (hd : dp + 5 < recursionLimit) (hu : un + 40 < cLine)
    (ret : ∀ h' tk' D ep us zs, Fr h₀ L h' m → News h₀ L h' [(D, listOf (List.toArray us) ep)] → IntsAre us zs → (∀ z ∈ zs, 0 ≤ z) → 2 ≤ zs.length → zs.length ≤ 8 → Q (.ref D) { s with heap := h', toks := tk' }) :
    wpAny (model prog w) (ktrTop dp un gd cn cs L a ccd cl outer) (call (.ref 57) [.ref sl]) Q E s := by
  have li := hi.length
  have hva : vs.toArray.size = xs.length := by rw [List.size_toArray]; exact li
  have N0 : News h₀ L s.heap [] := News.nil
  refine wpAny_call ?_
  k_dflt (walk_at "enterG")
  rename_i g L₁ h₁ FG F₁ N₁ B₁ X₁ T₁ G₁
  have hlg : g.IsList sl vs.toArray := hl.at fun o q => FG.keep _ o q
  walk_at "go"
  refine Calls.call_len_list (hlg.at fun o q => F₁.keep _ o q) (by omega) ?_
  rw [hva]
  walk_at "go"
  rename Fr _ _ _ _ => F₂
  rename News _ _ _ _ => N₂
  refine LSm.sum_ints F₂ N₂ rfl (hlg.at fun o q => F₂.keep _ o q) hi ?_
  intro h₃ tk₃ t₃ F₃ N₃
  dsimp only
  walk_at "go"
  rename Fr _ _ _ _ => F₄
  rename News _ _ _ _ => N₄
  rename_i D hh1 hh2 hh3
  obtain ⟨n, hn, hn2, hn8⟩ : ∃ n : Nat, 2 + ((xs.length : Int)).fmod 7 = n ∧ 2 ≤ n ∧ n ≤ 8 := by
    have h1 := Int.fmod_nonneg_of_pos (xs.length : Int) (b := 7) (by decide)
    have h2 := Int.fmod_lt_of_pos (xs.length : Int) (b := 7) (by decide)
    exact ⟨(2 + ((xs.length : Int)).fmod 7).toNat, by omega, by omega, by omega⟩
  rw [hn] at F₄ ⊢
  generalize (xs.sum.fmod 2 == 1) = odd at F₄
  refine range1_rows F₄ N₄ ?_
  intro h₅ tk₅ t₅ u₅ v₅ rgX F₅ N₅ K₅
  dsimp only
  walk_at "go"
  have e0 : Builtin.Range.rangeSize 0 (n : Int) 1 = n := by
    unfold Builtin.Range.rangeSize
    rw [if_pos (by decide)]
    split <;> omega
  refine wpAny_pyIter_range rgX (small_one (by omega) (by omega) (by omega) (by omega)) ?_
  rw [e0]
  dsimp only
  generalize hob : ({ cls := .type "range_iterator", data := .fields #[rawInt 0, rawInt (n : Int), rawInt 1] } : Obj) = ob
  have F₆ := F₅.push ob
  have N₆ := N₅.grown fun b o (q : h₅.get? b = some o) => Heap.get?_push_of_some ob q
  refine forW (σ := List Value × Nat × Tok) (I := h₅.objs.size) (n := n) (fun c => [(D, listOf c.1.toArray c.2.1)])
    (fun c => [(Str.ofString "script", .ref sl), (Str.ofString "count", .int n c.2.2), (Str.ofString "odd", .bool odd), (Str.ofString "numbers", .ref D)]) [Str.ofString "x"]
    (fun i c => ∃ zs, IntsAre c.1 zs ∧ zs.length = i ∧ ∀ z ∈ zs, 0 ≤ z) ([], 0, ?tc)
    (Walks.range rfl _ 0 1 n) ?hLf ?hwr ?hnw ?hfp ?hst F₆ N₆ ?hk ⟨[], .nil, rfl, fun _ h => nomatch h⟩ ?turn ?done
  case hk => dsimp only; kst_all
  case hLf => intro hm; exact absurd F₅.ns.lt ((List.mem_singleton.mp hm) ▸ Nat.lt_irrefl _)
  case hwr => intro b hb; rw [List.mem_singleton.mp hb]; exact next_is_new F₅
  case hnw => intro p hp hI; exact absurd (Heap.lt_size (N₅ p hp).1) ((List.mem_singleton.mp hI) ▸ Nat.lt_irrefl _)
  case hfp => intro p hp hI; exact absurd (Heap.lt_size (N₅ p hp).1) ((List.mem_singleton.mp hI) ▸ Nat.lt_irrefl _)
  case hst => rw [← hob]; show IsRangeIter _ _ _ _ _; simpa using Heap.get?_push_size _ rfl
  case turn =>
    rintro ⟨us, ep, tc⟩ i v u h₇ tk₇ own hi' ⟨ti, rfl⟩ hoff hadr ⟨zs, p1, p2, p3⟩ F₇ N₇
    have e : (0 : Int) + (i : Int) * 1 = i := by omega
    rw [e] at F₇
    dsimp only [kstB] at F₇ N₇ p1 ⊢
    walk_at "go"
    have F₈ : Fr g L₁ h₇ _ := F₇
    have N₈ : News g L₁ h₇ _ := N₇
    refine slice_list3 (s := { s with heap := h₇, toks := tk₇ }) (lo := some (i : Int)) (hi := none) (st := some (n : Int)) F₈ N₈ (hlg.at fun o q => F₈.keep _ o q) (.int _ _) .none (.int _ _) (by
      intro h
      have := Option.some.inj h
      omega) ?_ (hsz := by rw [hva, sizeLine_eq]; omega)
    intro h₉ F₉ N₉
    dsimp only at F₉ N₉ ⊢
    have hpk := hi.pick (some (i : Int)) none (some (n : Int))
    walk_at "go"
    refine LSm.sum_ints F₉ N₉ rfl ⟨_, (N₉ _ (.head _)).1, rfl, _, by rw [Array.toArray_toList]⟩ hpk ?_
    intro h₁₀ tk₁₀ t₁₀ F₁₀ N₁₀
    dsimp only
    walk_at "go"
    have hseed : IsTup h₁₀ 50 (List.toArray [.int 5 243, .int 3 244, .int 4 245, .int 2 246, .int 9 247, .int 6 248, .int 1 249, .int 8 250]) :=
      ⟨_, F₁₀.keep _ _ (X₁ 50 _ (by k_is)), rfl, _, rfl⟩
    refine item_tuple_ints (ns := [5, 3, 4, 2, 9, 6, 1, 8]) hseed (.cons _ _ (.cons _ _ (.cons _ _ (.cons _ _ (.cons _ _ (.cons _ _ (.cons _ _ (.cons _ _ .nil)))))))) (by omega) (by show (i : Int) < 8; omega) (by omega) fun ts => ?_
    walk_at "go"
    refine call_abs_int fun ta tka => ?_
    obtain ⟨y, hy, hy0⟩ : ∃ y : Int, (if (pickNums xs (some (i : Int)) none (some (n : Int))).sum + [5, 3, 4, 2, 9, 6, 1, 8].getD ((i : Int)).toNat 0 < 0 then -((pickNums xs (some (i : Int)) none (some (n : Int))).sum + [5, 3, 4, 2, 9, 6, 1, 8].getD ((i : Int)).toNat 0) else (pickNums xs (some (i : Int)) none (some (n : Int))).sum + [5, 3, 4, 2, 9, 6, 1, 8].getD ((i : Int)).toNat 0) = y ∧ 0 ≤ y :=
      ⟨_, rfl, by split <;> omega⟩
    rw [hy]
    dsimp only
    walk_at "go"
    · rename Fr _ _ _ _ => F₁₁
      rename News _ _ _ _ => N₁₁
      have N₁₂ := newsSub (news' := (D, listOf us.toArray ep) :: own) N₁₁ fun p hp => .tail _ hp
      have hown : ∀ q ∈ own, q.1 ≠ D := hoff.ne (.head _)
      have lus := p1.length
      refine appendV F₁₁ N₁₂ (.head hown) (by omega) ?_
      intro h₁₃ F₁₃ N₁₃
      dsimp only
      walk_at "go"
      obtain ⟨tv, N₁₄⟩ : ∃ tv, News g L₁ h₁₃ ((D, listOf (List.toArray (us ++ [Value.int (y.fmod 7) tv])) (ep + 1)) :: own) := ⟨_, N₁₃⟩
      have q1 := p1.append (.cons (y.fmod 7) tv .nil)
      refine forEnd ((us ++ [.int (y.fmod 7) tv], ep + 1, tc) : List Value × Nat × Tok) F₁₃ N₁₄ (fun p hp => by rw [List.mem_singleton.mp hp]; exact .head _) (fun p hp => .tail _ hp) rfl (by dsimp only; kst_all) (by dsimp only; kst_same) ⟨zs ++ [y.fmod 7], q1, by simp; omega, fun z hz => ?_⟩
      rcases List.mem_append.mp hz with h | h
      · exact p3 z h
      · rw [List.mem_singleton.mp h]
        exact Int.fmod_nonneg_of_pos _ (by decide)
    · rename Fr _ _ _ _ => F₁₁
      rename News _ _ _ _ => N₁₁
      have N₁₂ := newsSub (news' := (D, listOf us.toArray ep) :: own) N₁₁ fun p hp => .tail _ hp
      have hown : ∀ q ∈ own, q.1 ≠ D := hoff.ne (.head _)
      have lus := p1.length
      refine appendV F₁₁ N₁₂ (.head hown) (by omega) ?_
      intro h₁₃ F₁₃ N₁₃
      dsimp only
      walk_at "go"
      obtain ⟨tv, N₁₄⟩ : ∃ tv, News g L₁ h₁₃ ((D, listOf (List.toArray (us ++ [Value.int (y) tv])) (ep + 1)) :: own) := ⟨_, N₁₃⟩
      have q1 := p1.append (.cons (y) tv .nil)
      refine forEnd ((us ++ [.int (y) tv], ep + 1, tc) : List Value × Nat × Tok) F₁₃ N₁₄ (fun p hp => by rw [List.mem_singleton.mp hp]; exact .head _) (fun p hp => .tail _ hp) rfl (by dsimp only; kst_all) (by dsimp only; kst_same) ⟨zs ++ [y], q1, by simp; omega, fun z hz => ?_⟩
      rcases List.mem_append.mp hz with h | h
      · exact p3 z h
      · rw [List.mem_singleton.mp h]
        exact hy0
  case done =>
    rintro ⟨us, ep, tc⟩ u h₇ tk₇ ⟨zs, p1, p2, p3⟩ F₇ N₇
    dsimp only at F₇ N₇ p1 ⊢
    walk_at "go"
    have F₈ : Fr g L₁ h₇ _ := F₇
    have N₈ : News g L₁ h₇ _ := N₇
    exact leaveK_ F₈ N₈ fun kF kN => ret _ _ D ep us zs kF kN p1 p3 (by omega) (by omega)
end Mine

-- N2
open PySem PySem.W PyProof.Rows PySem.Calls
set_option Elab.async false
set_option maxRecDepth 100000
namespace Mine
local macro_rules | `(tactic| walk_at "enterG") => `(tactic| (refine' code_defG ?k1 ?k2 ?k3 ?k4 ?k5 ?kA ?kF ?kK ?k6 ?k7 ?k8 ?k9 ?kB ?_ ?c2 ?c3 ?c4 ?c5; (case kA => exact rfl); (case kF => exact rfl); (case kK => first | exact rfl | assumption); (case k1 => k_asm); (case k2 => k_asm); (case k3 => k_asm); (case k4 => k_asm); (case k5 => k_asm); (case k6 => k_is); (case k7 => k_is); (case k8 => ktr_room); (case k9 => first | exact BindsTo.of_eq rfl | exact binds_K (by k_in) rfl (by k_is) rfl rfl rfl | fail "k_enter: no rule for these arguments"); (case c5 => decide); (case kB => exact locs rfl); (case c2 => exact rfl); (case c3 => exact rfl); (case c4 => exact rfl); k_whole; intro g' L' h' FG' F' N' B' X' T' kG'; (try dsimp only)))
local macro_rules | `(tactic| walk_at "noloop") => `(tactic| ((fail_if_success (with_reducible show wpAny _ _ (exec (Stmt.While _ _ _ _) _) _ _ _)); (fail_if_success (with_reducible show wpAny _ _ (pyIter _) _ _ _)); (fail_if_success (with_reducible show wpAny _ _ (PySem.call (Value.ref _) _ _) _ _ _)); (fail_if_success (with_reducible show wpAny _ _ (exec (Stmt.Assign _ (Expr.ListComp _ _ _ _) _) _) _ _ _)); (fail_if_success (with_reducible show wpAny _ _ (eval (Expr.ListComp _ _ _ _) _) _ _ _)); (fail_if_success (with_reducible show wpAny _ _ (subscriptTail _ _ (Value.ref _) _) _ _ _)); (fail_if_success (with_reducible show wpAny _ _ (PySem.call (Value.builtin _) _ _) _ _ _)); (fail_if_success (with_reducible show wpAny _ _ (PySem.call (Value.type _) _ _) _ _ _)); (fail_if_success (with_reducible show wpAny _ _ (binaryOp _ (Value.ref _) _) _ _ _)); (fail_if_success (with_reducible show wpAny _ _ (compareOp _ (Value.ref _) (Value.ref _)) _ _ _)); (fail_if_success (with_reducible show LeaveK _ _ _ _ _ _ _)); (fail_if_success (with_reducible show KswEnd _ _ _ _ _ _ _ _ _ _ _ _)); (fail_if_success (with_reducible show InvEndN _ _ _ _ _ _ _))))
local macro_rules | `(tactic| walk_at "go") => `(tactic| repeat' (first | (walk_at "noloop"; walk1; (try dsimp only)) | (dsimp only; walk_at "noloop"; walk1)))
local macro_rules | `(tactic| walk_at "nolc") => `(tactic| ((fail_if_success (with_reducible show wpAny _ _ (exec (Stmt.While _ _ _ _) _) _ _ _)); (fail_if_success (with_reducible show wpAny _ _ (pyIter _) _ _ _)); (fail_if_success (with_reducible show wpAny _ _ (PySem.call (Value.ref _) _ _) _ _ _)); (fail_if_success (with_reducible show wpAny _ _ (subscriptTail _ _ (Value.ref _) _) _ _ _)); (fail_if_success (with_reducible show wpAny _ _ (PySem.call (Value.builtin _) _ _) _ _ _)); (fail_if_success (with_reducible show wpAny _ _ (PySem.call (Value.type _) _ _) _ _ _)); (fail_if_success (with_reducible show wpAny _ _ (binaryOp _ (Value.ref _) _) _ _ _)); (fail_if_success (with_reducible show wpAny _ _ (compareOp _ (Value.ref _) (Value.ref _)) _ _ _)); (fail_if_success (with_reducible show LeaveK _ _ _ _ _ _ _)); (fail_if_success (with_reducible show KswEnd _ _ _ _ _ _ _ _ _ _ _ _)); (fail_if_success (with_reducible show InvEndN _ _ _ _ _ _ _))))
local macro_rules | `(tactic| walk_at "go3") => `(tactic| repeat' (first | (walk_at "nolc"; walk1; (try dsimp only)) | (dsimp only; walk_at "nolc"; walk1)))
local macro_rules | `(tactic| walk_at "enterC") => `(tactic| (refine' code_defC ?k1 ?k2 ?k3 ?k4 ?k5 ?kA ?kF ?kK ?k6 ?k7 ?k8 ?k9 ?kB ?kD ?_ ?c2 ?c3 ?c4; (case kA => exact rfl); (case kF => exact rfl); (case kK => first | exact rfl | assumption); (case k1 => k_asm); (case k2 => k_asm); (case k3 => k_asm); (case k4 => k_asm); (case k5 => k_asm); (case k6 => k_is); (case k7 => k_is); (case k8 => ktr_room); (case k9 => first | exact BindsTo.of_eq rfl | exact binds_K (by k_in) rfl (by k_is) rfl rfl rfl | fail "k_enter: no rule for these arguments"); (case kB => exact rfl); (case kD => decide +kernel); (case c2 => exact rfl); (case c3 => exact rfl); (case c4 => exact rfl); k_whole; intro g' L' h' tk' cells' FG' F' N' Y' B' X' T' l1; (try k_lt l1); k_cells Y'; (try simp only [List.cons_append, List.nil_append] at N'); (try dsimp only)))
local macro_rules | `(tactic| walk_at "nolv") => `(tactic| ((fail_if_success (with_reducible show LeaveK _ _ _ _ _ _ _))))
local macro_rules | `(tactic| walk_at "go2") => `(tactic| repeat' (first | (walk_at "nolv"; walk1; (try dsimp only)) | (dsimp only; walk_at "nolv"; walk1)))

set_option maxHeartbeats 4000000 in
theorem sides_c {prog : Program} {w : World} {p : Program} {loose : List Str} {mean : ExcName → Option Value} {mg mb : Str → Option Value}
    {dp un : Nat} {gd : Option (List Code)} {cn : Str} {cs : Scope} {a : Addr} {ccd : Value} {cl : List (Str × Addr)} {outer : List Env} {A₀ : Around} {base h₀ : Heap} {L : Addr} {m : Str → Option Value} {s : Shared} {Q E : Value → Shared → Prop}
    {nl av sa ua : Addr} {en : Nat} {vs svs uvs : List Value} {xs near far : List Int} {x k : Int} {t1 t2 : Tok}
    (B : Below A₀ base outer h₀) (F : Fr h₀ L s.heap m) (X : (hd.heap_39 w.params).In h₀) (T : Top p loose mean mg mb h₀) (hk : cs.kind = .function)
    (N : News h₀ L s.heap [(nl, listOf vs.toArray en), (av, tupO [.int x t1, .int k t2, .ref sa, .ref ua]), (sa, tupO svs), (ua, tupO uvs)])
    (hi : IntsAre vs xs) (hsz : xs.length ≤ 8) (hn : IntsAre svs near) (hf : IntsAre uvs far)
    (hsm : near.length ≤ 8 ∧ far.length ≤ 8) (hin : ∀ k ∈ near ++ far, 0 ≤ k ∧ k < xs.length) (hidx : (near ++ far).Perm ((List.range xs.length).map fun (i : Nat) => (i : Int))) (hx : x = sumAt xs near - sumAt xs far) (hd : dp + 5 < recursionLimit) (hu : un + 40 < cLine)
    (ret : ∀ h' tk', Fr h₀ L h' m → News h₀ L h' [(nl, listOf vs.toArray en), (av, tupO [.int x t1, .int k t2, .ref sa, .ref ua]), (sa, tupO svs), (ua, tupO uvs)] → Q (.bool true) { s with heap := h', toks := tk' }) :
    wpAny (model prog w) (ktrTop dp un gd cn cs L a ccd cl outer) (call (.ref 67) [.ref nl, .ref av]) Q E s := by
  have ln := hn.length
  have lf := hf.length
  have li := hi.length
  refine wpAny_call ?_
  k_dflt (walk_at "enterC")
  walk_at "go"
  rename Fr _ _ _ _ => FA
  rename News _ _ _ _ => NA
  refine compTup FA (by with_unfolding_all rfl) (by decide) (by rfl) (by decide) (by rfl) ?_
  walk_at "go"
  refine itmAt (j := 2) NA (.tail _ (.tail _ (.head _))) rfl (by decide) rfl ?_
  rename Fr _ _ _ _ => FAa
  refine ⟨sa, svs, _, rfl, rfl, FAa, NA, (.tail _ (.tail _ (.tail _ (.head _)))), by omega, fun g => ?_⟩
  refine kcf_rest (ks := near) (fun k => xs.getD k.toNat 0) (by simp [hn.length]) (fun i v _ hv => by
    obtain ⟨k, t, e, hk⟩ := IntsAre.at hn i v (by simpa using hv)
    exact ⟨k, t, hk, e⟩) ?turnA ?finA
  case turnA =>
    intro k' t' I oI C oC D m' ys h' tk' E' hk' hC hx' F' N' off ne mk
    have hk2 := hin k' (List.mem_append.mpr (.inl hk'))
    dsimp only
    walk_at "go"
    refine itemI N' (.tail _ (.tail _ (.tail _ (.tail _ (.head _))))) hi hk2.1 hk2.2 (by omega) fun tt => ?_
    exact LCg.CompEnd.intro F' N' _ (fun p hp => hp) off (.tail _ (.tail _ (.tail _ (.head _)))) ⟨rfl, _, rfl⟩
  case finA =>
  intro usA husA DA hA tkA FAb NAb offA
  dsimp only
  walk_at "go"
  refine LSm.sum_ints FAb NAb rfl ⟨_, (NAb _ (.head _)).1, rfl, _, rfl⟩ husA ?_
  intro hAc tkAc tAc FAc NAc
  dsimp only
  walk_at "go"
  rename Fr _ _ _ _ => FB
  rename News _ _ _ _ => NB
  refine compTup FB (by with_unfolding_all rfl) (by decide) (by rfl) (by decide) (by rfl) ?_
  walk_at "go"
  refine itmAt (j := 3) NB (.tail _ (.tail _ (.tail _ (.head _)))) rfl (by decide) rfl ?_
  rename Fr _ _ _ _ => FBa
  refine ⟨ua, uvs, _, rfl, rfl, FBa, NB, (.tail _ (.tail _ (.tail _ (.tail _ (.tail _ (.head _)))))), by omega, fun g => ?_⟩
  refine kcf_rest (ks := far) (fun k => xs.getD k.toNat 0) (by simp [hf.length]) (fun i v _ hv => by
    obtain ⟨k, t, e, hk⟩ := IntsAre.at hf i v (by simpa using hv)
    exact ⟨k, t, hk, e⟩) ?turnB ?finB
  case turnB =>
    intro k' t' I oI C oC D m' ys h' tk' E' hk' hC hx' F' N' off ne mk
    have hk2 := hin k' (List.mem_append.mpr (.inr hk'))
    dsimp only
    walk_at "go"
    refine itemI N' (.tail _ (.tail _ (.tail _ (.tail _ (.tail _ (.head _)))))) hi hk2.1 hk2.2 (by omega) fun tt => ?_
    exact LCg.CompEnd.intro F' N' _ (fun p hp => hp) off (.tail _ (.tail _ (.tail _ (.tail _ (.tail _ (.head _)))))) ⟨rfl, _, rfl⟩
  case finB =>
  intro usB husB DB hB tkB FBb NBb offB
  dsimp only
  walk_at "go"
  refine LSm.sum_ints FBb NBb rfl ⟨_, (NBb _ (.head _)).1, rfl, _, rfl⟩ husB ?_
  intro hBc tkBc tBc FBc NBc
  dsimp only
  walk_at "go"
  rename Fr _ _ _ _ => F₅
  rename News _ _ _ _ => N₅
  refine itmAt (j := 2) N₅ (.tail _ (.tail _ (.tail _ (.tail _ (.head _))))) rfl (by decide) rfl ?_
  walk_at "go"
  refine itmAt (j := 3) N₅ (.tail _ (.tail _ (.tail _ (.tail _ (.head _))))) rfl (by decide) rfl ?_
  walk_at "go"
  refine addTup F₅ N₅ (T := [(sa, tupO svs), (ua, tupO uvs)]) (fun p hp => .tail _ (.tail _ (.tail _ (.tail _ (.tail _ hp))))) (.head _) (.tail _ (.head _)) (by omega) ?_
  intro r1 h₆ new F₆ N₆ hn6 hr6
  have N₆' := newsCons (newsSub (news' := [(r1, tupO (svs ++ uvs))]) N₆ (fun p hp => by
      rw [List.mem_singleton.mp hp]
      exact (List.mem_append.mp hr6).elim (fun h => List.mem_append.mpr (.inl h)) fun h => List.mem_append.mpr (.inr (.tail _ (.tail _ (.tail _ (.tail _ (.tail _ h)))))))) (newsSub N₆ fun p hp => List.mem_append.mpr (.inr hp))
  clear N₆
  dsimp only
  walk_at "go"
  refine sortedTup F₆ N₆' (.head _) (hn.append hf) (by simp; omega) ?_
  intro DS cS hS uS nsS FS NS ltS hiS hpS hsS
  dsimp only
  walk_at "go"
  refine lenV NS (.tail _ (.tail _ (.tail _ (.tail _ (.tail _ (.head _)))))) (by omega) fun tl tkl => ?_
  rw [li]
  dsimp only
  walk_at "go"
  walk1
  walk_at "go"
  walk1
  rename Fr _ _ _ _ => F₈
  rename News _ _ _ _ => N₈
  rename IntsAre _ (rangeKs _ _) => hR
  have er : nsS = rangeKs 0 ((xs.length : Int) - 0).toNat := by
    refine List.Perm.eq_of_pairwise (fun a b _ _ h1 h2 => Int.le_antisymm h1 h2) hsS ?_ (hpS.trans (hidx.trans ?_))
    · rw [rangeKs, List.pairwise_map, List.pairwise_iff_getElem]
      intro i j hi hj hij
      simp only [List.getElem_range]
      omega
    · rw [rangeKs, show ((xs.length : Int) - 0).toNat = xs.length by omega]
      simp
  rw [er] at hiS
  show wpAny _ _ _ _ _ _
  refine eqInts ⟨_, (N₈ _ (.tail _ (.head _))).1, rfl, _, rfl⟩ ⟨_, (N₈ _ (.head _)).1, rfl, _, rfl⟩ hiS hR (by ktr_units) ?_
  walk_at "go"
  refine itmAt (j := 0) N₈ (.tail _ (.tail _ (.tail _ (.tail _ (.tail _ (.tail _ (.tail _ (.head _)))))))) rfl (by decide) rfl ?_
  walk_at "go"
  have e : ((near.map fun k => xs.getD k.toNat 0).sum - (far.map fun k => xs.getD k.toNat 0).sum == x) = true := by
    rw [hx]
    exact beq_self_eq_true _
  rw [e]
  refine leaveK_ F₈ N₈ fun kF kN => ret _ _ kF (newsSub kN fun p hp => ?_)
  exact .tail _ (.tail _ (.tail _ (.tail _ (.tail _ (.tail _ hp)))))
end Mine

-- K4
set_option Elab.async false
namespace Mine
theorem Part.symm {l : List Int} {p q : Int} (h : Part l p q) : Part l q p := by
  induction h with
  | nil => exact .nil
  | left x _ ih => exact .right x ih
  | right x _ ih => exact .left x ih
/-- zs holds the sums of the one side, over all partings -/
def SumsOf (l zs : List Int) : Prop := ∀ q, q ∈ zs ↔ ∃ p, Part l p q
theorem SumsOf.nil : SumsOf [] [0] := fun q => by
  constructor
  · intro h
    rw [List.mem_singleton.mp h]
    exact ⟨0, .nil⟩
  · rintro ⟨p, h⟩
    rw [h.nil_inv.2]
    exact .head _
theorem SumsOf.snoc {l zs : List Int} (h : SumsOf l zs) (x : Int) : SumsOf (l ++ [x]) (zs ++ zs.map fun s => s + x) := fun q => by
  have hp : (x :: l).Perm (l ++ [x]) := (List.perm_append_singleton x l).symm
  constructor
  · intro hq
    rcases List.mem_append.mp hq with hq | hq
    · obtain ⟨p, hP⟩ := (h q).mp hq
      exact ⟨x + p, (Part.left x hP).perm hp⟩
    · obtain ⟨s, hs, rfl⟩ := List.mem_map.mp hq
      obtain ⟨p, hP⟩ := (h s).mp hs
      rw [Int.add_comm]
      exact ⟨p, (Part.right x hP).perm hp⟩
  · rintro ⟨p, hP⟩
    obtain ⟨p', q', hP', c⟩ := (hP.perm hp.symm).inv
    have hm := (h q').mpr ⟨p', hP'⟩
    rcases c with ⟨_, rfl⟩ | ⟨_, rfl⟩
    · exact List.mem_append_left _ hm
    · exact List.mem_append_right _ (List.mem_map.mpr ⟨q', hm, Int.add_comm _ _⟩)
theorem least_of {x0 : Int} {tl zs : List Int} {M : Int} (h : SumsOf tl zs) (hm : M ∈ zs.map fun s => max s ((x0 :: tl).sum - s)) (hl : ∀ a ∈ zs.map (fun s => max s ((x0 :: tl).sum - s)), M ≤ a) :
    (∃ p q, Part (x0 :: tl) p q ∧ max p q = M) ∧ ∀ p q, Part (x0 :: tl) p q → M ≤ max p q := by
  constructor
  · obtain ⟨s, hs, rfl⟩ := List.mem_map.mp hm
    obtain ⟨p, hP⟩ := (h s).mp hs
    have hP' := Part.left x0 hP
    have hsum := hP'.sum
    exact ⟨x0 + p, s, hP', by omega⟩
  · intro p q hP
    have hsum := hP.sum
    obtain ⟨p', q', hP', c⟩ := hP.inv
    rcases c with ⟨rfl, rfl⟩ | ⟨rfl, rfl⟩
    · have := hl _ (List.mem_map_of_mem ((h q).mpr ⟨p', hP'⟩))
      omega
    · have := hl _ (List.mem_map_of_mem ((h p).mpr ⟨q', hP'.symm⟩))
      omega
theorem least_of2 {xs zs : List Int} {M : Int} (hpos : 1 ≤ xs.length) (h : SumsOf (xs.drop 1) zs) (hm : M ∈ zs.map fun s => max s (xs.sum - s)) (hl : ∀ a ∈ zs.map (fun s => max s (xs.sum - s)), M ≤ a) :
    (∃ p q, Part xs p q ∧ max p q = M) ∧ ∀ p q, Part xs p q → M ≤ max p q := by
  match xs, hpos with
  | x0 :: tl, _ => exact least_of h hm hl
end Mine

-- N3
open PySem PySem.W PyProof.Rows PySem.Calls
set_option Elab.async false
set_option maxRecDepth 100000
namespace Mine
local macro_rules | `(tactic| walk_at "enterG") => `(tactic| (refine' code_defG ?k1 ?k2 ?k3 ?k4 ?k5 ?kA ?kF ?kK ?k6 ?k7 ?k8 ?k9 ?kB ?_ ?c2 ?c3 ?c4 ?c5; (case kA => exact rfl); (case kF => exact rfl); (case kK => first | exact rfl | assumption); (case k1 => k_asm); (case k2 => k_asm); (case k3 => k_asm); (case k4 => k_asm); (case k5 => k_asm); (case k6 => k_is); (case k7 => k_is); (case k8 => ktr_room); (case k9 => first | exact BindsTo.of_eq rfl | exact binds_K (by k_in) rfl (by k_is) rfl rfl rfl | fail "k_enter: no rule for these arguments"); (case c5 => decide); (case kB => exact locs rfl); (case c2 => exact rfl); (case c3 => exact rfl); (case c4 => exact rfl); k_whole; intro g' L' h' FG' F' N' B' X' T' kG'; (try dsimp only)))
local macro_rules | `(tactic| walk_at "noloop") => `(tactic| ((fail_if_success (with_reducible show wpAny _ _ (exec (Stmt.While _ _ _ _) _) _ _ _)); (fail_if_success (with_reducible show wpAny _ _ (pyIter _) _ _ _)); (fail_if_success (with_reducible show wpAny _ _ (PySem.call (Value.ref _) _ _) _ _ _)); (fail_if_success (with_reducible show wpAny _ _ (exec (Stmt.Assign _ (Expr.ListComp _ _ _ _) _) _) _ _ _)); (fail_if_success (with_reducible show wpAny _ _ (eval (Expr.ListComp _ _ _ _) _) _ _ _)); (fail_if_success (with_reducible show wpAny _ _ (subscriptTail _ _ (Value.ref _) _) _ _ _)); (fail_if_success (with_reducible show wpAny _ _ (PySem.call (Value.builtin _) _ _) _ _ _)); (fail_if_success (with_reducible show wpAny _ _ (PySem.call (Value.type _) _ _) _ _ _)); (fail_if_success (with_reducible show wpAny _ _ (binaryOp _ (Value.ref _) _) _ _ _)); (fail_if_success (with_reducible show wpAny _ _ (compareOp _ (Value.ref _) (Value.ref _)) _ _ _)); (fail_if_success (with_reducible show LeaveK _ _ _ _ _ _ _)); (fail_if_success (with_reducible show KswEnd _ _ _ _ _ _ _ _ _ _ _ _)); (fail_if_success (with_reducible show InvEndN _ _ _ _ _ _ _))))
local macro_rules | `(tactic| walk_at "go") => `(tactic| repeat' (first | (walk_at "noloop"; walk1; (try dsimp only)) | (dsimp only; walk_at "noloop"; walk1)))
local macro_rules | `(tactic| walk_at "enterC") => `(tactic| (refine' code_defC ?k1 ?k2 ?k3 ?k4 ?k5 ?kA ?kF ?kK ?k6 ?k7 ?k8 ?k9 ?kB ?kD ?_ ?c2 ?c3 ?c4; (case kA => exact rfl); (case kF => exact rfl); (case kK => first | exact rfl | assumption); (case k1 => k_asm); (case k2 => k_asm); (case k3 => k_asm); (case k4 => k_asm); (case k5 => k_asm); (case k6 => k_is); (case k7 => k_is); (case k8 => ktr_room); (case k9 => first | exact BindsTo.of_eq rfl | exact binds_K (by k_in) rfl (by k_is) rfl rfl rfl | fail "k_enter: no rule for these arguments"); (case kB => exact rfl); (case kD => decide +kernel); (case c2 => exact rfl); (case c3 => exact rfl); (case c4 => exact rfl); k_whole; intro g' L' h' tk' cells' FG' F' N' Y' B' X' T' l1; (try k_lt l1); k_cells Y'; (try simp only [List.cons_append, List.nil_append] at N'); (try dsimp only)))
local macro_rules | `(tactic| walk_at "nolv") => `(tactic| ((fail_if_success (with_reducible show LeaveK _ _ _ _ _ _ _))))
local macro_rules | `(tactic| walk_at "go2") => `(tactic| repeat' (first | (walk_at "nolv"; walk1; (try dsimp only)) | (dsimp only; walk_at "nolv"; walk1)))

set_option maxHeartbeats 4000000 in
theorem least_c {prog : Program} {w : World} {p : Program} {loose : List Str} {mean : ExcName → Option Value} {mg mb : Str → Option Value}
    {dp un : Nat} {gd : Option (List Code)} {cn : Str} {cs : Scope} {a : Addr} {ccd : Value} {cl : List (Str × Addr)} {outer : List Env} {A₀ : Around} {base h₀ : Heap} {L : Addr} {m : Str → Option Value} {s : Shared} {Q E : Value → Shared → Prop}
    {nl : Addr} {en : Nat} {vs : List Value} {xs : List Int}
    (B : Below A₀ base outer h₀) (F : Fr h₀ L s.heap m) (X : (hd.heap_39 w.params).In h₀) (T : Top p loose mean mg mb h₀) (hk : cs.kind = .function)
    (N : News h₀ L s.heap [(nl, listOf vs.toArray en)]) (hi : IntsAre vs xs) (hsz : xs.length ≤ 8) (hpos : 1 ≤ xs.length) (hd : dp + 5 < recursionLimit) (hu : un + 40 < cLine)
    (ret : ∀ h' tk' least t, Fr h₀ L h' m → News h₀ L h' [(nl, listOf vs.toArray en)] → (∃ p q, Part xs p q ∧ max p q = least) → (∀ p q, Part xs p q → least ≤ max p q) → Q (.int least t) { s with heap := h', toks := tk' }) :
    wpAny (model prog w) (ktrTop dp un gd cn cs L a ccd cl outer) (call (.ref 72) [.ref nl]) Q E s := by
  have li := hi.length
  have hva : vs.toArray.size = xs.length := by rw [List.size_toArray]; exact li
  refine wpAny_call ?_
  k_dflt (walk_at "enterC")
  rename_i g L₁ h₁ tk₁ FG F₁ B₁ X₁ T₁ l1 oW oX dW dX N₁
  obtain ⟨cW, hcW⟩ : ∃ v, oW.data = .cell v := ⟨_, dW⟩
  obtain ⟨cX, hcX⟩ : ∃ v, oX.data = .cell v := ⟨_, dX⟩
  clear dW dX
  walk_at "go"
  rename Fr _ _ _ _ => F₂
  rename News _ _ _ _ => N₂
  rename_i S0 hA lS hB
  have hcWl : L₁ + 1 + 1 < hB.objs.size := Heap.lt_size (N₂ _ (.tail _ (.head _))).1
  have hcXl : L₁ + 1 < hB.objs.size := Nat.lt_of_succ_lt hcWl
  have hnll : nl < hB.objs.size := Heap.lt_size (N₂ _ (.tail _ (.tail _ (.tail _ (.head _))))).1
  refine For_turns F₂ ?_
  walk_at "go"
  refine slice_list (s := { s with heap := hB, toks := _ }) (lo := some 1) (hi := none) F₂ N₂ ⟨_, (N₂ _ (.tail _ (.tail _ (.tail _ (.head _))))).1, rfl, _, rfl⟩ (.int _ _) .none ?_ (hsz := by rw [hva, sizeLine_eq]; omega)
  intro h₃ F₃ N₃
  dsimp only at F₃ N₃ ⊢
  have hts := slice_ints_fromW hi (x := 1) (by decide)
  rw [show (1 : Int).toNat = 1 from rfl] at hts
  generalize hit : slicePick vs.toArray (some 1) none none = items at N₃ hts
  have hisz : items.size = (xs.drop 1).length := by have := hts.length; simpa using this
  have hxl : hB.objs.size + 1 < h₃.objs.size := Heap.lt_size (N₃ _ (.head _)).1
  refine wpAny_pyIter_list (items := items) ⟨_, (N₃ _ (.head _)).1, rfl, _, rfl⟩ ?_
  have kp : ∀ b o, h₃.get? b = some o → (h₃.push { cls := .type "list_iterator", data := .fields #[.ref (hB.objs.size + 1), .int 0 0] }).get? b = some o := fun b o e => Heap.get?_push_of_some _ e
  generalize hm₂ : (fun y => if y = Str.ofString "sums" then some (Value.ref S0) else _) = m₂ at F₃
  refine ⟨h₃.objs.size, [h₃.objs.size, hB.objs.size + 1], [h₃.objs.size], items.size, _, _, _, m₂, [(S0, listOf (List.toArray [.int 0 tk₁]) 0), (L₁ + 1 + 1, oW), (L₁ + 1, oX), (nl, listOf vs.toArray en)],
    fun i m₁ nw => ∃ (S : Addr) (us : List Value) (ep : Nat) (zs : List Int) (ox : Obj) (cx : Option Value), nw = [(S, listOf us.toArray ep), (L₁ + 1 + 1, oW), (L₁ + 1, ox), (nl, listOf vs.toArray en)] ∧ IntsAre us zs ∧ SumsOf ((xs.drop 1).take i) zs ∧ zs.length = 2 ^ i ∧ ox.data = .cell cx ∧
      L₁ + 1 + 1 < S ∧ S ≠ nl ∧ S ≠ h₃.objs.size ∧ m₁ (Str.ofString "sums") = some (.ref S) ∧ ∀ z, z ≠ Str.ofString "sums" → m₁ z = m₂ z,
    rfl, KTurns.ofWalks (Walks.list rfl h₃.objs.size (hB.objs.size + 1) (Nat.ne_of_lt hxl) items) (fun i v s Q E st q => letGo_listiter st.1 q), ?hLf, ?hwr, ?hnw, ?hst, F₃.keeps kp, (newsSub N₃ fun p hp => .tail _ hp).grown kp, ?h0, ?step, ?done⟩
  case hLf =>
    intro hm
    rcases List.mem_cons.mp hm with e | hm
    · exact absurd F₃.ns.lt (e ▸ Nat.lt_irrefl _)
    · exact (N₃ _ (.head _)).2.1 (List.mem_singleton.mp hm).symm
  case hwr => intro b hb; rw [List.mem_singleton.mp hb]; exact next_is_new F₃
  case hnw => intro p hp hI; exact absurd (Heap.lt_size (N₃ p (.tail _ hp)).1) ((List.mem_singleton.mp hI) ▸ Nat.lt_irrefl _)
  case hst => exact ⟨⟨_, Heap.get?_push_size _ rfl, rfl, rfl⟩, ⟨_, kp _ _ (N₃ _ (.head _)).1, rfl, _, rfl⟩⟩
  case h0 => exact ⟨S0, _, 0, [0], oX, cX, rfl, .cons _ _ .nil, SumsOf.nil, rfl, hcX, lS.1, (Nat.ne_of_gt lS.2.2), Nat.ne_of_lt (Heap.lt_size (N₃ _ (.tail _ (.head _))).1), by rw [← hm₂]; rfl, fun _ _ => rfl⟩
  case step =>
    intro i v m₁ nw h tk own hi' hP hJ hnw hos hown hall st F N
    obtain ⟨S, us, ep, zs, ox, cx, rfl, p1, p2, p3, hox, hS1, hS2, hS3, ms, mr⟩ := hJ
    have em : m₁ = fun z => if z = Str.ofString "sums" then some (Value.ref S) else m₂ z := by
      funext z
      by_cases hz : z = Str.ofString "sums"
      · rw [hz, ms, if_pos rfl]
      · rw [if_neg hz]; exact mr z hz
    rw [em] at F
    clear em ms mr
    subst hm₂
    obtain ⟨k, t, rfl, hk⟩ := IntsAre.at hts i v (by rw [Array.getElem?_toList]; exact hP)
    obtain ⟨itO, hitO, _⟩ := st.1
    have hI : (h₃.objs.size, itO) ∈ own := hall _ (.head _) (next_is_new F₃) _ hitO
    have hown : ∀ p ∈ own, p.1 ≠ L₁ + 1 := fun p hp e => by
      have := hos p hp
      rw [e] at this
      rcases List.mem_cons.mp this with e | e
      · exact absurd (Nat.lt_trans hcXl (Nat.lt_of_succ_lt hxl)) (e ▸ Nat.lt_irrefl _)
      · exact absurd (Nat.lt_succ_of_lt hcXl) ((List.mem_singleton.mp e) ▸ Nat.lt_irrefl _)
    have F₅ : Fr g L₁ h _ := F
    have N₅ : News g L₁ h ((S, listOf us.toArray ep) :: (L₁ + 1 + 1, oW) :: (L₁ + 1, ox) :: (nl, listOf vs.toArray en) :: own) := newsSub N (by
      intro p hp
      simp only [List.mem_cons, List.mem_append, List.not_mem_nil, or_false] at hp ⊢
      rcases hp with h | h | h | h | h <;> simp [h])
    clear F N
    dsimp only
    refine wpAny_assign_Name (storeX_C (c := L₁ + 1) F₅ N₅ (by rfl) (UpdF.tail (Nat.ne_of_gt (Nat.lt_of_succ_lt hS1)) (UpdF.tail (Nat.succ_ne_self _) (UpdF.head fun p hp => ?_))) hox ?_)
    · rcases List.mem_cons.mp hp with rfl | hp
      · exact Nat.ne_of_lt (Nat.lt_succ_of_lt l1)
      · exact hown p hp
    intro h₆ ox' F₆ N₆ hox'
    dsimp only at F₆ N₆ ⊢
    walk_at "go"
    have hi7 : i < 7 := by
      have h1 := hisz
      rw [List.length_drop] at h1
      omega
    have hz128 : zs.length ≤ 128 := by
      rw [p3]
      exact Nat.le_trans (Nat.pow_le_pow_right (by decide) (Nat.le_of_lt_succ hi7)) (by decide)
    have lus := p1.length
    refine LCg.ListComp_U F₆ (by with_unfolding_all rfl) (by decide) (by rfl) (by decide) (by rfl) ?_
    walk_at "go"
    rename IntsAre _ (List.map _ zs) => hws
    rename Fr _ _ _ _ => F₇
    rename News _ _ _ _ => N₇
    rename_i Dc h₇ tk₇ o7
    refine add_lists_ints F₇ N₇ ⟨_, (N₇ _ (.tail _ (.head _))).1, rfl, _, rfl⟩ ⟨_, (N₇ _ (.head _)).1, rfl, _, rfl⟩ p1 hws ?_ (by rw [List.length_map, sizeLine_eq]; omega)
    intro h₈ F₈ N₈ hsum
    dsimp only at F₈ N₈ ⊢
    have hz : ∀ p ∈ (S, listOf us.toArray ep) :: (L₁ + 1 + 1, oW) :: (L₁ + 1, ox') :: (nl, listOf vs.toArray en) :: own, p.1 < h₇.objs.size := fun p hp => Heap.lt_size (N₇ p (.tail _ hp)).1
    walk_at "go"
    rename Fr _ _ _ _ => F₉
    rename News _ _ _ _ => N₉
    show LoopStepU _ _ _ _ _ _ _ _
    refine LoopStepU.intro (news₂ := [(h₇.objs.size, listOf (us ++ _).toArray 0), (L₁ + 1 + 1, oW), (L₁ + 1, ox'), (nl, listOf vs.toArray en)]) F₉ (newsSub N₉ ?_) ?_ ⟨h₇.objs.size, _, 0, _, ox', _, rfl, hsum, ?_, ?_, hox', hz _ (.tail _ (.head _)), ?_, ?_, rfl, fun z hz => by simp [hz]⟩
    · intro p hp
      simp only [List.mem_cons, List.mem_append, List.not_mem_nil, or_false] at hp ⊢
      rcases hp with h | h | h | h | h <;> simp [h]
    · intro p hp hm
      rw [List.mem_singleton] at hm
      simp only [List.mem_cons, List.not_mem_nil, or_false] at hp
      rcases hp with h | h | h | h
      · have := hz _ (.tail _ (.tail _ (.tail _ (.tail _ hI))))
        rw [h] at hm
        exact absurd this (by rw [← hm]; exact Nat.lt_irrefl _)
      · exact hnw (L₁ + 1 + 1, oW) (by simp) (by rw [List.mem_singleton]; rw [h] at hm; exact hm)
      · exact hnw (L₁ + 1, ox) (by simp) (by rw [List.mem_singleton]; rw [h] at hm; exact hm)
      · exact hnw (nl, _) (.tail _ (.tail _ (.tail _ (.head _)))) (by rw [List.mem_singleton]; rw [h] at hm; exact hm)
    · rw [List.take_add_one, hk]
      exact SumsOf.snoc p2 k
    · rw [List.length_append, List.length_map, p3, Nat.pow_succ]
      omega
    · exact Nat.ne_of_gt (hz _ (.tail _ (.tail _ (.tail _ (.head _)))))
    · exact Nat.ne_of_gt (hz _ (.tail _ (.tail _ (.tail _ (.tail _ hI)))))
  case done =>
    intro h tk m₁ nw F N hnw hJ
    obtain ⟨S, us, ep, zs, ox, cx, rfl, p1, p2, p3, hox, hS1, hS2, hS3, ms, mr⟩ := hJ
    have em : m₁ = fun z => if z = Str.ofString "sums" then some (Value.ref S) else m₂ z := by
      funext z
      by_cases hz : z = Str.ofString "sums"
      · rw [hz, ms, if_pos rfl]
      · rw [if_neg hz]; exact mr z hz
    rw [em] at F
    clear em ms mr
    subst hm₂
    have F₅ : Fr g L₁ h _ := F
    have N₅ : News g L₁ h _ := N
    clear F N
    dsimp only at F₅ ⊢
    walk_at "go"
    refine LSm.sum_ints F₅ N₅ rfl ⟨_, (N₅ _ (.tail _ (.tail _ (.tail _ (.head _))))).1, rfl, _, rfl⟩ hi ?_
    intro h₆ tk₆ t₆ F₆ N₆
    dsimp only
    walk_at "go"
    rename Fr _ _ _ _ => F₇
    rename News _ _ _ _ => N₇
    rename_i h₇ oV hoV
    replace N₇ : News g L₁ h₇ [(S, listOf us.toArray ep), (L₁ + 1 + 1, oV), (L₁ + 1, ox), (nl, listOf vs.toArray en)] := N₇
    refine LCg.ListComp_U F₇ (by with_unfolding_all rfl) (by decide) (by rfl) (by decide) (by rfl) ?_
    walk_at "go"
    clear F₅ N₅
    have hz128 : zs.length ≤ 128 := by
      rw [p3]
      have h1 := hisz
      rw [List.length_drop] at h1
      exact Nat.le_trans (Nat.pow_le_pow_right (by decide) (show items.size ≤ 7 by omega)) (by decide)
    have lus := p1.length
    refine LCg.CompSrc.ledger rfl F₇ N₇ (.head _) (by rw [List.size_toArray, sizeLine_eq]; omega) fun g' => ?_
    refine kcf_list (fun z => max z (xs.sum - z)) p1 ?turn3 ?fin3
    case turn3 =>
      intro s' t' I oI C oC D m' ys h' tk' E' hk' hC hx' F' N' off ne mk
      dsimp only
      walk_at "go"
      walk1
      rename Fr _ _ _ _ => F₉
      rename News _ _ _ _ => N₉
      refine LCg.CompEnd.intro F₉ N₉ _ (fun p hp => hp) off (.inr ⟨_, .head _, rfl, _, rfl⟩) ⟨rfl, ?_⟩
      have emax : (if xs.sum - s' > s' then xs.sum - s' else s') = max s' (xs.sum - s') := by split <;> omega
      exact ⟨_, by rw [emax]⟩
    case fin3 =>
    intro ws hws D h₈ tk₈ F₈ N₈ off₈
    dsimp only
    walk_at "go"
    have hzp : 0 < zs.length := by rw [p3]; exact Nat.pow_pos (by decide)
    refine min_list_N rfl F₈ N₈ ⟨_, (N₈ _ (.head _)).1, rfl, _, rfl⟩ hws (by rw [List.length_map]; exact hzp) ?_
    intro h₉ M tM tk₉ F₉ N₉ hM hle
    dsimp only
    walk_at "go"
    have etake : (xs.drop 1).take items.size = xs.drop 1 := by rw [hisz, List.take_length]
    rw [etake] at p2
    obtain ⟨q1, q2⟩ := least_of2 hpos p2 hM hle
    exact leaveK_ F₉ N₉ fun kF kN => ret _ _ M tM kF (newsSub kN fun p hp => .tail _ (.tail _ (.tail _ (.tail _ hp)))) q1 q2
end Mine

-- L1
open PySem PySem.W PyProof.Rows PySem.Calls
set_option Elab.async false
set_option maxRecDepth 100000
namespace Mine
local macro_rules | `(tactic| walk_at "enterG") => `(tactic| (refine' code_defG ?k1 ?k2 ?k3 ?k4 ?k5 ?kA ?kF ?kK ?k6 ?k7 ?k8 ?k9 ?kB ?_ ?c2 ?c3 ?c4 ?c5; (case kA => exact rfl); (case kF => exact rfl); (case kK => first | exact rfl | assumption); (case k1 => k_asm); (case k2 => k_asm); (case k3 => k_asm); (case k4 => k_asm); (case k5 => k_asm); (case k6 => k_is); (case k7 => k_is); (case k8 => ktr_room); (case k9 => first | exact BindsTo.of_eq rfl | exact binds_K (by k_in) rfl (by k_is) rfl rfl rfl | fail "k_enter: no rule for these arguments"); (case c5 => decide); (case kB => exact locs rfl); (case c2 => exact rfl); (case c3 => exact rfl); (case c4 => exact rfl); k_whole; intro g' L' h' FG' F' N' B' X' T' kG'; (try dsimp only)))
local macro_rules | `(tactic| walk_at "noloop") => `(tactic| ((fail_if_success (with_reducible show wpAny _ _ (exec (Stmt.While _ _ _ _) _) _ _ _)); (fail_if_success (with_reducible show wpAny _ _ (pyIter _) _ _ _)); (fail_if_success (with_reducible show wpAny _ _ (PySem.call (Value.ref _) _ _) _ _ _)); (fail_if_success (with_reducible show wpAny _ _ (exec (Stmt.Assign _ (Expr.ListComp _ _ _ _) _) _) _ _ _)); (fail_if_success (with_reducible show wpAny _ _ (eval (Expr.ListComp _ _ _ _) _) _ _ _)); (fail_if_success (with_reducible show wpAny _ _ (subscriptTail _ _ (Value.ref _) _) _ _ _)); (fail_if_success (with_reducible show wpAny _ _ (PySem.call (Value.builtin _) _ _) _ _ _)); (fail_if_success (with_reducible show wpAny _ _ (PySem.call (Value.type _) _ _) _ _ _)); (fail_if_success (with_reducible show wpAny _ _ (binaryOp _ (Value.ref _) _) _ _ _)); (fail_if_success (with_reducible show wpAny _ _ (compareOp _ (Value.ref _) (Value.ref _)) _ _ _)); (fail_if_success (with_reducible show LeaveK _ _ _ _ _ _ _)); (fail_if_success (with_reducible show KswEnd _ _ _ _ _ _ _ _ _ _ _ _)); (fail_if_success (with_reducible show InvEndN _ _ _ _ _ _ _))))
local macro_rules | `(tactic| walk_at "go") => `(tactic| repeat' (first | (walk_at "noloop"; walk1; (try dsimp only)) | (dsimp only; walk_at "noloop"; walk1)))

theorem newsHead {h₀ h : Heap} {L : Addr} {e : Addr × Obj} {r : List (Addr × Obj)} (N : News h₀ L h (e :: r)) : News h₀ L h [e] := fun p hp => by rw [List.mem_singleton.mp hp]; exact N _ (.head _)
theorem absV {prog : Program} {w : World} {A : Around} {E : Value → Shared → Prop} {s : Shared} {a : Int} {t : Tok} {Q : Value → Shared → Prop} (h : ∀ y u tk, 0 ≤ y → Q (.int y u) { s with toks := tk }) :
    wpAny (model prog w) A (call (.builtin "abs") [.int a t]) Q E s :=
  call_abs_int fun u tk => h _ u tk (by split <;> omega)
set_option maxHeartbeats 4000000 in
theorem lawHolds : PySem.Challenge.rw_dj5008_01.Holds := hd (by
  k_go0
  (all_goals try k_fold)
  rename ¬ ((63 : Nat) : Int) < _ => hcond
  rename IntsAre _ _ => hI
  rename Heap.IsList _ _ _ => hL
  rename Frag.In _ _ => KX
  rename Top _ _ _ _ _ _ => TT₀
  rename Below _ _ _ _ => K0
  walk_at "go"
  rename Fr _ _ _ _ => F₁
  k_dflt (refine numbers_c K0 F₁ KX TT₀ rfl hL hI (by omega) (by decide) (by decide) ?_)
  intro h₂ tk₂ D ep us zs F₂ N₂ hz hz0 hz2 hz8
  dsimp only
  walk_at "go"
  rename Fr _ _ _ _ => F₃
  rename News _ _ _ _ => N₃
  have hDL := (N₃ _ (.head _)).2.1
  have hDb := (N₃ _ (.head _)).2.2
  have hDg := (N₃ _ (.head _)).1
  k_dflt (refine difference_c K0 F₃ KX TT₀ rfl hDg hz hz0 hz2 hz8 (by decide) (by decide) ?_)
  intro v h₄ tk₄ TT it F₄ N₄ hItm hKK hx0 hdiff hperm keep₄
  obtain ⟨av, sa, ua, t1, t2, svs, uvs, rfl, m1, m2, i2, m3, i3⟩ := hItm
  have N₅ : News _ _ h₄ [(D, listOf us.toArray ep), (av, tupO [.int it.x t1, .int it.k t2, .ref sa, .ref ua]), (sa, tupO svs), (ua, tupO uvs)] := newsCons (e := (D, listOf us.toArray ep)) (fun p hp => by
      rw [List.mem_singleton.mp hp]
      exact ⟨keep₄ _ _ hDL hDg, hDL, hDb⟩) (newsSub N₄ fun p hp => by
      simp only [List.mem_cons, List.not_mem_nil, or_false] at hp
      rcases hp with rfl | rfl | rfl
      · exact m1
      · exact m2
      · exact m3)
  clear N₄ keep₄ hDg N₃ F₃
  have hpart := places_part hperm
  have hps := hpart.sum
  have hlen : it.near.length ≤ 8 ∧ it.far.length ≤ 8 := by
    have h1 := hperm.length_eq
    rw [List.length_append, List.length_map, List.length_range] at h1
    omega
  have hin : ∀ k ∈ it.near ++ it.far, 0 ≤ k ∧ k < (zs.length : Int) := fun k hk => by
    obtain ⟨i, hi, rfl⟩ := List.mem_map.mp (hperm.mem_iff.mp hk)
    have := List.mem_range.mp hi
    omega
  dsimp only
  walk_at "go"
  rename Fr _ _ _ _ => F₆
  rename News _ _ _ _ => N₆
  k_dflt (refine sides_c K0 F₆ KX TT₀ rfl N₆ hz hz8 i2 i3 hlen hin hperm hdiff (by decide) (by decide) ?_)
  intro h₇ tk₇ F₇ N₇
  dsimp only
  walk_at "go"
  refine LSm.sum_ints F₇ N₇ rfl ⟨_, (N₇ _ (.head _)).1, rfl, _, rfl⟩ hz ?_
  intro h₈ tk₈ t₈ F₈ N₈
  dsimp only
  walk_at "go"
  rename News _ _ _ _ => N₉
  have even : (zs.sum + it.x).fmod 2 = 0 := by
    rw [Int.fmod_eq_emod_of_nonneg _ (by decide)]
    omega
  have half : (zs.sum + it.x).fdiv 2 = (zs.sum + it.x) / 2 := Int.fdiv_eq_ediv_of_nonneg _ (by decide)
  refine itmAt (j := 0) N₉ (.tail _ (.head _)) rfl (by decide) rfl ?_
  walk_at "go"
  refine itmAt (j := 0) N₉ (.tail _ (.head _)) rfl (by decide) rfl ?_
  walk_at "go"
  · exact absurd even (by assumption)
  refine itmAt (j := 0) N₉ (.tail _ (.head _)) rfl (by decide) rfl ?_
  walk_at "go"
  rename Fr _ _ _ _ => F₁₀
  rename News _ _ _ _ => N₁₀
  k_dflt (refine least_c K0 F₁₀ KX TT₀ rfl (newsSub (news' := [(D, listOf us.toArray ep)]) N₁₀ (by simp)) hz hz8 (by omega) (by decide) (by decide) ?_)
  intro h₁₁ tk₁₁ least tL F₁₁ N₁₁ hex hall
  obtain ⟨-, a2, a3, a4, -⟩ := law_arith hz0 hKK ⟨_, _, hpart, hdiff.symm⟩ hex hall
  rw [← half] at a2 a3 a4
  clear N₁₀ F₁₀
  dsimp only
  walk_at "go"
  rename News _ _ _ _ => N₁₂
  have lz := hz.length
  refine lenV N₁₂ (.head _) (by omega) fun tl tkl => ?_
  rw [lz]
  dsimp only
  walk_at "go"
  · exact absurd (a4 (by omega)) (by assumption)
  all_goals
    rename Fr _ _ _ _ => F₁₃
    rename News _ _ _ _ => N₁₃
    refine LSm.sum_ints F₁₃ N₁₃ rfl (hL.at fun o q => F₁₃.keep _ o q) hI ?_
    intro h₁₄ tk₁₄ t₁₄ F₁₄ N₁₄
    dsimp only
    walk_at "go"
    refine absV fun y ta tka hy0 => ?_
    dsimp only
    walk_at "go"
    rename Fr _ _ _ _ => G₁
    rename News _ _ _ _ => M₁
    have eDL := (M₁ _ (.head _)).2.1
    have eDb := (M₁ _ (.head _)).2.2
    have eDg := (M₁ _ (.head _)).1
    have hn2 : ∀ x ∈ [3 * (1 + y), 3 * (1 + y), 2 * (1 + y), 2 * (1 + y), 2 * (1 + y)], (0 : Int) ≤ x := fun x hx => by
      simp only [List.mem_cons, List.not_mem_nil, or_false] at hx
      omega
    have hI2 := fun a b c d e => IntsAre.cons (3 * (1 + y)) a (.cons (3 * (1 + y)) b (.cons (2 * (1 + y)) c (.cons (2 * (1 + y)) d (.cons (2 * (1 + y)) e .nil))))
    k_dflt (refine difference_c K0 G₁ KX TT₀ rfl eDg (hI2 _ _ _ _ _) hn2 (by simp) (by simp) (by decide) (by decide) ?_)
    intro v h₂₀ tk₂₀ TT2 it2 G₂ M₂ jItm jKK jx0 jdiff jperm jkeep
    obtain ⟨bv, sa2, ua2, s1, s2, svs2, uvs2, rfl, n1, n2, j2, n3, j3⟩ := jItm
    have M₃ := newsCons (fun p hp => by
      rw [List.mem_singleton.mp hp]
      exact ⟨jkeep _ _ eDL eDg, eDL, eDb⟩) (newsSub (news' := [(bv, tupO [.int it2.x s1, .int it2.k s2, .ref sa2, .ref ua2]), (sa2, tupO svs2), (ua2, tupO uvs2)]) M₂ fun p hp => by
      simp only [List.mem_cons, List.not_mem_nil, or_false] at hp
      rcases hp with rfl | rfl | rfl
      · exact n1
      · exact n2
      · exact n3)
    have hD2 := kk_worst (by omega) jKK
    clear M₂ jkeep eDg
    have jlen : it2.near.length ≤ 8 ∧ it2.far.length ≤ 8 := by
      have h1 := jperm.length_eq
      rw [List.length_append, List.length_map, List.length_range] at h1
      simp only [List.length_cons, List.length_nil] at h1
      omega
    have jin : ∀ k ∈ it2.near ++ it2.far, 0 ≤ k ∧ k < (([3 * (1 + y), 3 * (1 + y), 2 * (1 + y), 2 * (1 + y), 2 * (1 + y)] : List Int).length : Int) := fun k hk => by
      obtain ⟨i, hi, rfl⟩ := List.mem_map.mp (jperm.mem_iff.mp hk)
      have := List.mem_range.mp hi
      omega
    dsimp only
    walk_at "go"
    rename Fr _ _ _ _ => G₅
    rename News _ _ _ _ => M₅
    k_dflt (refine sides_c K0 G₅ KX TT₀ rfl M₅ (hI2 _ _ _ _ _) (by simp) j2 j3 jlen jin jperm jdiff (by decide) (by decide) ?_)
    intro h₂₁ tk₂₁ G₆ M₆
    dsimp only
    walk_at "go"
    rename News _ _ _ _ => M₇
    refine itmAt (j := 0) M₇ (.tail _ (.head _)) rfl (by decide) rfl ?_
    walk_at "go"
    rotate_left
    · exact absurd hD2 (by assumption)
    k_dflt (refine least_c K0 G₆ KX TT₀ rfl (newsHead M₇) (hI2 _ _ _ _ _) (by simp) (by simp) (by decide) (by decide) ?_)
    intro h₂₂ tk₂₂ least2 tL2 G₇ M₉ hex2 hall2
    have hl2 : least2 = 6 * (1 + y) := by
      obtain ⟨p, q, hP, hm⟩ := hex2
      have hs := hP.sum
      have hle := hall2 _ _ (Part.left _ (Part.left _ (Part.right _ (Part.right _ (Part.right _ Part.nil)))))
      simp only [List.sum_cons, List.sum_nil] at hs
      omega
    dsimp only
    walk_at "go"
    rw [hl2, beq_self_eq_true]
    wrow_close)
end Mine

theorem PySem.Challenge.cw_dj5008_01_holds : PySem.Challenge.rw_dj5008_01.Holds := by
  exact Mine.lawHolds
