import PyProof.Rows.All
import Wide.All
import OpenK.AllK
import Wide.FinOn
import Lean
import PySem.Challenge.RW_sc0049_01
set_option Elab.async false

section
open PySem PyProof.Rows
set_option maxRecDepth 100000
set_option linter.unusedVariables false
namespace Mine

def Ext (h h' : Heap) : Prop := ∀ b o, h.get? b = some o → h'.get? b = some o
theorem Ext.refl (h : Heap) : Ext h h := fun _ _ e => e
theorem Ext.trans {a b c : Heap} (x : Ext a b) (y : Ext b c) : Ext a c := fun d o e => y d o (x d o e)
theorem Ext.push (h : Heap) (o : Obj) : Ext h (h.push o) := fun _ _ e => Heap.get?_push_of_some _ e

theorem kpRefl (s : Shared) : Keeps s s := ⟨s.heap, s.toks, rfl, fun _ _ e => e⟩
theorem kpTrans {a b c : Shared} (x : Keeps a b) (y : Keeps b c) : Keeps a c := by
  obtain ⟨h, t, rfl, k⟩ := x
  obtain ⟨h', t', rfl, k'⟩ := y
  exact ⟨h', t', rfl, fun b o e => k' b o (k b o e)⟩
theorem kpExt {s s' : Shared} (x : Keeps s s') : Ext s.heap s'.heap := by
  obtain ⟨h, t, rfl, k⟩ := x
  exact k
theorem kpOf {s : Shared} {h : Heap} {t : Nat} (k : Ext s.heap h) : Keeps s { s with heap := h, toks := t } := ⟨h, t, rfl, k⟩

/-- the lists that a value may be made of: those of the heap that are not written to -/
def LV (hs : List Addr) (h : Heap) : Addr → Array Value → Prop := fun a items => a ∉ hs ∧ h.IsList a items
theorem LV.ext {hs : List Addr} {h h' : Heap} (x : Ext h h') (a : Addr) (i : Array Value) (l : LV hs h a i) : LV hs h' a i :=
  ⟨l.1, let ⟨o, e, r⟩ := l.2; ⟨o, x _ _ e, r⟩⟩
theorem LV.sub {hs : List Addr} {h : Heap} (a : Addr) (i : Array Value) (l : LV hs h a i) : LV [] h a i := ⟨by simp, l.2⟩

def Old (hs : List Addr) (h : Heap) : Prop := ∀ a ∈ hs, ∃ o, h.get? a = some o
theorem Old.nil (h : Heap) : Old [] h := fun _ m => nomatch m
theorem Old.ext {hs : List Addr} {h h' : Heap} (x : Old hs h) (k : Ext h h') : Old hs h' := fun a m => let ⟨o, e⟩ := x a m; ⟨o, k _ _ e⟩
theorem Old.new {hs : List Addr} {h : Heap} (x : Old hs h) : h.objs.size ∉ hs := fun m => let ⟨_, e⟩ := x _ m; Nat.lt_irrefl _ (Heap.lt_size e)
theorem Old.newer {hs : List Addr} {h : Heap} (x : Old hs h) {n : Nat} (k : h.objs.size ≤ n) : n ∉ hs := fun m => let ⟨_, e⟩ := x _ m; Nat.lt_irrefl _ (Nat.lt_of_lt_of_le (Heap.lt_size e) k)
theorem Old.kp {hs : List Addr} {s s' : Shared} (x : Old hs s.heap) (k : Keeps s s') : Old hs s'.heap := x.ext (kpExt k)

/-- what a value is, told over the lists of the heap -/
structure VP where
  p : (Addr → Array Value → Prop) → Value → Prop
  mono : ∀ {V V' : Addr → Array Value → Prop} {v : Value}, (∀ a i, V a i → V' a i) → p V v → p V' v

theorem VP.ext (P : VP) {hs : List Addr} {h h' : Heap} {v : Value} (x : Ext h h') (y : P.p (LV hs h) v) : P.p (LV hs h') v := P.mono (LV.ext x) y
theorem VP.kp (P : VP) {hs : List Addr} {s s' : Shared} {v : Value} (x : Keeps s s') (y : P.p (LV hs s.heap) v) : P.p (LV hs s'.heap) v := P.ext (kpExt x) y

theorem Paired.imp {α β : Type} {F G : α → β → Prop} (k : ∀ a b, F a b → G a b) : ∀ {l₁ : List α} {l₂ : List β}, Paired F l₁ l₂ → Paired G l₁ l₂
  | _, _, .nil => .nil
  | _, _, .cons h t => .cons (k _ _ h) (Paired.imp k t)
theorem Paired.app {α β : Type} {F : α → β → Prop} : ∀ {l₁ l₃ : List α} {l₂ l₄ : List β}, Paired F l₁ l₂ → Paired F l₃ l₄ → Paired F (l₁ ++ l₃) (l₂ ++ l₄)
  | _, _, _, _, .nil, h => h
  | _, _, _, _, .cons h t, g => .cons h (Paired.app t g)
theorem Paired.get {α β : Type} {F : α → β → Prop} : ∀ {l₁ : List α} {l₂ : List β}, Paired F l₁ l₂ → ∀ (i : Nat) {a : α}, l₁[i]? = some a → ∃ b, l₂[i]? = some b ∧ F a b
  | _, _, .nil, i, a, h => by simp at h
  | _, _, .cons (b := b) h t, 0, a, e => by simp at e; subst e; exact ⟨b, by simp, h⟩
  | _, _, .cons h t, i + 1, a, e => by
    simp at e
    obtain ⟨b, x, y⟩ := Paired.get t i e
    exact ⟨b, by simpa using x, y⟩
theorem Paired.getR {α β : Type} {F : α → β → Prop} : ∀ {l₁ : List α} {l₂ : List β}, Paired F l₁ l₂ → ∀ (i : Nat) {b : β}, l₂[i]? = some b → ∃ a, l₁[i]? = some a ∧ F a b
  | _, _, .nil, i, a, h => by simp at h
  | _, _, .cons (a := a) h t, 0, b, e => by simp at e; subst e; exact ⟨a, by simp, h⟩
  | _, _, .cons h t, i + 1, a, e => by
    simp at e
    obtain ⟨b, x, y⟩ := Paired.getR t i e
    exact ⟨b, by simpa using x, y⟩
theorem Paired.take {α β : Type} {F : α → β → Prop} : ∀ {l₁ : List α} {l₂ : List β} (n : Nat), Paired F l₁ l₂ → Paired F (l₁.take n) (l₂.take n)
  | _, _, 0, _ => by simp; exact .nil
  | _, _, _ + 1, .nil => by simp; exact .nil
  | _, _, n + 1, .cons h t => by simp; exact .cons h (Paired.take n t)
theorem Paired.drop {α β : Type} {F : α → β → Prop} : ∀ {l₁ : List α} {l₂ : List β} (n : Nat), Paired F l₁ l₂ → Paired F (l₁.drop n) (l₂.drop n)
  | _, _, 0, h => by simpa using h
  | _, _, _ + 1, .nil => by simp; exact .nil
  | _, _, n + 1, .cons h t => by simp; exact Paired.drop n t

def IntV (n : Int) : VP := ⟨fun _ v => ∃ t, v = .int n t, fun _ h => h⟩
def BoolV (b : Bool) : VP := ⟨fun _ v => v = .bool b, fun _ h => h⟩
def NoneV : VP := ⟨fun _ v => v = .none, fun _ h => h⟩
def FltV (x : UInt64) : VP := ⟨fun _ v => ∃ t, v = .float x t, fun _ h => h⟩
def IsV (x : Value) : VP := ⟨fun _ v => v = x, fun _ h => h⟩
def ListV (ps : List VP) : VP := ⟨fun V v => ∃ a items, v = .ref a ∧ V a items ∧ Paired (fun (P : VP) x => P.p V x) ps items.toList, fun k ⟨a, items, e, l, q⟩ => ⟨a, items, e, k _ _ l, Paired.imp (fun P _ y => P.mono k y) q⟩⟩
abbrev IntsV (l : List Int) : VP := ListV (l.map IntV)

section
variable (prog : Program) (w : World) (A : Around) (hs : List Addr) (h : Heap)
/-- a tree that gives a value so told, and leaves each object as it was -/
def Sv (t : Sem Value) (P : VP) : Prop := ∀ s E, Ext h s.heap → Old hs s.heap → wpAny (model prog w) A t (fun v s' => P.p (LV hs s'.heap) v ∧ Keeps s s') E s
def Tv (t : Sem Bool) (b : Bool) : Prop := ∀ s E, Ext h s.heap → Old hs s.heap → wpAny (model prog w) A t (fun v s' => v = b ∧ Keeps s s') E s
def Lv (t : Sem (List Value)) (Ps : List VP) : Prop := ∀ s E, Ext h s.heap → Old hs s.heap → wpAny (model prog w) A t (fun vs s' => Paired (fun (P : VP) x => P.p (LV hs s'.heap) x) Ps vs ∧ Keeps s s') E s
end


section
variable {prog : Program} {w : World} {A : Around} {hs : List Addr} {h : Heap} {env : Env}

theorem Sv.at {t : Sem Value} {P : VP} (x : Sv prog w A hs h t P) {h' : Heap} (k : Ext h h') : Sv prog w A hs h' t P := fun s E e o => x s E (k.trans e) o
theorem Sv.imp {t : Sem Value} {P Q : VP} (x : Sv prog w A hs h t P) (k : ∀ V v, P.p V v → Q.p V v) : Sv prog w A hs h t Q := fun s E e o =>
  wpAny_mono (x s E e o) (fun _ _ ⟨a, b⟩ => ⟨k _ _ a, b⟩) fun _ _ y => y
theorem Sv.cast {t : Sem Value} {P Q : VP} (x : Sv prog w A hs h t P) (k : P = Q) : Sv prog w A hs h t Q := k ▸ x
theorem Tv.at {t : Sem Bool} {b : Bool} (x : Tv prog w A hs h t b) {h' : Heap} (k : Ext h h') : Tv prog w A hs h' t b := fun s E e o => x s E (k.trans e) o
theorem Tv.cast {t : Sem Bool} {b c : Bool} (x : Tv prog w A hs h t b) (k : b = c) : Tv prog w A hs h t c := k ▸ x

/-- the use of a described tree in a walk -/
theorem Sv.go {t : Sem Value} {P : VP} {s : Shared} {E : Value → Shared → Prop} {Q : Value → Shared → Prop} (x : Sv prog w A hs s.heap t P) (o : Old hs s.heap)
    (k : ∀ v s', P.p (LV hs s'.heap) v → Keeps s s' → Q v s') : wpAny (model prog w) A t Q E s :=
  wpAny_mono (x s E (Ext.refl _) o) (fun v s' ⟨a, b⟩ => k v s' a b) fun _ _ y => y
theorem Tv.go {t : Sem Bool} {b : Bool} {s : Shared} {E : Value → Shared → Prop} {Q : Bool → Shared → Prop} (x : Tv prog w A hs s.heap t b) (o : Old hs s.heap)
    (k : ∀ s', Keeps s s' → Q b s') : wpAny (model prog w) A t Q E s :=
  wpAny_mono (x s E (Ext.refl _) o) (fun v s' ⟨a, b⟩ => a ▸ k s' b) fun _ _ y => y
theorem Lv.go {t : Sem (List Value)} {Ps : List VP} {s : Shared} {E : Value → Shared → Prop} {Q : List Value → Shared → Prop} (x : Lv prog w A hs s.heap t Ps) (o : Old hs s.heap)
    (k : ∀ v s', Paired (fun (P : VP) x => P.p (LV hs s'.heap) x) Ps v → Keeps s s' → Q v s') : wpAny (model prog w) A t Q E s :=
  wpAny_mono (x s E (Ext.refl _) o) (fun v s' ⟨a, b⟩ => k v s' a b) fun _ _ y => y
theorem Paired.kp {Ps : List VP} {vs : List Value} {s s' : Shared} (k : Keeps s s') (x : Paired (fun (P : VP) x => P.p (LV hs s.heap) x) Ps vs) : Paired (fun (P : VP) x => P.p (LV hs s'.heap) x) Ps vs :=
  Paired.imp (fun P _ y => P.kp k y) x

abbrev Ev (prog : Program) (w : World) (A : Around) (env : Env) (hs : List Addr) (h : Heap) (e : Expr) (P : VP) : Prop := Sv prog w A hs h (eval e env) P
abbrev Et (prog : Program) (w : World) (A : Around) (env : Env) (hs : List Addr) (h : Heap) (e : Expr) (b : Bool) : Prop := Tv prog w A hs h (isTrue e env (eval e env)) b

/-- an operation upon two described values -/
def Op2 (prog : Program) (w : World) (A : Around) (hs : List Addr) (t : Value → Value → Sem Value) (P Q R : VP) : Prop :=
  ∀ h v u, P.p (LV hs h) v → Q.p (LV hs h) u → Sv prog w A hs h (t v u) R
def Op1 (prog : Program) (w : World) (A : Around) (hs : List Addr) (t : Value → Sem Value) (P R : VP) : Prop :=
  ∀ h v, P.p (LV hs h) v → Sv prog w A hs h (t v) R
def Tr1 (prog : Program) (w : World) (A : Around) (hs : List Addr) (P : VP) (b : Bool) : Prop :=
  ∀ h v, P.p (LV hs h) v → Tv prog w A hs h (truthy v) b

theorem Ev.bin {a b : Expr} {op : Operator} {pos : Pos} {P Q R : VP} (o : Op2 prog w A hs (binaryOp op) P Q R) (x : Ev prog w A env hs h a P) (y : Ev prog w A env hs h b Q) :
    Ev prog w A env hs h (.BinOp a op b pos) R := fun s E e od => by
  refine wpAny_BinOp (Sv.go (x.at e) od fun v s₁ p k => Sv.go (y.at (e.trans (kpExt k))) (od.kp k) fun u s₂ q k₂ => ?_)
  exact Sv.go (o s₂.heap v u (P.kp k₂ p) q) ((od.kp k).kp k₂) fun r s₃ z k₃ => ⟨z, kpTrans (kpTrans k k₂) k₃⟩

theorem Ev.cmp {a b : Expr} {op : CmpOp} {pos : Pos} {P Q R : VP} (o : Op2 prog w A hs (compareOp op) P Q R) (x : Ev prog w A env hs h a P) (y : Ev prog w A env hs h b Q)
    (hm : behindInMarks op b = false := by with_unfolding_all rfl) : Ev prog w A env hs h (.Compare a [op] [b] pos) R := fun s E e od => by
  refine wpAny_Compare1 (Sv.go (x.at e) od fun v s₁ p k => Sv.go (y.at (e.trans (kpExt k))) (od.kp k) fun u s₂ q k₂ => ?_) hm
  exact Sv.go (o s₂.heap v u (P.kp k₂ p) q) ((od.kp k).kp k₂) fun r s₃ z k₃ => ⟨z, kpTrans (kpTrans k k₂) k₃⟩

theorem tr_bool (b : Bool) : Tr1 prog w A hs (BoolV b) b := fun h v e s E x o => by
  subst e
  exact wpAny_truthy_bool ⟨rfl, kpRefl s⟩

theorem Et.cmp {a b : Expr} {op : CmpOp} {pos : Pos} {P Q : VP} {c : Bool} (o : Op2 prog w A hs (compareOp op) P Q (BoolV c)) (x : Ev prog w A env hs h a P) (y : Ev prog w A env hs h b Q)
    (hm : behindInMarks op b = false := by with_unfolding_all rfl) : Et prog w A env hs h (.Compare a [op] [b] pos) c := fun s E e od => by
  refine wpAny_isTrue_Compare1 (Sv.go (x.at e) od fun v s₁ p k => Sv.go (y.at (e.trans (kpExt k))) (od.kp k) fun u s₂ q k₂ => ?_) hm
  exact Sv.go (o s₂.heap v u (P.kp k₂ p) q) ((od.kp k).kp k₂) fun r s₃ z k₃ => Tv.go (tr_bool c s₃.heap r z) (((od.kp k).kp k₂).kp k₃) fun s₄ k₄ => ⟨rfl, kpTrans (kpTrans (kpTrans k k₂) k₃) k₄⟩
theorem Et.val {a : Expr} {P : VP} {c : Bool} (t : Tr1 prog w A hs P c) (x : Ev prog w A env hs h a P) (he : ∀ whole, isTrue a env whole = (do let v ← whole; standAt a.pos; holding [v] (truthy v)) := by intro _; rfl) :
    Et prog w A env hs h a c := fun s E e od => by
  refine wpAny_isTrue_value (Sv.go (x.at e) od fun v s₁ p k => Tv.go (t s₁.heap v p) (od.kp k) fun s₂ k₂ => ⟨rfl, kpTrans k k₂⟩) (he _)
theorem Et.not {a : Expr} {pos : Pos} {c : Bool} (x : Et prog w A env hs h a c) : Et prog w A env hs h (.UnaryOp .Not a pos) (!c) := fun s E e od => by
  exact wpAny_isTrue_Not (Tv.go (x.at e) od fun s₁ k => ⟨rfl, k⟩)
theorem Et.or2 {a b : Expr} {pos : Pos} {c d : Bool} (x : Et prog w A env hs h a c) (y : c = false → Et prog w A env hs h b d) : Et prog w A env hs h (.BoolOp .Or [a, b] pos) (c || d) := fun s E e od => by
  refine wpAny_isTrue_BoolOp (wpAny_allTrue_Or_cons (Tv.go (x.at e) od fun s₁ k => ?_))
  cases c with
  | true => exact ⟨rfl, k⟩
  | false =>
    show wpAny _ _ _ _ _ _
    refine wpAny_allTrue_Or_cons (Tv.go ((y rfl).at (e.trans (kpExt k))) (od.kp k) fun s₂ k₂ => ?_)
    cases d with
    | true => exact ⟨rfl, kpTrans k k₂⟩
    | false => exact wpAny_allTrue_Or_nil ⟨rfl, kpTrans k k₂⟩
theorem Et.and2 {a b : Expr} {pos : Pos} {c d : Bool} (x : Et prog w A env hs h a c) (y : c = true → Et prog w A env hs h b d) : Et prog w A env hs h (.BoolOp .And [a, b] pos) (c && d) := fun s E e od => by
  refine wpAny_isTrue_BoolOp (wpAny_allTrue_And_cons (Tv.go (x.at e) od fun s₁ k => ?_))
  cases c with
  | false => exact ⟨rfl, k⟩
  | true =>
    show wpAny _ _ _ _ _ _
    refine wpAny_allTrue_And_cons (Tv.go ((y rfl).at (e.trans (kpExt k))) (od.kp k) fun s₂ k₂ => ?_)
    cases d with
    | false => exact ⟨rfl, kpTrans k k₂⟩
    | true => exact wpAny_allTrue_And_nil ⟨rfl, kpTrans k k₂⟩
theorem Ev.or2 {a b : Expr} {pos : Pos} {c d : Bool} (x : Ev prog w A env hs h a (BoolV c)) (y : c = false → Ev prog w A env hs h b (BoolV d)) : Ev prog w A env hs h (.BoolOp .Or [a, b] pos) (BoolV (c || d)) := fun s E e od => by
  refine wpAny_Or2 (Sv.go (x.at e) od fun v s₁ p k => Tv.go (tr_bool c s₁.heap v p) (od.kp k) fun s₂ k₂ => ?_)
  cases c with
  | true => exact ⟨p, kpTrans k k₂⟩
  | false =>
    show wpAny _ _ _ _ _ _
    exact Sv.go ((y rfl).at (e.trans (kpExt (kpTrans k k₂)))) ((od.kp k).kp k₂) fun u s₃ q k₃ => ⟨by simpa using q, kpTrans (kpTrans k k₂) k₃⟩
theorem Ev.ite {a b c : Expr} {pos : Pos} {t : Bool} {P : VP} (x : Et prog w A env hs h a t) (y : t = true → Ev prog w A env hs h b P) (z : t = false → Ev prog w A env hs h c P) : Ev prog w A env hs h (.IfExp a b c pos) P := fun s E e od => by
  refine wpAny_IfExp (Tv.go (x.at e) od fun s₁ k => ?_)
  cases t with
  | true => exact Sv.go ((y rfl).at (e.trans (kpExt k))) (od.kp k) fun u s₂ q k₂ => ⟨q, kpTrans k k₂⟩
  | false => exact Sv.go ((z rfl).at (e.trans (kpExt k))) (od.kp k) fun u s₂ q k₂ => ⟨q, kpTrans k k₂⟩
theorem Ev.neg {a : Expr} {pos : Pos} {n : Int} (x : Ev prog w A env hs h a (IntV n)) : Ev prog w A env hs h (.UnaryOp .USub a pos) (IntV (-n)) := fun s E e od => by
  refine wpAny_UnaryOp (Sv.go (x.at e) od fun v s₁ p k => ?_)
  obtain ⟨t, rfl⟩ := p
  exact neg_int ⟨⟨_, rfl⟩, kpTrans k (kpOf (Ext.refl _))⟩
theorem Ev.cint {n : Int} {k : Nat} {pos : Pos} : Ev prog w A env hs h (.Constant (.int n) k pos) (IntV n) := fun s E e od => wpAny_Constant_int ⟨⟨_, rfl⟩, kpOf (Ext.refl _)⟩
theorem Ev.cbool {n : Bool} {k : Nat} {pos : Pos} : Ev prog w A env hs h (.Constant (.bool n) k pos) (BoolV n) := fun s E e od => wpAny_Constant_bool ⟨rfl, kpRefl s⟩
theorem Ev.cnone {k : Nat} {pos : Pos} : Ev prog w A env hs h (.Constant .none k pos) NoneV := fun s E e od => wpAny_Constant_none ⟨rfl, kpRefl s⟩
end

section
variable {prog : Program} {w : World} {A : Around} {hs : List Addr} {h : Heap} {a b : Int}
theorem op_add : Op2 prog w A hs (binaryOp .Add) (IntV a) (IntV b) (IntV (a + b)) := by
  rintro h _ _ ⟨t, rfl⟩ ⟨u, rfl⟩ s E e od
  exact add_int ⟨⟨_, rfl⟩, kpOf (Ext.refl _)⟩
theorem op_sub : Op2 prog w A hs (binaryOp .Sub) (IntV a) (IntV b) (IntV (a - b)) := by
  rintro h _ _ ⟨t, rfl⟩ ⟨u, rfl⟩ s E e od
  exact sub_int ⟨⟨_, rfl⟩, kpOf (Ext.refl _)⟩
theorem op_mul (hm : IntMulOk a b) : Op2 prog w A hs (binaryOp .Mult) (IntV a) (IntV b) (IntV (a * b)) := by
  rintro h _ _ ⟨t, rfl⟩ ⟨u, rfl⟩ s E e od
  exact mul_int ⟨⟨_, rfl⟩, kpOf (Ext.refl _)⟩ hm
theorem op_fdiv (hb : b ≠ 0) (hz : b.natAbs < 1073741824) : Op2 prog w A hs (binaryOp .FloorDiv) (IntV a) (IntV b) (IntV (a.fdiv b)) := by
  rintro h _ _ ⟨t, rfl⟩ ⟨u, rfl⟩ s E e od
  exact floordiv_int hb ⟨⟨_, rfl⟩, kpOf (Ext.refl _)⟩ (Or.inl (PyProof.noPylong_small hz))
theorem op_fmod (hb : b ≠ 0) : Op2 prog w A hs (binaryOp .Mod) (IntV a) (IntV b) (IntV (a.fmod b)) := by
  rintro h _ _ ⟨t, rfl⟩ ⟨u, rfl⟩ s E e od
  exact mod_int hb ⟨⟨_, rfl⟩, kpOf (Ext.refl _)⟩
theorem op_lt : Op2 prog w A hs (compareOp .Lt) (IntV a) (IntV b) (BoolV (decide (a < b))) := by
  rintro h _ _ ⟨t, rfl⟩ ⟨u, rfl⟩ s E e od
  exact lt_int ⟨rfl, kpRefl _⟩
theorem op_le : Op2 prog w A hs (compareOp .LtE) (IntV a) (IntV b) (BoolV (decide (a ≤ b))) := by
  rintro h _ _ ⟨t, rfl⟩ ⟨u, rfl⟩ s E e od
  exact le_int ⟨rfl, kpRefl _⟩
theorem op_gt : Op2 prog w A hs (compareOp .Gt) (IntV a) (IntV b) (BoolV (decide (b < a))) := by
  rintro h _ _ ⟨t, rfl⟩ ⟨u, rfl⟩ s E e od
  exact gt_int ⟨rfl, kpRefl _⟩
theorem op_ge : Op2 prog w A hs (compareOp .GtE) (IntV a) (IntV b) (BoolV (decide (b ≤ a))) := by
  rintro h _ _ ⟨t, rfl⟩ ⟨u, rfl⟩ s E e od
  exact ge_int ⟨rfl, kpRefl _⟩
theorem op_eq : Op2 prog w A hs (compareOp .Eq) (IntV a) (IntV b) (BoolV (a == b)) := by
  rintro h _ _ ⟨t, rfl⟩ ⟨u, rfl⟩ s E e od
  exact eq_int ⟨rfl, kpRefl _⟩
theorem op_isNone {P : VP} (c : Bool) (k : ∀ V v, P.p V v → (v == .none) = c) : Op2 prog w A hs (compareOp .Is) P NoneV (BoolV c) := by
  rintro h v _ p rfl s E e od
  exact is_none ⟨by rw [k _ _ p]; rfl, kpRefl _⟩
theorem tr_int : Tr1 prog w A hs (IntV a) (a != 0) := by
  rintro h _ ⟨t, rfl⟩ s E e od
  exact PySem.P.truthy_int ⟨rfl, kpRefl s⟩
end

end Mine
end

section
open PySem PySem.Calls PyProof.Rows
set_option maxRecDepth 100000
set_option linter.unusedVariables false
namespace Mine

section
variable {prog : Program} {w : World} {A : Around} {hs : List Addr} {h : Heap} {env : Env}

theorem isList_new {hs : List Addr} {h : Heap} (od : Old hs h) (xs : Array Value) : LV hs (h.push { cls := .type "list", data := .seq xs }) h.objs.size xs :=
  ⟨od.new, _, Heap.get?_push_size _ rfl, rfl, 0, rfl⟩

/-! the items of a display, the arguments of a call -/
theorem Lv.nil {pos : Pos} : Lv prog w A hs h (spliced (backTo pos (starEach [] env))) [] := fun s E e od => wpAny_items_nil ⟨.nil, kpRefl s⟩
theorem Lv.cons {pos : Pos} {a : Expr} {rest : List Expr} {P : VP} {Ps : List VP} (x : Ev prog w A env hs h a P) (y : Lv prog w A hs h (spliced (backTo pos (starEach rest env))) Ps)
    (he : starEach (a :: rest) env = (false, eval a env) :: starEach rest env := by rfl) : Lv prog w A hs h (spliced (backTo pos (starEach (a :: rest) env))) (P :: Ps) := fun s E e od => by
  refine wpAny_items_cons (Sv.go (x.at e) od fun v s₁ p k => ?_) he
  exact wpAny_mono (y s₁ E (e.trans (kpExt k)) (od.kp k)) (fun vs s₂ ⟨q, k₂⟩ => ⟨.cons (P.kp k₂ p) q, kpTrans k k₂⟩) fun _ _ z => z
theorem Lv.at {t : Sem (List Value)} {Ps : List VP} (x : Lv prog w A hs h t Ps) {h' : Heap} (k : Ext h h') : Lv prog w A hs h' t Ps := fun s E e o => x s E (k.trans e) o

theorem Ev.list {pos : Pos} {es : List Expr} {Ps : List VP} (hz : Ps.length ≤ sizeLine) (x : Lv prog w A hs h (spliced (backTo pos (starEach es env))) Ps) : Ev prog w A env hs h (.List es pos) (ListV Ps) := fun s E e od => by
  refine wpAny_List (wpAny_mono (x s E e od) (fun vs s₁ ⟨q, k⟩ => ?_) fun _ _ z => z)
  refine ⟨by rw [← q.length]; exact hz, ⟨_, _, rfl, isList_new (od.kp k) _, ?_⟩, kpTrans k (kpOf (Ext.push _ _))⟩
  exact Paired.imp (fun P _ y => P.ext (Ext.push _ _) y) (by simpa using q)

/-- + of two lists -/
theorem cat_lists {l b : Addr} {xs ys : Array Value} {s : Shared} {E : Value → Shared → Prop} {Q : Value → Shared → Prop} (hl : s.heap.IsList l xs) (hb : s.heap.IsList b ys)
    (h : Q (.ref s.heap.objs.size) { s with heap := s.heap.push { cls := .type "list", data := .seq (xs ++ ys) } })
    (hsz : xs.size + ys.size ≤ sizeLine) : wpAny (model prog w) A (binaryOp .Add (.ref l) (.ref b)) Q E s := by
  obtain ⟨⟨cls, dd, data, sl⟩, ho, hc, n, hd⟩ := id hl
  obtain ⟨⟨cls2, dd2, data2, sl2⟩, ho2, hc2, n2, hd2⟩ := id hb
  simp only at hc hd hc2 hd2
  subst hc hd hc2 hd2
  exact concat_meets ⟨_, ho, rfl⟩ ⟨_, ho2, rfl⟩ noFill_list_add seq_list_add PySem.F.slot_list_add PySem.F.entry_list_add (PySem.F.args_list_add_2 _ _) (list_addW l b xs ys n n2 dd dd2 sl sl2 hsz) ⟨ho, ho2, h⟩

theorem op_cat {Ps Qs : List VP} (hz : Ps.length + Qs.length ≤ sizeLine) : Op2 prog w A hs (binaryOp .Add) (ListV Ps) (ListV Qs) (ListV (Ps ++ Qs)) := by
  rintro h _ _ ⟨a, xs, rfl, l, q⟩ ⟨b, ys, rfl, l₂, q₂⟩ s E e od
  have l := LV.ext e _ _ l
  have l₂ := LV.ext e _ _ l₂
  have e1 := q.length
  have e2 := q₂.length
  refine cat_lists l.2 l₂.2 ⟨⟨_, _, rfl, isList_new od _, ?_⟩, kpOf (Ext.push _ _)⟩ (by rw [← Array.length_toList, ← Array.length_toList, ← e1, ← e2]; exact hz)
  rw [Array.toList_append]
  exact Paired.app (Paired.imp (fun P _ y => P.ext (e.trans (Ext.push _ _)) y) q) (Paired.imp (fun P _ y => P.ext (e.trans (Ext.push _ _)) y) q₂)

/-- an item -/
theorem Ev.item {a i : Expr} {pos : Pos} {Ps : List VP} {k : Int} {P : VP} (x : Ev prog w A env hs h a (ListV Ps)) (y : Ev prog w A env hs h i (IntV k)) (h0 : 0 ≤ k) (h1 : k < 2 ^ 63) (hP : Ps[k.toNat]? = some P)
    (hsub : ∀ o (j : Int) t, subscripted i false (.ref o) (.int j t) = operate [.ref o, .int j t] (getItem (.ref o) (.int j t)) := by intro _ _ _; with_unfolding_all rfl) :
    Ev prog w A env hs h (.Subscript a i pos) P := fun s E e od => by
  refine Subscript_ (Sv.go (x.at e) od fun v s₁ p k₁ => Sv.go (y.at (e.trans (kpExt k₁))) (od.kp k₁) fun u s₂ q k₂ => ?_)
  obtain ⟨o, xs, rfl, l, z⟩ := VP.kp (ListV Ps) k₂ p
  obtain ⟨t, rfl⟩ := q
  obtain ⟨v, hv, hp⟩ := Paired.get z _ hP
  exact tail_any l.2.typeIs slot_list_getitem.lookup (wpAny_getItem_list l.2 h0 h1 (by simpa using hv) ⟨hp, kpTrans k₁ k₂⟩) (hsub _ _ _)

/-! slices -/
inductive PartV : Option Int → VP → Prop
  | none : PartV none NoneV
  | int (i : Int) : PartV (some i) (IntV i)
def EvPart (prog : Program) (w : World) (A : Around) (env : Env) (hs : List Addr) (h : Heap) (e : Option Expr) (c : Option Int) : Prop := ∃ P, PartV c P ∧ Sv prog w A hs h (evalPart e env) P
theorem EvPart.none : EvPart prog w A env hs h .none .none := ⟨NoneV, .none, fun s E e od => by rw [evalPart_none]; exact wpAny_pure ⟨rfl, kpRefl s⟩⟩
theorem EvPart.some {a : Expr} {i : Int} (x : Ev prog w A env hs h a (IntV i)) (he : evalPart (Option.some a) env = eval a env := by rfl) : EvPart prog w A env hs h (.some a) (.some i) := ⟨IntV i, .int i, by unfold Sv; rw [he]; exact x⟩
theorem PartV.is {c : Option Int} {P : VP} (x : PartV c P) {V : Addr → Array Value → Prop} {v : Value} (p : P.p V v) : IsPart v c := by
  cases x with
  | none => cases p; exact .none
  | int i => obtain ⟨t, rfl⟩ := p; exact .int i t
theorem pair_pick {F : VP → Value → Prop} {Ps : List VP} {xs : Array Value} (z : Paired F Ps xs.toList) : ∀ l : List Nat, Paired F (l.filterMap (Ps[·]?)) (l.filterMap (xs[·]?))
  | [] => .nil
  | i :: r => by
    have ih := pair_pick z r
    simp only [List.filterMap_cons]
    cases hx : xs[i]? with
    | none =>
      cases hp : Ps[i]? with
      | none => exact ih
      | some P => obtain ⟨b, q, _⟩ := Paired.get z i hp; rw [Array.getElem?_toList, hx] at q; cases q
    | some v =>
      obtain ⟨P, q, f⟩ := Paired.getR z i (by rw [Array.getElem?_toList]; exact hx)
      rw [q]
      exact .cons f ih
/-- what a slice picks -/
def pick {α : Type} (l : List α) (lo hi : Option Int) : List α := ((sliceRange (sliceBounds lo hi none l.length).1 (sliceBounds lo hi none l.length).2.1 (sliceBounds lo hi none l.length).2.2).filterMap (l[·]?))
theorem Ev.slice {a : Expr} {lo hi : Option Expr} {p pos : Pos} {Ps : List VP} {cl ch : Option Int} (x : Ev prog w A env hs h a (ListV Ps)) (hz : Ps.length ≤ sizeLine) (y : EvPart prog w A env hs h lo cl) (z : EvPart prog w A env hs h hi ch)
    (ht : ∀ o r, letTemporaryGo a o r = pure () := by intro _ _; rfl) :
    Ev prog w A env hs h (.Subscript a (.Slice lo hi none p) pos) (ListV (pick Ps cl ch)) := fun s E e od => by
  obtain ⟨P, cp, y⟩ := y
  obtain ⟨P', cp', z⟩ := z
  refine wpAny_Subscript_list_slice (Sv.go (x.at e) od fun v s₁ px k₁ => Sv.go (y.at (e.trans (kpExt k₁))) (od.kp k₁) fun u s₂ py k₂ => Sv.go (z.at (e.trans (kpExt (kpTrans k₁ k₂)))) ((od.kp k₁).kp k₂) fun u' s₃ pz k₃ => ?_) ht
  obtain ⟨o, xs, rfl, l, q⟩ := VP.kp (ListV Ps) (kpTrans k₂ k₃) px
  have e1 := q.length
  have od₃ := ((od.kp k₁).kp k₂).kp k₃
  have e2 : xs.size = Ps.length := by rw [← Array.length_toList, ← e1]
  refine ⟨o, xs, cl, ch, rfl, l.2, by rw [e2]; exact hz, cp.is py, cp'.is pz, ⟨_, slicePick xs cl ch Option.none, rfl, ⟨od₃.newer (Nat.le_succ _), ?_⟩, ?_⟩, kpTrans (kpTrans k₁ k₂) (kpTrans k₃ (kpOf ((Ext.push _ _).trans (Ext.push _ _))))⟩
  · exact ⟨_, by rw [← Heap.size_push]; exact Heap.get?_push_size _ rfl, rfl, 0, rfl⟩
  · unfold slicePick pick
    rw [e2]
    exact pair_pick (Paired.imp (fun P _ y => P.ext ((Ext.push _ _).trans (Ext.push _ _)) y) q) _
end
end Mine
end

section
open PySem PySem.Calls PyProof.Rows
set_option maxRecDepth 100000
set_option linter.unusedVariables false
namespace Mine

/-- the modules' names, as far as the call reads them -/
structure GC (mg mb : Str → Option Value) (h : Heap) : Prop where
  g : h.Ns mainGlobals mg
  b : h.Ns builtinsNs mb
  bt : ∀ x : Str, x ≠ "__name__" → mb x = bootBuiltins x
  lim : h.NoLimit
theorem GC.ext {mg mb : Str → Option Value} {h h' : Heap} (x : GC mg mb h) (k : Ext h h') : GC mg mb h' := ⟨x.g.keeps k, x.b.keeps k, x.bt, x.lim.keeps k⟩

section
variable {prog : Program} {w : World} {A : Around} {hs : List Addr} {h : Heap} {env : Env} {mg mb : Str → Option Value}

theorem Ev.name {x : Str} {pos : Pos} {P : VP} (k : Sv prog w A hs h (loadName env x) P) (hd : (x == ("__debug__" : Str)) = false := by decide) : Ev prog w A env hs h (.Name x pos) P :=
  fun s E e od => wpAny_Name (k s E e od) hd
theorem Ev.glob {x : Str} {pos : Pos} {v : Value} (G : GC mg mb h) (hv : mg x = some v) (hk : env.scope.kind = .function) (hx : env.kindOf x = some .globalImplicit) (hg : env.globals = mainGlobals)
    (hd : (x == ("__debug__" : Str)) = false := by decide) : Ev prog w A env hs h (.Name x pos) (IsV v) := fun s E e od =>
  Name_function_global hk hx (loadGlobal_global (show s.heap.Ns env.globals mg from hg ▸ (G.ext e).g) hv ⟨rfl, kpRefl s⟩) hd
theorem Ev.builtin {x : Str} {pos : Pos} {v : Value} (G : GC mg mb h) (hn : mg x = none) (hv : bootBuiltins x = some v) (hk : env.scope.kind = .function) (hx : env.kindOf x = some .globalImplicit) (hg : env.globals = mainGlobals) (hb : env.builtins = builtinsNs)
    (hne : x ≠ "__name__" := by decide) (hd : (x == ("__debug__" : Str)) = false := by decide) : Ev prog w A env hs h (.Name x pos) (IsV v) := fun s E e od =>
  Name_function_global hk hx (loadGlobal_builtin (show s.heap.Ns env.globals mg from hg ▸ (G.ext e).g) hn (show s.heap.Ns env.builtins mb from hb ▸ (G.ext e).b) ((G.bt x hne).trans hv) ⟨rfl, kpRefl s⟩) hd

/-! calls of built-ins -/
def CallB (prog : Program) (w : World) (A : Around) (hs : List Addr) (f : Value) (Ps : List VP) (R : VP) : Prop :=
  ∀ h vs, Paired (fun (P : VP) x => P.p (LV hs h) x) Ps vs → Sv prog w A hs h (call f vs) R
theorem Ev.callB {x : Str} {np pos : Pos} {id : String} {a : Expr} {rest : List Expr} {Ps : List VP} {R : VP} (hf : Ev prog w A env hs h (.Name x np) (IsV (.builtin id))) (l : Lv prog w A hs h (spliced (backTo pos (starEach (a :: rest) env))) Ps)
    (c : CallB prog w A hs (.builtin id) Ps R) (he : starEach (a :: rest) env = (false, eval a env) :: starEach rest env := by rfl)
    (hplain : (backTo pos (starEach rest env)).any (·.1) = false := by rfl) : Ev prog w A env hs h (.Call (.Name x np) (a :: rest) [] pos) R := fun s E e od => by
  refine Call_ (Sv.go (hf.at e) od fun v s₁ p k => ?_)
  obtain rfl : v = _ := p
  refine callWith_builtin1 (Lv.go (l.at (e.trans (kpExt k))) (od.kp k) fun vs s₂ q k₂ => ?_) he hplain
  exact Sv.go (c s₂.heap vs q) ((od.kp k).kp k₂) fun r s₃ z k₃ => ⟨z, kpTrans (kpTrans k k₂) k₃⟩
theorem Ev.callT {x : Str} {np pos : Pos} {id : String} {a : Expr} {rest : List Expr} {Ps : List VP} {R : VP} (hf : Ev prog w A env hs h (.Name x np) (IsV (.type id))) (l : Lv prog w A hs h (spliced (backTo pos (starEach (a :: rest) env))) Ps)
    (c : CallB prog w A hs (.type id) Ps R) (he : starEach (a :: rest) env = (false, eval a env) :: starEach rest env := by rfl)
    (hplain : (backTo pos (starEach rest env)).any (·.1) = false := by rfl) : Ev prog w A env hs h (.Call (.Name x np) (a :: rest) [] pos) R := fun s E e od => by
  refine Call_ (Sv.go (hf.at e) od fun v s₁ p k => ?_)
  obtain rfl : v = _ := p
  refine callWith_type1 (Lv.go (l.at (e.trans (kpExt k))) (od.kp k) fun vs s₂ q k₂ => ?_) he hplain
  exact Sv.go (c s₂.heap vs q) ((od.kp k).kp k₂) fun r s₃ z k₃ => ⟨z, kpTrans (kpTrans k k₂) k₃⟩
/-- a call of a def of the text -/
def CallF (prog : Program) (w : World) (A : Around) (hs : List Addr) (h : Heap) (f : Addr) (Ps : List VP) (kw : List (Str × VP)) (R : VP) : Prop :=
  (∃ o fd, h.get? f = some o ∧ o.data = .func fd) ∧ ∀ h' vs ks, Ext h h' → Paired (fun (P : VP) x => P.p (LV hs h') x) Ps vs → Paired (fun (P : VP) x => P.p (LV hs h') x) (kw.map (·.2)) ks → Sv prog w A hs h' (call (.ref f) vs ((kw.map (·.1)).zip ks)) R
theorem CallF.ext {h' : Heap} {f : Addr} {Ps : List VP} {kw : List (Str × VP)} {R : VP} (x : CallF prog w A hs h f Ps kw R) (k : Ext h h') : CallF prog w A hs h' f Ps kw R :=
  ⟨let ⟨o, fd, a, b⟩ := x.1; ⟨o, fd, k _ _ a, b⟩, fun h'' vs ks e => x.2 h'' vs ks (k.trans e)⟩
theorem Ev.callF {x : Str} {np pos : Pos} {f : Addr} {a : Expr} {rest : List Expr} {Ps : List VP} {R : VP} (hf : Ev prog w A env hs h (.Name x np) (IsV (.ref f))) (l : Lv prog w A hs h (spliced (backTo pos (starEach (a :: rest) env))) Ps)
    (c : CallF prog w A hs h f Ps [] R) (he : starEach (a :: rest) env = (false, eval a env) :: starEach rest env := by rfl) :
    Ev prog w A env hs h (.Call (.Name x np) (a :: rest) [] pos) R := fun s E e od => by
  refine Call_ (Sv.go (hf.at e) od fun v s₁ p k => ?_)
  obtain rfl : v = _ := p
  obtain ⟨o, fd, ho, hdat⟩ := c.1
  refine callWith_def hdat (Lv.go (l.at (e.trans (kpExt k))) (od.kp k) fun vs s₂ q k₂ => ?_) he
  have e₂ := e.trans (kpExt (kpTrans k k₂))
  exact ⟨e₂ _ _ ho, Sv.go (c.2 s₂.heap vs [] e₂ q .nil) ((od.kp k).kp k₂) fun r s₃ z k₃ => ⟨z, kpTrans (kpTrans k k₂) k₃⟩⟩
/-- the same, its last argument by a keyword -/
theorem Ev.callK {x y : Str} {np pos : Pos} {f : Addr} {a b : Expr} {rest : List Expr} {kpos : Pos} {Ps : List VP} {K R : VP} (hf : Ev prog w A env hs h (.Name x np) (IsV (.ref f))) (l : Lv prog w A hs h (spliced (backTo pos (starEach (a :: rest) env))) Ps) (kx : Ev prog w A env hs h b K)
    (c : CallF prog w A hs h f Ps [(y, K)] R)
    (he : backTo pos (starEach (a :: rest) env) = (false, eval a env) :: backTo pos (starEach rest env) := by rfl)
    (hkw : backToKw pos (keywordEach [⟨some y, b, kpos⟩] env) = [(some y, do let v ← eval b env; standAt pos; pure v)] := by rfl) :
    Ev prog w A env hs h (.Call (.Name x np) (a :: rest) [⟨some y, b, kpos⟩] pos) R := fun s E e od => by
  refine wpAny_Call_Name_kw (Sv.go (hf.at e) od fun v s₁ p k => ?_)
  obtain rfl : v = _ := p
  obtain ⟨o, fd, ho, hdat⟩ := c.1
  rw [hkw, he]
  refine callWith_def_kw hdat (evalArgs_kw rfl ?_)
  rw [← he]
  refine Lv.go (l.at (e.trans (kpExt k))) (od.kp k) fun vs s₂ q k₂ => ?_
  refine wpAny_evalAll_cons (wpAny_bind (Sv.go (kx.at (e.trans (kpExt (kpTrans k k₂)))) ((od.kp k).kp k₂) fun kv s₃ z k₃ => wpAny_bind (wpAny_standAt (wpAny_pure (wpAny_evalAll_nil ?_)))))
  have e₃ := e.trans (kpExt (kpTrans (kpTrans k k₂) k₃))
  exact ⟨e₃ _ _ ho, Sv.go (c.2 s₃.heap vs [kv] e₃ (Paired.kp k₃ q) (.cons z .nil)) (((od.kp k).kp k₂).kp k₃) fun r s₄ z k₄ => ⟨z, kpTrans (kpTrans (kpTrans k k₂) k₃) k₄⟩⟩
end

/-! the frame of a call of a def: its names, the lists that it writes to (M), each told by what it holds -/
abbrev hsOf (M : List (Addr × List VP)) : List Addr := M.map (·.1)
structure FS (env : Env) (s₀ : Shared) (M : List (Addr × List VP)) (hr : Heap) (s : Shared) (Γ : List (Str × VP)) : Prop where
  inn : ∃ m cm, InCallC s₀ env.locals m env.cells cm s ∧ ∀ x P, Γ.lookup x = some P → (env.kindOf x = some .local ∧ ∃ v, m x = some v ∧ P.p (LV (hsOf M) s.heap) v) ∨
    (env.kindOf x = some .cell ∧ ∃ c v, env.cells.lookup x = some c ∧ cm x = some v ∧ P.p (LV (hsOf M) s.heap) v)
  stays : ∀ b o, b ≠ env.locals → (∀ n c, env.cells.lookup n = some c → b ≠ c) → b ∉ hsOf M → hr.get? b = some o → s.heap.get? b = some o
  mu : ∀ p ∈ M, ∃ items, s.heap.PlainList p.1 items ∧ Paired (fun (P : VP) v => P.p (LV (hsOf M) s.heap) v) p.2 items.toList
structure EnvOk (env : Env) (hs : List Addr) : Prop where
  k : env.scope.kind = .function
  L : env.locals ∉ hs
  C : ∀ n c, env.cells.lookup n = some c → c ∉ hs
def Sto (env : Env) (x : Str) : Prop := env.kindOf x = some .local ∨ (env.kindOf x = some .cell ∧ (env.cells.lookup x).isSome = true)

section
variable {prog : Program} {w : World} {A : Around} {env : Env} {s₀ s s' : Shared} {hr : Heap} {M : List (Addr × List VP)} {Γ : List (Str × VP)}

theorem FS.old (F : FS env s₀ M hr s Γ) : Old (hsOf M) s.heap := fun a m => by
  obtain ⟨p, hp, rfl⟩ := List.mem_map.mp m
  obtain ⟨_, ⟨n, e⟩, _⟩ := F.mu p hp
  exact ⟨_, e⟩
theorem FS.kp (F : FS env s₀ M hr s Γ) (k : Keeps s s') : FS env s₀ M hr s' Γ := by
  obtain ⟨m, cm, I, hΓ⟩ := F.inn
  have e := kpExt k
  obtain ⟨h, t, rfl, _⟩ := k
  refine ⟨⟨m, cm, ⟨⟨?_, I.toInCall.ns.keeps e, fun b o x => e _ _ (I.toInCall.keep b o x), I.toInCall.fresh⟩, fun n c x => (I.cell n c x).keeps e, I.apart, I.above⟩, fun x P q => ?_⟩, fun b o h1 h2 h3 x => e _ _ (F.stays b o h1 h2 h3 x), fun p hp => ?_⟩
  · obtain ⟨h₁, t₁, r⟩ := I.toInCall.same
    exact ⟨h, t, by rw [r]⟩
  · rcases hΓ x P q with ⟨a, v, b, c⟩ | ⟨a, c, v, b, d, f⟩
    · exact .inl ⟨a, v, b, P.ext e c⟩
    · exact .inr ⟨a, c, v, b, d, P.ext e f⟩
  · obtain ⟨items, x, y⟩ := F.mu p hp
    exact ⟨items, x.at fun o q => e _ _ q, Paired.imp (fun P _ z => P.ext e z) y⟩
theorem FS.rebase (F : FS env s₀ M hr s Γ) : FS env s₀ M s.heap s Γ := ⟨F.inn, fun _ _ _ _ _ e => e, F.mu⟩
theorem FS.back {Δ : List (Str × VP)} {M' : List (Addr × List VP)} (F : FS env s₀ M hr s Γ) (G : FS env s₀ M' s.heap s' Δ) (hM : hsOf M' = hsOf M) : FS env s₀ M' hr s' Δ :=
  ⟨G.inn, fun b o h1 h2 h3 e => G.stays b o h1 h2 h3 (F.stays b o h1 h2 (hM ▸ h3) e), G.mu⟩
theorem FS.sub {Δ : List (Str × VP)} (F : FS env s₀ M hr s Γ) (k : ∀ x P, Δ.lookup x = some P → Γ.lookup x = some P) : FS env s₀ M hr s Δ :=
  ⟨let ⟨m, cm, I, h⟩ := F.inn; ⟨m, cm, I, fun x P q => h x P (k x P q)⟩, F.stays, F.mu⟩
theorem FS.ext0 (F : FS env s₀ M hr s Γ) : Ext s₀.heap s.heap := let ⟨_, _, I, _⟩ := F.inn; I.toInCall.keep
theorem FS.keeps0 (F : FS env s₀ M hr s Γ) : Keeps s₀ s := by
  obtain ⟨m, cm, I, _⟩ := F.inn
  obtain ⟨h, t, r⟩ := I.toInCall.same
  exact ⟨h, t, r, fun b o e => by have := I.toInCall.keep b o e; rw [r] at this; exact this⟩

theorem FS.var (F : FS env s₀ M hr s Γ) {x : Str} {P : VP} (q : Γ.lookup x = some P) (hk : env.scope.kind = .function) : Sv prog w A (hsOf M) s.heap (loadName env x) P := fun s' E e od => by
  obtain ⟨m, cm, I, h⟩ := F.inn
  rcases h x P q with ⟨a, v, b, c⟩ | ⟨a, c, v, b, d, f⟩
  · exact wpAny_loadName_local hk a (I.toInCall.ns.keeps e) b ⟨P.ext e c, kpRefl _⟩
  · exact wpAny_loadName_cell hk a b ((d ▸ I.cell x c b).keeps e) ⟨P.ext e f, kpRefl _⟩
theorem FS.ev (F : FS env s₀ M hr s Γ) {x : Str} {pos : Pos} {P : VP} (q : Γ.lookup x = some P) (hk : env.scope.kind = .function) (hd : (x == ("__debug__" : Str)) = false := by decide) : Ev prog w A env (hsOf M) s.heap (.Name x pos) P := Ev.name (F.var q hk) hd

/-- a heap in which the lists that are not written to stay -/
theorem lv_ns {hs : List Addr} {h h' : Heap} {L : Addr} {m : Str → Option Value} (hn : h.Ns L m) (k : ∀ b o, b ≠ L → h.get? b = some o → h'.get? b = some o) (a : Addr) (i : Array Value) (l : LV hs h a i) : LV hs h' a i := by
  refine ⟨l.1, ?_⟩
  obtain ⟨o, e, c, n, d⟩ := l.2
  refine ⟨o, k a o ?_ e, c, n, d⟩
  rintro rfl
  obtain ⟨o', es, ep, e', d', _⟩ := hn
  rw [e] at e'; cases e'
  rw [d] at d'; cases d'
theorem lv_cell {hs : List Addr} {h h' : Heap} {c : Addr} {x : Option Value} (hn : h.IsCell c x) (k : ∀ b o, b ≠ c → h.get? b = some o → h'.get? b = some o) (a : Addr) (i : Array Value) (l : LV hs h a i) : LV hs h' a i := by
  refine ⟨l.1, ?_⟩
  obtain ⟨o, e, cc, n, d⟩ := l.2
  refine ⟨o, k a o ?_ e, cc, n, d⟩
  rintro rfl
  obtain ⟨o', e', d'⟩ := hn
  rw [e] at e'; cases e'
  rw [d] at d'; cases d'

theorem FS.storeK (F : FS env s₀ M hr s Γ) {x : Str} {v : Value} {P : VP} {E : Value → Shared → Prop} {Q : Unit → Shared → Prop} (ok : EnvOk env (hsOf M))
    (hx : Sto env x) (hP : P.p (LV (hsOf M) s.heap) v)
    (h : ∀ s', FS env s₀ M hr s' ((x, P) :: Γ) → (∀ a i, LV (hsOf M) s.heap a i → LV (hsOf M) s'.heap a i) → Q () s') : wpAny (model prog w) A (storeName env x v) Q E s := by
  obtain ⟨m, cm, I, hΓ⟩ := F.inn
  have hk := ok.k
  rcases hx with hl | ⟨hl, hc⟩
  · refine wpAny_storeName_local hl I.toInCall.ns (fun h' hn hs' => h _ ?_ (lv_ns I.toInCall.ns fun b o hb e => hs'.extBut b o hb e)) (by rw [hk]; rfl)
    have up : ∀ b o, b ≠ env.locals → s.heap.get? b = some o → h'.get? b = some o := fun b o hb e => hs'.extBut b o hb e
    have lv : ∀ a i, LV (hsOf M) s.heap a i → LV (hsOf M) h' a i := lv_ns I.toInCall.ns up
    refine ⟨⟨_, cm, ⟨⟨?_, hn, fun b o e => up b o (Nat.ne_of_lt (Nat.lt_of_lt_of_le (Heap.lt_size e) I.toInCall.fresh)) (I.toInCall.keep b o e), I.toInCall.fresh⟩, fun n c q => (I.cell n c q).sameBut hs' (Nat.ne_of_gt (I.above n c (mem_of_lookup q))), I.apart, I.above⟩, fun y P' q => ?_⟩,
      fun b o h1 h2 h3 e => up b o h1 (F.stays b o h1 h2 h3 e), fun p hp => ?_⟩
    · obtain ⟨h₁, t₁, r⟩ := I.toInCall.same
      exact ⟨h', s.toks + 1, by rw [r]⟩
    · rw [List.lookup_cons] at q
      cases hy : y == x with
      | true =>
        rw [hy] at q
        cases q
        have : y = x := by simpa using hy
        subst this
        exact .inl ⟨hl, v, by simp, P.mono lv hP⟩
      | false =>
        rw [hy] at q
        have hne : ¬ y = x := by simpa using hy
        rcases hΓ y P' q with ⟨a, u, b, c⟩ | ⟨a, c, u, b, d, f⟩
        · exact .inl ⟨a, u, by simpa [hne] using b, P'.mono lv c⟩
        · exact .inr ⟨a, c, u, b, d, P'.mono lv f⟩
    · obtain ⟨items, x, y⟩ := F.mu p hp
      exact ⟨items, x.at fun o q => up _ _ (fun z => ok.L (z ▸ List.mem_map_of_mem hp)) q, Paired.imp (fun P _ z => P.mono lv z) y⟩
  · obtain ⟨c, hc⟩ := Option.isSome_iff_exists.mp hc
    have hLc := I.above x c (mem_of_lookup hc)
    refine wpAny_storeName_cell hk hl hc (I.cell x c hc) fun h' hv hs' => h _ ?_ (lv_cell (I.cell x c hc) fun b o hb e => hs'.extBut b o hb e)
    have up : ∀ b o, b ≠ c → s.heap.get? b = some o → h'.get? b = some o := fun b o hb e => hs'.extBut b o hb e
    have lv : ∀ a i, LV (hsOf M) s.heap a i → LV (hsOf M) h' a i := lv_cell (I.cell x c hc) up
    refine ⟨⟨m, (fun y => if y = x then some v else cm y), ⟨⟨?_, I.toInCall.ns.sameBut hs' (Nat.ne_of_lt hLc), fun b o e => up b o (Nat.ne_of_lt (Nat.lt_trans (Nat.lt_of_lt_of_le (Heap.lt_size e) I.toInCall.fresh) hLc)) (I.toInCall.keep b o e), I.toInCall.fresh⟩, fun n c' q => ?_, I.apart, I.above⟩, fun y P' q => ?_⟩,
      fun b o h1 h2 h3 e => up b o (h2 x c hc) (F.stays b o h1 h2 h3 e), fun p hp => ?_⟩
    · obtain ⟨h₁, t₁, r⟩ := I.toInCall.same
      exact ⟨h', s.toks, by rw [r]⟩
    · by_cases hn : n = x
      · subst hn; rw [hc] at q; cases q; simpa using hv
      · have hcc : c' ≠ c := fun z => hn (name_of_addr I.apart (mem_of_lookup q) (z ▸ mem_of_lookup hc))
        simpa [hn] using (I.cell n c' q).sameBut hs' hcc
    · rw [List.lookup_cons] at q
      cases hy : y == x with
      | true =>
        rw [hy] at q
        cases q
        have : y = x := by simpa using hy
        subst this
        exact .inr ⟨hl, c, v, hc, by simp, P.mono lv hP⟩
      | false =>
        rw [hy] at q
        have hne : ¬ y = x := by simpa using hy
        rcases hΓ y P' q with ⟨a, u, b, d⟩ | ⟨a, c', u, b, d, f⟩
        · exact .inl ⟨a, u, b, P'.mono lv d⟩
        · exact .inr ⟨a, c', u, b, by simpa [hne] using d, P'.mono lv f⟩
    · obtain ⟨items, x', y⟩ := F.mu p hp
      exact ⟨items, x'.at fun o q => up _ _ (fun z => ok.C x c hc (z ▸ List.mem_map_of_mem hp)) q, Paired.imp (fun P _ z => P.mono lv z) y⟩
theorem FS.store (F : FS env s₀ M hr s Γ) {x : Str} {v : Value} {P : VP} {E : Value → Shared → Prop} {Q : Unit → Shared → Prop} (ok : EnvOk env (hsOf M))
    (hx : Sto env x) (hP : P.p (LV (hsOf M) s.heap) v)
    (h : ∀ s', FS env s₀ M hr s' ((x, P) :: Γ) → Q () s') : wpAny (model prog w) A (storeName env x v) Q E s := F.storeK ok hx hP fun s' F' _ => h s' F'
end
end Mine
end

section
open PySem PySem.Calls PyProof.Rows
set_option maxRecDepth 100000
set_option linter.unusedVariables false
namespace Mine

/-- an object that no store of a name turns -/
def Still (o : Obj) : Prop := (∀ es ep, o.data ≠ .dict es ep) ∧ ∀ v, o.data ≠ .cell v

/-- an iterable: what its items are -/
def Src (prog : Program) (w : World) (A : Around) (env : Env) (hs : List Addr) (h : Heap) (iter : Expr) (Ps : List VP) : Prop :=
  ∀ (s : Shared) (E : Value → Shared → Prop) (Q : Value → Shared → Prop), Ext h s.heap → Old hs s.heap →
    (∀ I fp P St s₂, Keeps s s₂ → s.heap.get? I = none → (∃ o, s₂.heap.get? I = some o) → Walks prog w A I fp [I] Ps.length P St → St 0 s₂.heap →
      (∀ b ∈ fp, b ∉ hs ∧ ∃ o, s₂.heap.get? b = some o ∧ Still o) →
      (∀ i h' it, St i h' → ¬ h'.IsList I it) →
      (∀ i v Pi h', P i v → Ps[i]? = some Pi → (∀ a it, LV hs s₂.heap a it → LV hs h' a it) → Pi.p (LV hs h') v) → Q (.ref I) s₂) →
    wpAny (model prog w) A (eval iter env) (fun xv s₁ => wpAny (model prog w) A (pyIter xv) Q E s₁) E s

section
variable {prog : Program} {w : World} {A : Around} {hs : List Addr} {h : Heap} {env : Env}

theorem Paired.imp' {α β : Type} {F G : α → β → Prop} : ∀ {l₁ : List α} {l₂ : List β}, (∀ a ∈ l₁, ∀ b, F a b → G a b) → Paired F l₁ l₂ → Paired G l₁ l₂
  | _, _, _, .nil => .nil
  | _, _, k, .cons h t => .cons (k _ List.mem_cons_self _ h) (Paired.imp' (fun a m => k a (List.mem_cons_of_mem _ m)) t)

theorem Src.at {iter : Expr} {Ps : List VP} (x : Src prog w A env hs h iter Ps) {h' : Heap} (k : Ext h h') : Src prog w A env hs h' iter Ps := fun s E Q e => x s E Q (k.trans e)

theorem src_list {iter : Expr} {Ps : List VP} (hh : A.handled = none) (x : Ev prog w A env hs h iter (ListV Ps)) : Src prog w A env hs h iter Ps := fun s E Q e od k => by
  refine Sv.go (x.at e) od fun v s₁ p k₁ => ?_
  obtain ⟨a, items, rfl, l, q⟩ := p
  have hne : a < s₁.heap.objs.size := by obtain ⟨_, e, _⟩ := l.2; exact Heap.lt_size e
  have hn : Ps.length = items.size := by rw [q.length, Array.length_toList]
  refine wpAny_pyIter_list l.2 ?_
  refine k s₁.heap.objs.size [s₁.heap.objs.size, a] (fun i v => items[i]? = some v) (fun i h => h.IsListIter s₁.heap.objs.size a i ∧ h.IsList a items) _ (kpTrans k₁ (kpOf (Ext.push _ _))) ?_ ⟨_, Heap.get?_push_size _ rfl⟩ (hn ▸ Walks.list hh _ a (Nat.ne_of_lt hne) items)
    ⟨⟨_, Heap.get?_push_size _ rfl, rfl, rfl⟩, (LV.ext (Ext.push _ _) _ _ l).2⟩ ?_ ?_ ?_
  · cases e : s.heap.get? s₁.heap.objs.size with
    | none => rfl
    | some o => exact absurd (Heap.lt_size (kpExt k₁ _ _ e)) (Nat.lt_irrefl _)
  · intro b hb
    rcases List.mem_cons.mp hb with rfl | hb
    · exact ⟨(od.kp k₁).new, _, Heap.get?_push_size _ rfl, (fun _ _ z => by cases z), fun _ z => by cases z⟩
    · rw [List.mem_singleton.mp hb]
      obtain ⟨o, eo, c, n, d⟩ := l.2
      exact ⟨l.1, o, Ext.push _ _ _ _ eo, (fun _ _ z => by rw [d] at z; cases z), fun _ z => by rw [d] at z; cases z⟩
  · rintro i h' it ⟨⟨o, e1, c1, _⟩, _⟩ ⟨o', e2, c2, _⟩
    rw [e1] at e2; cases e2
    rw [c1] at c2; simp at c2
  · intro i v Pi h' hv hP hl
    obtain ⟨u, e1, e2⟩ := Paired.get q i hP
    rw [Array.getElem?_toList, hv] at e1
    cases e1
    exact Pi.mono hl (Pi.ext (Ext.push _ _) e2)

/-- range(a, a + n) made and walked -/
def EvRange (prog : Program) (w : World) (A : Around) (env : Env) (hs : List Addr) (h : Heap) (iter : Expr) (a : Int) (n : Nat) : Prop :=
  ∀ (s : Shared) (E : Value → Shared → Prop), Ext h s.heap → Old hs s.heap → wpAny (model prog w) A (eval iter env) (fun v s' => (∃ r b t u z, v = .ref r ∧ IsRange s'.heap r a b 1 t u z ∧ Builtin.Range.small a b 1 = true ∧ Builtin.Range.rangeSize a b 1 = (n : Int)) ∧ Keeps s s') E s

theorem src_range {iter : Expr} {a : Int} {n : Nat} (hh : A.handled = none) (x : EvRange prog w A env hs h iter a n) : Src prog w A env hs h iter ((List.range n).map fun i : Nat => IntV (a + (i : Int))) := fun s E Q e od k => by
  refine wpAny_mono (x s E e od) (fun v s₁ ⟨⟨r, b, t, u, z, e1, hr, hsm, hn⟩, k₁⟩ => ?_) fun _ _ y => y
  subst e1
  refine wpAny_pyIter_range hr hsm ?_
  have hl : ((List.range n).map fun i : Nat => IntV (a + (i : Int))).length = n := by simp
  refine k s₁.heap.objs.size [s₁.heap.objs.size] (fun i v => ∃ t, v = .int (a + (i : Int)) t) (fun i h => IsRangeIter h s₁.heap.objs.size (a + (i : Nat) * 1) ((n : Int) - (i : Nat)) 1) _ (kpTrans k₁ (kpOf (Ext.push _ _))) ?_ ⟨_, Heap.get?_push_size _ rfl⟩
    (by rw [hl]; exact LCg.range_walks hh a n) (by show IsRangeIter _ _ _ _ _; rw [hn]; simpa using Heap.get?_push_size _ rfl) ?_ ?_ ?_
  · cases e : s.heap.get? s₁.heap.objs.size with
    | none => rfl
    | some o => exact absurd (Heap.lt_size (kpExt k₁ _ _ e)) (Nat.lt_irrefl _)
  · intro b hb
    rw [List.mem_singleton.mp hb]
    exact ⟨(od.kp k₁).new, _, Heap.get?_push_size _ rfl, (fun _ _ z => by cases z), fun _ z => by cases z⟩
  · rintro i h' it e1 ⟨o', e2, c2, _⟩
    have e1' : h'.get? _ = some _ := e1
    rw [e1'] at e2; cases e2
    simp at c2
  · rintro i v Pi h' ⟨t, rfl⟩ hP _
    rw [List.getElem?_map] at hP
    cases hi : (List.range n)[i]? with
    | none => rw [hi] at hP; cases hP
    | some j =>
      rw [hi] at hP; cases hP
      obtain ⟨_, rfl⟩ := List.getElem?_eq_some_iff.mp hi
      rw [List.getElem_range]
      exact ⟨t, rfl⟩

/-- told without the heap -/
def Scal (P : VP) : Prop := ∀ V V' v, P.p V v → P.p V' v
theorem scal_int (n : Int) : Scal (IntV n) := fun _ _ _ h => h
theorem scal_bool (n : Bool) : Scal (BoolV n) := fun _ _ _ h => h
theorem scal_flt (n : UInt64) : Scal (FltV n) := fun _ _ _ h => h

abbrev testTree (ifs : List Expr) (cenv : Env) : Sem Bool := forIn ifs true fun c r => if r = true then do let ok ← isTrue c cenv (eval c cenv); pure (ForInStep.yield ok) else pure (ForInStep.yield r)

theorem tests_nil {cenv : Env} : Tv prog w A hs h (testTree [] cenv) true := fun s E e od => wpAny_tests_nil ⟨rfl, kpRefl s⟩
theorem tests_one {cenv : Env} {c : Expr} {b : Bool} (x : Et prog w A cenv hs h c b) : Tv prog w A hs h (testTree [c] cenv) b := fun s E e od => wpAny_tests_one (x s E e od)

theorem paired_of_snoc {Ps : List VP} {t : Nat → Bool} {R : Nat → VP} {i : Nat} {ys : List Value} {y : Value} (ht : t i = true) (z : Paired (fun (P : VP) v => P.p (fun _ _ => False) v) (((List.range i).filter t).map R) ys) (hy : (R i).p (fun _ _ => False) y) :
    Paired (fun (P : VP) v => P.p (fun _ _ => False) v) (((List.range (i + 1)).filter t).map R) (ys ++ [y]) := by
  rw [List.range_succ, List.filter_append, List.map_append]
  simp only [List.filter_cons, ht, if_true, List.filter_nil, List.map_cons, List.map_nil]
  exact Paired.app z (.cons hy .nil)
theorem paired_of_skip {t : Nat → Bool} {R : Nat → VP} {i : Nat} {ys : List Value} (ht : t i = false) (z : Paired (fun (P : VP) v => P.p (fun _ _ => False) v) (((List.range i).filter t).map R) ys) :
    Paired (fun (P : VP) v => P.p (fun _ _ => False) v) (((List.range (i + 1)).filter t).map R) ys := by
  rw [List.range_succ, List.filter_append, List.map_append]
  simp only [List.filter_cons, ht, List.filter_nil, List.map_nil, List.append_nil, Bool.false_eq_true, if_false]
  exact z

/-- one clause of a comprehension, from its iterator to its list -/
theorem comp_block {elt iter : Expr} {x : Str} {px : Pos} {ifs : List Expr} {scope : Scope} {cl : List (Str × Addr)} {pos : Pos} {Ps : List VP} {s₂ : Shared} {I : Addr} {fp : List Addr} {P : Nat → Value → Prop} {St : Nat → Heap → Prop}
    {E : Value → Shared → Prop} {RR : Value → Addr → Result → Shared → Prop} (t : Nat → Bool) (R : Nat → VP) (hR : ∀ i, Scal (R i)) (hsz : Ps.length ≤ sizeLine)
    (hcell : ∀ y ∈ scope.names, y.2 ≠ .cell) (hkind : scope.kind = .function) (hx : scope.names.lookup x = some .local)
    (W : Walks prog w A I fp [I] Ps.length P St) (hst : St 0 s₂.heap) (hfp : ∀ b ∈ fp, b ∉ hs ∧ ∃ o, s₂.heap.get? b = some o ∧ Still o)
    (hI : ∃ o, s₂.heap.get? I = some o) (hIL' : ∀ i h' it, St i h' → ¬ h'.IsList I it)
    (hP : ∀ i v Pi h', P i v → Ps[i]? = some Pi → (∀ a it, LV hs s₂.heap a it → LV hs h' a it) → Pi.p (LV hs h') v) (he : Ext h s₂.heap) (hI0 : h.get? I = none) (od : Old hs h)
    (test : ∀ i Pi C h₂, Ps[i]? = some Pi → Ext h h₂ → (∀ pos, Ev prog w A (compEnvC scope cl C env) hs h₂ (.Name x pos) Pi) → Tv prog w A hs h₂ (testTree ifs (compEnvC scope cl C env)) (t i))
    (body : ∀ i Pi C h₂, Ps[i]? = some Pi → t i = true → Ext h h₂ → (∀ pos, Ev prog w A (compEnvC scope cl C env) hs h₂ (.Name x pos) Pi) → Ev prog w A (compEnvC scope cl C env) hs h₂ elt (R i))
    (hd : (x == ("__debug__" : Str)) = false)
    (hRR : ∀ D C h' tk m', (∀ b o, b ≠ I → s₂.heap.get? b = some o → h'.get? b = some o) → s₂.heap.get? D = none → s₂.heap.get? C = none → D ≠ C → h'.Ns C m' →
      (∃ items, h'.PlainList D items ∧ Paired (fun (P : VP) v => P.p (fun _ _ => False) v) (((List.range Ps.length).filter t).map R) items.toList) → RR (.ref D) C (.ok .next) { s₂ with heap := h', toks := tk }) :
    wpAny (model prog w) A (newList []) (fun acc s₃ => wpAny (model prog w) A (newFunctionEnv scope env.globals cl [] env.qual none .none (some env)) (fun cenv s₄ =>
      codeAny (model prog w) A (.compStart (.ListComp elt [⟨.Name x px, iter, ifs, 0⟩] scope pos) 0 (.ref I) acc { cenv with scope := relabel scope env }) (RR acc cenv.locals) s₄) E s₃) E s₂ := by
  have hIL : ∀ a it, LV hs s₂.heap a it → a ≠ I := fun a it l z => hIL' 0 _ it hst (z ▸ l.2)
  refine wpAny_newObj_type (wpAny_newFunctionEnv hcell (by intro y hy; simp at hy) (fun h₁ hns₁ hsb₁ => ?_) hkind)
  dsimp only at hns₁ hsb₁ ⊢
  generalize hH2 : s₂.heap.push { cls := .type "list", dict := none, data := .seq ([] : List Value).toArray } = H2 at hns₁ hsb₁ ⊢
  have hC : H2.objs.size = s₂.heap.objs.size + 1 := by rw [← hH2, Heap.size_push]
  have hDC : s₂.heap.objs.size ≠ H2.objs.size := by rw [hC]; exact Nat.ne_of_lt (Nat.lt_succ_self _)
  have below : ∀ b, b < s₂.heap.objs.size → b ≠ H2.objs.size ∧ b ≠ s₂.heap.objs.size := fun b hb => ⟨by rw [hC]; exact Nat.ne_of_lt (Nat.lt_succ_of_lt hb), Nat.ne_of_lt hb⟩
  have fplt : ∀ b ∈ fp, b < s₂.heap.objs.size := fun b hb => let ⟨_, o, e, _⟩ := hfp b hb; Heap.lt_size e
  have hDf : s₂.heap.objs.size ∉ fp := fun hm => Nat.lt_irrefl _ (fplt _ hm)
  have hCf : H2.objs.size ∉ fp := fun hm => by have := fplt _ hm; rw [hC] at this; exact Nat.lt_irrefl _ (Nat.lt_of_succ_lt this)
  obtain ⟨oI, eI⟩ := hI
  have hIlt : I < s₂.heap.objs.size := Heap.lt_size eI
  have old : ∀ b o, s₂.heap.get? b = some o → h₁.get? b = some o := fun b o e => hsb₁.extBut b o (below b (Heap.lt_size e)).1 (Heap.get?_push_of_some _ (hH2 ▸ Heap.get?_push_of_some _ e))
  have hacc : h₁.PlainList s₂.heap.objs.size #[] := ⟨_, hsb₁.extBut _ _ hDC (Heap.get?_push_of_some _ (hH2 ▸ Heap.get?_push_size _ rfl))⟩
  have hst₁ : St 0 h₁ := W.frame _ _ _ hst fun b _ o e => old b o e
  have fresh : ∀ a, s₂.heap.objs.size ≤ a → s₂.heap.get? a = none := fun a ha => by
    cases e : s₂.heap.get? a with
    | none => rfl
    | some o' => exact absurd (Heap.lt_size e) (Nat.not_lt.mpr ha)
  have hCI : I ≠ H2.objs.size := (below I hIlt).1
  have hDI : I ≠ s₂.heap.objs.size := (below I hIlt).2
  have loop : ∀ s₃ : Shared, s₃ = { s₂ with heap := h₁, toks := s₂.toks + ([] : List (Str × Value)).length } →
      codeAny (model prog w) A (.compLoop (.ListComp elt [⟨.Name x px, iter, ifs, 0⟩] scope pos) 0 (.ref I) (.ref s₂.heap.objs.size) (compEnvC scope cl H2.objs.size env))
        (RR (.ref s₂.heap.objs.size) H2.objs.size) s₃ := by
    rintro s₃ rfl
    refine codeAny_compLoop_tests
      (fun k s' => ∃ h' tk i ys m', s' = { s₂ with heap := h', toks := tk } ∧ i ≤ Ps.length ∧ k = Ps.length + 1 - i ∧ ys.size ≤ i ∧ St i h' ∧ h'.Ns H2.objs.size m' ∧ h'.PlainList s₂.heap.objs.size ys ∧
        (∀ b o, b ≠ I → s₂.heap.get? b = some o → h'.get? b = some o) ∧ Paired (fun (P : VP) v => P.p (fun _ _ => False) v) (((List.range i).filter t).map R) ys.toList) ?_ (Ps.length + 1)
      ⟨h₁, _, 0, #[], _, rfl, Nat.zero_le _, rfl, Nat.le_refl _, hst₁, hns₁, hacc, fun b o _ e => old b o e, .nil⟩
    rintro k s' ⟨h', tk, i, ys, m', rfl, hi, rfl, hyl, hst', hn', hD', hk', hp'⟩
    by_cases hlt : i < Ps.length
    · refine W.item i _ _ _ hlt hst' fun v h₂ tk₂ hPv hst₂ hk₂ => ?_
      have hk₂' : ∀ b o, b ≠ I → h'.get? b = some o → h₂.get? b = some o := fun b o hb e => hk₂ b o (by simpa using hb) e
      have hPi : Ps[i]? = some Ps[i] := List.getElem?_eq_getElem hlt
      refine wpAny_assign_Name (wpAny_storeName_local (lookup_relabel_local hx) (hn'.at' fun o e => hk₂' _ o (Ne.symm hCI) e) (fun h₃ hn₃ hs₃ => ?_) (by simp [compEnvC, relabel, hkind]))
      have hst₃ : St (i + 1) h₃ := W.frame _ _ _ hst₂ fun b hb o e => hs₃.extBut b o (fun q => hCf (by have q' : b = H2.objs.size := q; rw [← q']; exact hb)) e
      have k₃ : ∀ b o, b ≠ I → s₂.heap.get? b = some o → h₃.get? b = some o := fun b o hb e => hs₃.extBut b o (below b (Heap.lt_size e)).1 (hk₂' b o hb (hk' b o hb e))
      have e₃ : Ext h h₃ := fun b o e => k₃ b o (fun q => by rw [q, hI0] at e; cases e) (he b o e)
      have hD₃ : h₃.PlainList s₂.heap.objs.size ys := hD'.at fun o e => hs₃.extBut _ o hDC (hk₂' _ o (Ne.symm hDI) e)
      have own : ∀ pos, Ev prog w A (compEnvC scope cl H2.objs.size env) hs h₃ (.Name x pos) Ps[i] := fun pos => Ev.name (fun s E e od => by
        refine wpAny_loadName_local (by simp [compEnvC, relabel, hkind]) (lookup_relabel_local hx) (hn₃.keeps e) (v := v) (by simp) ⟨?_, kpRefl s⟩
        exact hP i v _ _ hPv hPi fun a it l => LV.ext e _ _ ⟨l.1, let ⟨o, y, r⟩ := l.2; ⟨o, k₃ a o (hIL a it l) y, r⟩⟩) hd
      have od₃ : Old hs h₃ := od.ext e₃
      refine Tv.go (s := { s₂ with heap := h₃, toks := _ }) (test i _ _ h₃ hPi e₃ own) od₃ fun s₄ k₄ => ?_
      have e₄ := kpExt k₄
      obtain ⟨h₄, tk₄, rfl, _⟩ := k₄
      have hst₄ : St (i + 1) h₄ := W.frame _ _ _ hst₃ fun b _ o e => e₄ b o e
      cases ht : t i with
      | false =>
        simp only [Bool.false_eq_true, if_false]
        exact ⟨Ps.length + 1 - (i + 1), by omega, h₄, tk₄, i + 1, ys, _, rfl, hlt, rfl, Nat.le_succ_of_le hyl, hst₄, hn₃.keeps e₄, hD₃.at fun o e => e₄ _ o e, fun b o hb e => e₄ _ _ (k₃ b o hb e), paired_of_skip ht hp'⟩
      | true =>
        simp only [if_true]
        refine Sv.go (s := { s₂ with heap := h₄, toks := tk₄ }) (body i _ _ h₄ hPi ht (e₃.trans e₄) fun pos => (own pos).at e₄) (od₃.ext e₄) fun y s₅ q k₅ => ?_
        have e₅ := kpExt k₅
        obtain ⟨h₅, tk₅, rfl, _⟩ := k₅
        have hst₅ : St (i + 1) h₅ := W.frame _ _ _ hst₄ fun b _ o e => e₅ b o e
        have hD₅ : h₅.PlainList s₂.heap.objs.size ys := (hD₃.at fun o e => e₄ _ o e).at fun o e => e₅ _ o e
        refine wpAny_list_append_plain hD₅ (hsz := Nat.le_trans hyl (Nat.le_trans hi hsz)) fun h₆ hD₆ hs₆ => ?_
        refine ⟨Ps.length + 1 - (i + 1), by omega, h₆, tk₅, i + 1, ys.push y, _, rfl, hlt, rfl, by rw [Array.size_push]; omega, W.frame _ _ _ hst₅ fun b hb o e => hs₆.extBut b o (fun z => hDf (z ▸ hb)) e, (((hn₃.keeps e₄).keeps e₅).sameBut hs₆ (Ne.symm hDC)), hD₆, ?_, ?_⟩
        · exact fun b o hb e => hs₆.extBut b o (below b (Heap.lt_size e)).2 (e₅ _ _ (e₄ _ _ (k₃ b o hb e)))
        · rw [Array.toList_push]
          exact paired_of_snoc (Ps := Ps) ht hp' (hR i _ _ _ q)
    · obtain rfl : i = Ps.length := Nat.le_antisymm hi (Nat.not_lt.mp hlt)
      refine W.done _ _ _ hst' fun h₂ tk₂ hk₂ => ?_
      have hk₂' : ∀ b o, b ≠ I → h'.get? b = some o → h₂.get? b = some o := fun b o hb e => hk₂ b o (by simpa using hb) e
      exact hRR _ _ h₂ tk₂ _ (fun b o hb e => hk₂' b o hb (hk' b o hb e)) (fresh _ (Nat.le_refl _)) (fresh _ (by rw [hC]; exact Nat.le_succ _)) hDC (hn'.at' fun o e => hk₂' _ o (Ne.symm hCI) e) ⟨ys, hD'.at fun o e => hk₂' _ o (Ne.symm hDI) e, hp'⟩
  exact codeAny_compStart_list (loop _ rfl) (W.self 0 _ _ _ hst₁ (loop _ rfl))

theorem Ev.comp {elt iter : Expr} {x : Str} {px : Pos} {ifs : List Expr} {scope : Scope} {cl : List (Str × Addr)} {pos : Pos} {Ps : List VP} (t : Nat → Bool) (R : Nat → VP) (src : Src prog w A env hs h iter Ps) (hR : ∀ i, Scal (R i)) (hsz : Ps.length ≤ sizeLine)
    (hclos : closureFor scope env = pure cl) (hcell : ∀ y ∈ scope.names, y.2 ≠ .cell) (hkind : scope.kind = .function) (hnames : ∀ y ∈ scope.names, y.2 = .local → scope.names.lookup y.1 = some .local) (hx : scope.names.lookup x = some .local)
    (test : ∀ i Pi C h₂, Ps[i]? = some Pi → Ext h h₂ → (∀ pos, Ev prog w A (compEnvC scope cl C env) hs h₂ (.Name x pos) Pi) → Tv prog w A hs h₂ (testTree ifs (compEnvC scope cl C env)) (t i))
    (body : ∀ i Pi C h₂, Ps[i]? = some Pi → t i = true → Ext h h₂ → (∀ pos, Ev prog w A (compEnvC scope cl C env) hs h₂ (.Name x pos) Pi) → Ev prog w A (compEnvC scope cl C env) hs h₂ elt (R i))
    (hs' : ∀ x, foldedSetIterable iter env x = pure x := by intro _; rfl) (hd : (x == ("__debug__" : Str)) = false := by decide) :
    Ev prog w A env hs h (.ListComp elt [⟨.Name x px, iter, ifs, 0⟩] scope pos) (ListV (((List.range Ps.length).filter t).map R)) := fun s E e od => by
  rw [eval_ListComp]
  refine wpAny_comprehension_free (use := Option.none) rfl hs' hclos hkind hnames (src s E _ e od fun I fp P St s₂ k hI0 hI W hst hfp hIL hP => ?_)
  refine comp_block (h := s.heap) (RR := fun acc C => compPost (model prog w) A E Option.none _ acc C) t R hR hsz hcell hkind hx W hst hfp hI hIL hP (kpExt k) hI0 od
    (fun i Pi C h₂ a b c => test i Pi C h₂ a (e.trans b) c) (fun i Pi C h₂ a t b c => body i Pi C h₂ a t (e.trans b) c) hd ?_
  intro D C h' tk m' hk hD hC hDC hn ⟨items, hpl, hp⟩
  refine ⟨m', hn, fun h'' hs'' => ?_⟩
  have kk : Ext s.heap h'' := fun b o q => hs''.extBut b o (fun z => by have := kpExt k _ _ q; rw [z, hC] at this; cases this) (hk b o (fun z => by rw [z, hI0] at q; cases q) (kpExt k _ _ q))
  obtain ⟨h₂, t₂, r, _⟩ := id k
  refine ⟨⟨D, items, rfl, ⟨fun z => ?_, (hpl.at fun o e => hs''.extBut D o hDC e).isList⟩, Paired.imp' (fun P hP v q => ?_) hp⟩, ⟨h'', tk, by rw [r], kk⟩⟩
  · obtain ⟨o, q⟩ := od D z
    have := kpExt k _ _ q
    rw [hD] at this; cases this
  · obtain ⟨i, _, rfl⟩ := List.mem_map.mp hP
    exact hR _ _ _ _ q
end
end Mine
end

section
open PySem PySem.Calls PyProof.Rows
set_option maxRecDepth 100000
set_option linter.unusedVariables false
namespace Mine

section
variable {prog : Program} {w : World} {A : Around} {env : Env} {s₀ s : Shared} {hr : Heap} {M : List (Addr × List VP)} {Γ : List (Str × VP)} {E : Value → Shared → Prop} {Q : Flow → Shared → Prop}

theorem xs_nil (h : Q .next s) : wpAny (model prog w) A (execs [] env) Q E s := wpAny_execs_nil h
theorem x_assign {x : Str} {p pos : Pos} {e : Expr} {P : VP} (F : FS env s₀ M hr s Γ) (ok : EnvOk env (hsOf M)) (hx : Sto env x) (ev : Ev prog w A env (hsOf M) s.heap e P)
    (next : ∀ s', FS env s₀ M hr s' ((x, P) :: Γ) → Q .next s') (hs : swapsWith e (some (.Name x p)) pos.line env = pure false := by rfl) : wpAny (model prog w) A (exec (.Assign [.Name x p] e pos) env) Q E s :=
  wpAny_Assign_Name (Sv.go ev F.old fun v s₁ z k => (F.kp k).store ok hx z fun s₂ F₂ => next s₂ F₂) hs
theorem xs_seq {st : Stmt} {rest : List Stmt} (h : wpAny (model prog w) A (exec st env) (fun f s' => match f with | .next => wpAny (model prog w) A (execs rest env) Q E s' | f => Q f s') E s) : wpAny (model prog w) A (execs (st :: rest) env) Q E s := wpAny_execs_cons h
theorem xs_assign {x : Str} {p pos : Pos} {e : Expr} {P : VP} {rest : List Stmt} (F : FS env s₀ M hr s Γ) (ok : EnvOk env (hsOf M)) (hx : Sto env x) (ev : Ev prog w A env (hsOf M) s.heap e P)
    (next : ∀ s', FS env s₀ M hr s' ((x, P) :: Γ) → wpAny (model prog w) A (execs rest env) Q E s') (hs : swapsWith e (some (.Name x p)) pos.line env = pure false := by rfl) : wpAny (model prog w) A (execs (.Assign [.Name x p] e pos :: rest) env) Q E s :=
  wpAny_execs_cons (x_assign F ok hx ev next hs)
theorem xs_return {e : Expr} {pos : Pos} {rest : List Stmt} {P : VP} (F : FS env s₀ M hr s Γ) (ev : Ev prog w A env (hsOf M) s.heap e P) (h : ∀ v s', P.p (LV (hsOf M) s'.heap) v → FS env s₀ M hr s' Γ → Q (.ret v) s') :
    wpAny (model prog w) A (execs (.Return (some e) pos :: rest) env) Q E s := wpAny_execs_cons (wpAny_Return_some (Sv.go ev F.old fun v s₁ z k => h v s₁ z (F.kp k)))
theorem xs_if {e : Expr} {pos : Pos} {b : Bool} {body orelse rest : List Stmt} (F : FS env s₀ M hr s Γ) (ev : Et prog w A env (hsOf M) s.heap e b)
    (h1 : b = true → ∀ s', FS env s₀ M hr s' Γ → wpAny (model prog w) A (execs body env) (fun f s' => match f with | .next => wpAny (model prog w) A (execs rest env) Q E s' | f => Q f s') E s')
    (h2 : b = false → ∀ s', FS env s₀ M hr s' Γ → wpAny (model prog w) A (execs orelse env) (fun f s' => match f with | .next => wpAny (model prog w) A (execs rest env) Q E s' | f => Q f s') E s') :
    wpAny (model prog w) A (execs (.If e body orelse pos :: rest) env) Q E s := wpAny_execs_cons (wpAny_If (Tv.go ev F.old fun s₁ k => by
      cases b with
      | true => exact h1 rfl _ (F.kp k)
      | false => exact h2 rfl _ (F.kp k)))
theorem xs_if_skip {e : Expr} {pos : Pos} {body rest : List Stmt} (F : FS env s₀ M hr s Γ) (ev : Et prog w A env (hsOf M) s.heap e false)
    (h2 : ∀ s', FS env s₀ M hr s' Γ → wpAny (model prog w) A (execs rest env) Q E s') :
    wpAny (model prog w) A (execs (.If e body [] pos :: rest) env) Q E s := xs_if F ev (fun z => by cases z) fun _ s' F' => xs_nil (h2 s' F')

/-- stores into names, in order -/
def StoresTo (env : Env) (f : Value → Sem Unit) (x : Str) : Prop := ∀ (prog : Program) (w : World) (A : Around) (E : Value → Shared → Prop) (Q : Unit → Shared → Prop) (s : Shared) (v : Value), wpAny (model prog w) A (storeName env x v) Q E s → wpAny (model prog w) A (f v) Q E s
theorem storesTo_assign {x : Str} {p : Pos} : StoresTo env (assign (.Name x p) env) x := fun prog w A E Q s v h => assign_Name h
theorem storesTo_bind {x : Str} : StoresTo env (fun v => bindName env x v) x := fun prog w A E Q s v h => bindName_ h
def push (ns : List Str) (Ps : List VP) (Γ : List (Str × VP)) : List (Str × VP) := (ns.zip Ps).foldl (fun G p => p :: G) Γ
theorem stores {fs : List (Value → Sem Unit)} {ns : List Str} (ok : EnvOk env (hsOf M)) (hf : Paired (StoresTo env) fs ns) : ∀ {Ps : List VP} {vs : List Value} {Γ : List (Str × VP)} {s : Shared} {Q : Unit → Shared → Prop},
    Paired (fun (P : VP) v => P.p (LV (hsOf M) s.heap) v) Ps vs → (∀ x ∈ ns, Sto env x) → ns.length = Ps.length → FS env s₀ M hr s Γ → (∀ s', FS env s₀ M hr s' (push ns Ps Γ) → Q () s') →
    wpAny (model prog w) A (assignInOrder fs vs) Q E s := by
  induction hf with
  | nil =>
    intro Ps vs Γ s Q p _ hl F k
    cases p with
    | nil => exact wpAny_pure (k s F)
    | cons _ _ => cases hl
  | @cons f x fs ns h t ih =>
    intro Ps vs Γ s Q p hx hl F k
    cases p with
    | nil => cases hl
    | @cons P v Ps vs q r =>
      show wpAny _ A (holding vs (f v) >>= fun _ => assignInOrder fs vs) Q E s
      refine wpAny_bind (wpAny_holding (h _ _ _ _ _ _ _ ?_))
      -- the values not yet stored stay as they are
      obtain ⟨m, cm, I, hΓ⟩ := id F.inn
      have hb : Paired (fun (P : VP) v => P.p (LV (hsOf M) s.heap) v) Ps vs := r
      refine wpAny_mono (Q := fun _ s' => FS env s₀ M hr s' ((x, P) :: Γ) ∧ Paired (fun (P : VP) v => P.p (LV (hsOf M) s'.heap) v) Ps vs) (F.storeK ok (hx x List.mem_cons_self) q fun s' F' lv => ⟨F', Paired.imp (fun P _ z => P.mono lv z) hb⟩) (fun _ s' ⟨F', r'⟩ => ?_) fun _ _ z => z
      exact ih r' (fun y hy => hx y (List.mem_cons_of_mem _ hy)) (by simpa using hl) F' k

theorem ext_of_extBut {h h' : Heap} (k : Heap.ExtBut h.objs.size h h') : Ext h h' := fun b o e => k b o (Nat.ne_of_lt (Heap.lt_size e)) e

theorem Paired.rev {α β : Type} {F : α → β → Prop} : ∀ {l₁ : List α} {l₂ : List β}, Paired F l₁ l₂ → Paired F l₁.reverse l₂.reverse
  | _, _, .nil => .nil
  | _, _, .cons h t => by simp only [List.reverse_cons]; exact Paired.app (Paired.rev t) (.cons h .nil)

theorem tuple_eval {vs : List Expr} {k2 : Nat} {vpos : Pos} {Ps : List VP} {Q : Value → Shared → Prop} (F : FS env s₀ M hr s Γ) (lv : Lv prog w A (hsOf M) s.heap (spliced (backTo vpos (starEach vs env))) Ps) (hz : Ps.length ≤ sizeLine)
    (h : ∀ t items s', FS env s₀ M hr s' Γ → s'.heap.IsTuple t items → items.size = Ps.length → Paired (fun (P : VP) v => P.p (LV (hsOf M) s'.heap) v) Ps items.toList → Q (.ref t) s') : wpAny (model prog w) A (eval (.Tuple vs k2 vpos) env) Q E s := by
  refine wpAny_Tuple (Lv.go lv F.old fun vs s₁ p k => ?_)
  refine ⟨by rw [← p.length]; exact hz, ?_⟩
  refine h _ vs.toArray _ ((F.kp k).kp (kpOf (Ext.push _ _))) ⟨_, Heap.get?_push_size _ rfl, rfl, 0, rfl⟩ (by rw [List.size_toArray, p.length]) ?_
  exact Paired.imp (fun P _ y => P.ext (Ext.push _ _) y) (by simpa using p)

theorem xs_tuple {ts vs : List Expr} {k k2 : Nat} {tpos vpos pos : Pos} {Ps : List VP} {names : List Str} {rest : List Stmt} (F : FS env s₀ M hr s Γ) (ok : EnvOk env (hsOf M)) (hh : A.handled = none)
    (lv : Lv prog w A (hsOf M) s.heap (spliced (backTo vpos (starEach vs env))) Ps) (hx : ∀ x ∈ names, Sto env x) (hf : Paired (StoresTo env) ((assignEach ts env).map (·.2)) names)
    (next : ∀ s', FS env s₀ M hr s' (push names Ps Γ) → wpAny (model prog w) A (execs rest env) Q E s')
    (hl : names.length = Ps.length := by rfl) (hz : Ps.length ≤ 100 := by exact Nat.le_of_ble_eq_true rfl) (hlen : (assignEach ts env).length = Ps.length := by rfl)
    (hstar : (assignEach ts env).findIdx? (·.1) = none := by rfl) (hs : swapsWithSole [.Tuple ts k tpos] (.Tuple vs k2 vpos) pos.line env = pure false := by rfl) (hw : swappedStores [.Tuple ts k tpos] (.Tuple vs k2 vpos) env = pure none := by rfl) :
    wpAny (model prog w) A (execs (.Assign [.Tuple ts k tpos] (.Tuple vs k2 vpos) pos :: rest) env) Q E s := by
  refine wpAny_execs_cons (Assign_Tuple (tuple_eval F lv (Nat.le_trans hz (by decide)) fun t items s₁ F₁ ht hn p => ?_) hs hw)
  refine wpAny_assign_Tuple hh ht (hlen.trans hn.symm) hstar fun h' he => ?_
  have kk : Keeps s₁ { s₁ with heap := h' } := kpOf (ext_of_extBut he)
  exact stores ok hf (Paired.kp kk p) hx hl (F₁.kp kk) next

theorem xs_tuple_swapped {ts vs : List Expr} {k k2 : Nat} {tpos vpos pos : Pos} {Ps : List VP} {names : List Str} {rest : List Stmt} (F : FS env s₀ M hr s Γ) (ok : EnvOk env (hsOf M)) (hh : A.handled = none)
    (hw : swappedStores [.Tuple ts k tpos] (.Tuple vs k2 vpos) env = pure (some names))
    (lv : Lv prog w A (hsOf M) s.heap (spliced (backTo vpos (starEach vs env))) Ps) (hx : ∀ x ∈ names, Sto env x)
    (next : ∀ s', FS env s₀ M hr s' (push names.reverse Ps.reverse Γ) → wpAny (model prog w) A (execs rest env) Q E s')
    (hl : names.length = Ps.length := by rfl) (hz : Ps.length ≤ 100 := by exact Nat.le_of_ble_eq_true rfl)
    (hs : swapsWithSole [.Tuple ts k tpos] (.Tuple vs k2 vpos) pos.line env = pure false := by rfl) :
    wpAny (model prog w) A (execs (.Assign [.Tuple ts k tpos] (.Tuple vs k2 vpos) pos :: rest) env) Q E s := by
  refine wpAny_execs_cons (Assign_Tuple_swapped (tuple_eval F lv (Nat.le_trans hz (by decide)) fun t items s₁ F₁ ht hn p => ?_) hs hw)
  rw [hl, ← hn]
  refine wpAny_unpackItems_tuple hh ht fun h' he => ?_
  have kk : Keeps s₁ { s₁ with heap := h' } := kpOf (ext_of_extBut he)
  have hf : ∀ l : List Str, Paired (StoresTo env) (l.map fun n => fun v => bindName env n v) l := fun l => by
    induction l with
    | nil => exact .nil
    | cons x r ih => exact .cons storesTo_bind ih
  exact stores ok (hf names.reverse) (Paired.rev (Paired.kp kk p)) (fun x hm => hx x (List.mem_reverse.mp hm)) (by rw [List.length_reverse, List.length_reverse, hl]) (F₁.kp kk) next

theorem xs_unpack {ts : List Expr} {e : Expr} {k : Nat} {tpos pos : Pos} {Ps : List VP} {names : List Str} {rest : List Stmt} (F : FS env s₀ M hr s Γ) (ok : EnvOk env (hsOf M)) (hh : A.handled = none)
    (ev : Ev prog w A env (hsOf M) s.heap e (ListV Ps)) (hx : ∀ x ∈ names, Sto env x) (hf : Paired (StoresTo env) ((assignEach ts env).map (·.2)) names)
    (next : ∀ s', FS env s₀ M hr s' (push names Ps Γ) → wpAny (model prog w) A (execs rest env) Q E s')
    (hl : names.length = Ps.length := by rfl) (hlen : (assignEach ts env).length = Ps.length := by rfl)
    (hstar : (assignEach ts env).findIdx? (·.1) = none := by rfl) (hs : swapsWithSole [.Tuple ts k tpos] e pos.line env = pure false := by rfl) (hw : swappedStores [.Tuple ts k tpos] e env = pure none := by rfl) :
    wpAny (model prog w) A (execs (.Assign [.Tuple ts k tpos] e pos :: rest) env) Q E s := by
  refine wpAny_execs_cons (Assign_Tuple (Sv.go ev F.old fun v s₁ z k₁ => ?_) hs hw)
  obtain ⟨a, items, rfl, l, p⟩ := z
  have hn : items.size = Ps.length := by rw [p.length, Array.length_toList]
  rw [assign_Tuple]
  refine wpAny_bind (wpAny_standAt ?_)
  unfold unpack
  rw [hlen, ← hn, hstar]
  refine wpAny_bind (wpAny_holding (PySem.W.kun_itemsOf hh l.2 fun h' he => ?_))
  have kk : Keeps s₁ { s₁ with heap := h' } := kpOf (ext_of_extBut he)
  exact stores ok hf (Paired.kp kk p) hx hl ((F.kp k₁).kp kk) next

/-- for x in iter: body, the names told turn by turn -/
theorem xs_for {x : Str} {px pos : Pos} {iter : Expr} {body rest : List Stmt} {Ps : List VP} (Γ : Nat → List (Str × VP)) (M : Nat → List (Addr × List VP)) (F : FS env s₀ (M 0) hr s (Γ 0)) (ok : EnvOk env (hsOf (M 0))) (hM : ∀ i, hsOf (M i) = hsOf (M 0))
    (src : Src prog w A env (hsOf (M 0)) s.heap iter Ps) (hx : Sto env x)
    (step : ∀ i Pi s' hr' E', Ps[i]? = some Pi → FS env s₀ (M i) hr' s' ((x, Pi) :: Γ i) → wpAny (model prog w) A (execs body env) (fun f s'' => f = .next ∧ FS env s₀ (M (i + 1)) hr' s'' (Γ (i + 1))) E' s')
    (next : ∀ s', FS env s₀ (M Ps.length) hr s' (Γ Ps.length) → wpAny (model prog w) A (execs rest env) Q E s')
    (hs : ∀ x, foldedSetIterable iter env x = pure x := by intro _; rfl) : wpAny (model prog w) A (execs (.For (.Name x px) iter body [] pos :: rest) env) Q E s := by
  refine wpAny_execs_cons (wpAny_For (src s E _ (Ext.refl _) F.old fun I fp P St s₂ k hI0 hI W hst hfp hIL hP => ?_) hs)
  have F₂ := F.kp k
  have k₂ := kpExt k
  obtain ⟨oI, eI⟩ := hI
  -- the iterator is none of the frame's objects
  have apart : (I ≠ env.locals ∧ (∀ n c, env.cells.lookup n = some c → I ≠ c) ∧ I ∉ hsOf (M 0)) := by
    obtain ⟨m, cm, X, _⟩ := F.inn
    refine ⟨?_, ?_, ?_⟩
    · rintro rfl
      obtain ⟨o, _, _, e, _⟩ := X.toInCall.ns
      rw [hI0] at e; cases e
    · rintro n c hc rfl
      obtain ⟨o, e, _⟩ := X.cell _ _ hc
      rw [hI0] at e; cases e
    · intro hm
      obtain ⟨p, hp, rfl⟩ := List.mem_map.mp hm
      obtain ⟨_, ⟨n, e⟩, _⟩ := F.mu p hp
      rw [hI0] at e; cases e
  -- what the walk leans on is none of them either
  have fpa : ∀ b ∈ fp, b ≠ env.locals ∧ (∀ n c, env.cells.lookup n = some c → b ≠ c) ∧ b ∉ hsOf (M 0) := fun b hb => by
    obtain ⟨hn, o, e, st1, st2⟩ := hfp b hb
    obtain ⟨m, cm, X, _⟩ := F₂.inn
    refine ⟨?_, ?_, hn⟩
    · rintro rfl
      obtain ⟨o', es, ep, e', d, _⟩ := X.toInCall.ns
      rw [e] at e'; cases e'
      exact st1 _ _ d
    · rintro n c hc rfl
      obtain ⟨o', e', d⟩ := X.cell _ _ hc
      rw [e] at e'; cases e'
      exact st2 _ d
  -- a turn of the iterator leaves the frame as it was
  have itKeeps : ∀ (i : Nat) (s₁ : Shared) (h' : Heap) (tk : Nat) (Δ : List (Str × VP)), FS env s₀ (M i) hr s₁ Δ → (∀ b o, b ≠ I → s₁.heap.get? b = some o → h'.get? b = some o) → (∀ a it, LV (hsOf (M 0)) s₁.heap a it → a ≠ I) → s₀.heap.get? I = none →
      hr.get? I = none → FS env s₀ (M i) hr { s₁ with heap := h', toks := tk } Δ := fun i s₁ h' tk Δ G kk na h0 hr0 => by
    have lv : ∀ a it, LV (hsOf (M i)) s₁.heap a it → LV (hsOf (M i)) h' a it := fun a it l => ⟨l.1, let ⟨o, y, r⟩ := l.2; ⟨o, kk a o (na a it (by rw [hM i] at l; exact l)) y, r⟩⟩
    obtain ⟨m, cm, X, hΓ⟩ := G.inn
    refine ⟨⟨m, cm, ⟨⟨?_, X.toInCall.ns.at' fun o e => kk _ o (Ne.symm apart.1) e, fun b o e => kk b o (fun z => by rw [z, h0] at e; cases e) (X.toInCall.keep b o e), X.toInCall.fresh⟩, fun n c hc => let ⟨o, e, d⟩ := X.cell n c hc; ⟨o, kk c o (Ne.symm (apart.2.1 n c hc)) e, d⟩, X.apart, X.above⟩, fun y P q => ?_⟩, fun b o h1 h2 h3 e => kk b o (fun z => by rw [z, hr0] at e; cases e) (G.stays b o h1 h2 h3 e), fun p hp => ?_⟩
    · obtain ⟨h₁, t₁, r⟩ := X.toInCall.same
      exact ⟨h', tk, by rw [r]⟩
    · rcases hΓ y P q with ⟨a, v, b, c⟩ | ⟨a, c, v, b, d, f⟩
      · exact .inl ⟨a, v, b, P.mono lv c⟩
      · exact .inr ⟨a, c, v, b, d, P.mono lv f⟩
    · obtain ⟨items, x, y⟩ := G.mu p hp
      have hpI : p.1 ≠ I := fun z => apart.2.2 (by rw [← hM i, ← z]; exact List.mem_map_of_mem hp)
      exact ⟨items, x.at fun o q => kk _ o hpI q, Paired.imp (fun P _ z => P.mono lv z) y⟩
  have hI₀ : s₀.heap.get? I = none := by
    cases e : s₀.heap.get? I with
    | none => rfl
    | some o => have := F.ext0 _ _ e; rw [hI0] at this; cases this
  have hrI : hr.get? I = none := by
    cases e : hr.get? I with
    | none => rfl
    | some o => have := F.stays I o apart.1 apart.2.1 apart.2.2 e; rw [hI0] at this; cases this
  have dict : ∀ (M' : List (Addr × List VP)) (g : Heap) (s₁ : Shared) (Δ : List (Str × VP)), FS env s₀ M' g s₁ Δ → ∀ a it, LV (hsOf (M 0)) s₁.heap a it → a ≠ env.locals ∧ ∀ n c, env.cells.lookup n = some c → a ≠ c := fun M' g s₁ Δ G a it l => by
    obtain ⟨m, cm, X, _⟩ := G.inn
    obtain ⟨_, o, e, _, n, d⟩ := l
    refine ⟨?_, ?_⟩
    · rintro rfl
      obtain ⟨o', es, ep, e', d', _⟩ := X.toInCall.ns
      rw [e] at e'; cases e'; rw [d] at d'; cases d'
    · rintro n' c hc rfl
      obtain ⟨o', e', d'⟩ := X.cell _ _ hc
      rw [e] at e'; cases e'; rw [d] at d'; cases d'
  refine codeAny_forLoop (fun j s' => ∃ i, i ≤ Ps.length ∧ j = Ps.length + 1 - i ∧ St i s'.heap ∧ FS env s₀ (M i) hr s' (Γ i) ∧ ∀ a it, LV (hsOf (M 0)) s₂.heap a it → LV (hsOf (M 0)) s'.heap a it) ?_ (Ps.length + 1) ⟨0, Nat.zero_le _, rfl, hst, F₂, fun _ _ l => l⟩
  rintro j s₁ ⟨i, hi, rfl, st, G, lv⟩
  by_cases hlt : i < Ps.length
  · have hPi : Ps[i]? = some Ps[i] := List.getElem?_eq_getElem hlt
    refine W.item i _ _ _ hlt st fun v h₂ tk₂ hPv st₂ hk₂ => ?_
    have kk : ∀ b o, b ≠ I → s₁.heap.get? b = some o → h₂.get? b = some o := fun b o hb e => hk₂ b o (by simpa using hb) e
    have na : ∀ a it, LV (hsOf (M 0)) s₁.heap a it → a ≠ I := fun a it l z => hIL _ _ it st (z ▸ l.2)
    have G₂ : FS env s₀ (M i) hr { s₁ with heap := h₂, toks := tk₂ } (Γ i) := itKeeps i s₁ h₂ tk₂ _ G kk na hI₀ hrI
    have lv₂ : ∀ a it, LV (hsOf (M 0)) s₂.heap a it → LV (hsOf (M 0)) h₂ a it := fun a it l => let z := lv a it l; ⟨z.1, let ⟨o, y, r⟩ := z.2; ⟨o, kk a o (na a it z) y, r⟩⟩
    have hPv' : Ps[i].p (LV (hsOf (M 0)) h₂) v := hP i v _ h₂ hPv hPi lv₂
    refine assign_Name (G₂.rebase.storeK (by rw [hM i]; exact ok) hx (by rw [hM i]; exact hPv') fun s₃ G₃' lv₃ => ?_)
    have G₃ := G₂.back G₃' rfl
    -- the store leaves what the walk leans on
    have st₃ : St (i + 1) s₃.heap := W.frame _ _ _ st₂ fun b hb o e => G₃'.stays b o (fpa b hb).1 (fpa b hb).2.1 (by rw [hM i]; exact (fpa b hb).2.2) e
    refine wpAny_mono (step i _ s₃ s₃.heap _ hPi G₃.rebase) (fun f s₄ ⟨hf, G₄⟩ => ?_) fun _ _ z => z
    subst hf
    refine ⟨Ps.length + 1 - (i + 1), by omega, i + 1, hlt, rfl, ?_, G₃.back G₄ ((hM (i + 1)).trans (hM i).symm), fun a it l => ?_⟩
    · exact W.frame _ _ _ st₃ fun b hb o e => G₄.stays b o (fpa b hb).1 (fpa b hb).2.1 (by rw [hM (i + 1)]; exact (fpa b hb).2.2) e
    · have z : LV (hsOf (M 0)) s₃.heap a it := by have := lv₃ a it (by rw [hM i]; exact lv₂ a it l); rw [hM i] at this; exact this
      have dd := dict _ _ _ _ G₃ a it z
      exact ⟨z.1, let ⟨o, y, r⟩ := z.2; ⟨o, G₄.stays a o dd.1 dd.2 (by rw [hM (i + 1)]; exact z.1) y, r⟩⟩
  · obtain rfl : i = Ps.length := Nat.le_antisymm hi (Nat.not_lt.mp hlt)
    refine W.done _ _ _ st fun h₂ tk₂ hk₂ => ?_
    have kk : ∀ b o, b ≠ I → s₁.heap.get? b = some o → h₂.get? b = some o := fun b o hb e => hk₂ b o (by simpa using hb) e
    have na : ∀ a it, LV (hsOf (M 0)) s₁.heap a it → a ≠ I := fun a it l z => hIL _ _ it st (z ▸ l.2)
    exact wpAny_execs_nil (next _ (itKeeps _ s₁ h₂ tk₂ _ G kk na hI₀ hrI))

/-- while test: body, by a state that turns -/
theorem xs_while {α : Type} {test : Expr} {body rest : List Stmt} {pos : Pos} (Γ : α → List (Str × VP)) (b : α → Bool) (m : α → Nat) (good : α → Prop) (x₀ : α) (h0 : good x₀) (F : FS env s₀ M hr s (Γ x₀))
    (tst : ∀ x s' , good x → FS env s₀ M hr s' (Γ x) → Et prog w A env (hsOf M) s'.heap test (b x))
    (step : ∀ x s' E', good x → b x = true → FS env s₀ M hr s' (Γ x) → wpAny (model prog w) A (execs body env) (fun f s'' => f = .next ∧ ∃ y, good y ∧ m y < m x ∧ FS env s₀ M hr s'' (Γ y)) E' s')
    (next : ∀ x s', good x → b x = false → FS env s₀ M hr s' (Γ x) → wpAny (model prog w) A (execs rest env) Q E s') :
    wpAny (model prog w) A (execs (.While test body [] pos :: rest) env) Q E s := by
  refine wpAny_execs_cons (wpAny_While (codeAny_whileLoop (fun n s' => ∃ x, good x ∧ n = m x ∧ FS env s₀ M hr s' (Γ x)) ?_ (m x₀) ⟨x₀, h0, rfl, F⟩))
  rintro n s' ⟨x, hx, rfl, G⟩
  refine Tv.go (tst x s' hx G) G.old fun s₂ k => ?_
  cases hb : b x with
  | true => exact wpAny_mono (step x s₂ _ hx hb (G.kp k)) (fun f s₃ ⟨hf, y, hy, hm, G₃⟩ => by subst hf; exact ⟨m y, hm, y, hy, rfl, G₃⟩) fun _ _ z => z
  | false => exact wpAny_execs_nil (next x s₂ hx hb (G.kp k))
end
end Mine
end

section
open PySem PySem.Calls PyProof.Rows
set_option maxRecDepth 100000
set_option linter.unusedVariables false
namespace Mine

/-! plain functions -/
def ins (a : Int) : List Int → List Int
  | [] => [a]
  | b :: r => if a ≤ b then a :: b :: r else b :: ins a r
def isort : List Int → List Int
  | [] => []
  | a :: r => ins a (isort r)
theorem ins_perm (a : Int) : ∀ l, (ins a l).Perm (a :: l)
  | [] => List.Perm.refl _
  | b :: r => by
    unfold ins
    split
    · exact List.Perm.refl _
    · exact ((ins_perm a r).cons b).trans (List.Perm.swap a b r)
theorem isort_perm : ∀ l, (isort l).Perm l
  | [] => List.Perm.refl _
  | a :: r => (ins_perm a _).trans ((isort_perm r).cons a)
theorem mem_ins {a x : Int} {l : List Int} (h : x ∈ ins a l) : x = a ∨ x ∈ l := by simpa using (ins_perm a l).mem_iff.mp h
theorem ins_sorted (a : Int) : ∀ l : List Int, l.Pairwise (· ≤ ·) → (ins a l).Pairwise (· ≤ ·)
  | [], _ => List.pairwise_singleton _ _
  | b :: r, h => by
    obtain ⟨h1, h2⟩ := List.pairwise_cons.mp h
    unfold ins
    split
    · rename_i hab
      exact List.pairwise_cons.mpr ⟨fun x hx => by
        rcases List.mem_cons.mp hx with rfl | hx
        · exact hab
        · exact Int.le_trans hab (h1 x hx), h⟩
    · rename_i hab
      exact List.pairwise_cons.mpr ⟨fun x hx => by
        rcases mem_ins hx with rfl | hx
        · omega
        · exact h1 x hx, ins_sorted a r h2⟩
theorem isort_sorted : ∀ l : List Int, (isort l).Pairwise (· ≤ ·)
  | [] => List.Pairwise.nil
  | a :: r => ins_sorted a _ (isort_sorted r)
theorem sorted_unique : ∀ {l₁ l₂ : List Int}, l₁.Perm l₂ → l₁.Pairwise (· ≤ ·) → l₂.Pairwise (· ≤ ·) → l₁ = l₂
  | [], l₂, p, _, _ => (List.Perm.nil_eq p)
  | a :: r, l₂, p, h, k => by
    cases l₂ with
    | nil => exact absurd p.length_eq (by simp)
    | cons b t =>
      obtain ⟨h1, h2⟩ := List.pairwise_cons.mp h
      obtain ⟨k1, k2⟩ := List.pairwise_cons.mp k
      have hab : a = b := by
        have ha : a ∈ b :: t := p.mem_iff.mp List.mem_cons_self
        have hb : b ∈ a :: r := p.mem_iff.mpr List.mem_cons_self
        rcases List.mem_cons.mp ha with e | ha
        · exact e
        · rcases List.mem_cons.mp hb with e | hb
          · exact e.symm
          · have := h1 b hb; have := k1 a ha; omega
      subst hab
      rw [sorted_unique (List.Perm.cons_inv p) h2 k2]
theorem isort_of {l l' : List Int} (p : l'.Perm l) (h : l'.Pairwise (· ≤ ·)) : l' = isort l := sorted_unique (p.trans (isort_perm l).symm) h (isort_sorted l)

def lmax : List Int → Int
  | [] => 0
  | [a] => a
  | a :: r => if lmax r ≤ a then a else lmax r
def lmin : List Int → Int
  | [] => 0
  | [a] => a
  | a :: r => if a ≤ lmin r then a else lmin r
theorem lmax_spec : ∀ l : List Int, l ≠ [] → lmax l ∈ l ∧ ∀ a ∈ l, a ≤ lmax l
  | [], h => absurd rfl h
  | [a], _ => ⟨by simp [lmax], fun x hx => by simp [lmax] at *; omega⟩
  | a :: b :: r, _ => by
    obtain ⟨h1, h2⟩ := lmax_spec (b :: r) (by simp)
    unfold lmax
    split
    · rename_i hc
      exact ⟨List.mem_cons_self, fun x hx => by
        rcases List.mem_cons.mp hx with rfl | hx
        · exact Int.le_refl _
        · exact Int.le_trans (h2 x hx) hc⟩
    · rename_i hc
      exact ⟨List.mem_cons_of_mem _ h1, fun x hx => by
        rcases List.mem_cons.mp hx with rfl | hx
        · omega
        · exact h2 x hx⟩
theorem lmin_spec : ∀ l : List Int, l ≠ [] → lmin l ∈ l ∧ ∀ a ∈ l, lmin l ≤ a
  | [], h => absurd rfl h
  | [a], _ => ⟨by simp [lmin], fun x hx => by simp [lmin] at *; omega⟩
  | a :: b :: r, _ => by
    obtain ⟨h1, h2⟩ := lmin_spec (b :: r) (by simp)
    unfold lmin
    split
    · rename_i hc
      exact ⟨List.mem_cons_self, fun x hx => by
        rcases List.mem_cons.mp hx with rfl | hx
        · exact Int.le_refl _
        · exact Int.le_trans hc (h2 x hx)⟩
    · rename_i hc
      exact ⟨List.mem_cons_of_mem _ h1, fun x hx => by
        rcases List.mem_cons.mp hx with rfl | hx
        · omega
        · exact h2 x hx⟩
theorem lmax_of {l : List Int} {M : Int} (h : M ∈ l) (k : ∀ a, a ∈ l → a ≤ M) : M = lmax l := by
  obtain ⟨h1, h2⟩ := lmax_spec l (by intro e; rw [e] at h; cases h)
  have := k _ h1; have := h2 _ h; omega
theorem lmin_of {l : List Int} {M : Int} (h : M ∈ l) (k : ∀ a, a ∈ l → M ≤ a) : M = lmin l := by
  obtain ⟨h1, h2⟩ := lmin_spec l (by intro e; rw [e] at h; cases h)
  have := k _ h1; have := h2 _ h; omega

/-! built-ins -/
section
variable {prog : Program} {w : World} {A : Around} {hs : List Addr} {h : Heap} {env : Env}

theorem sizeLine_lt : (sizeLine : Int) < 2 ^ 63 := by decide
theorem cb_len {Ps : List VP} (hz : Ps.length ≤ sizeLine) : CallB prog w A hs (.builtin "len") [ListV Ps] (IntV (Ps.length : Int)) := by
  rintro h vs (_ | ⟨⟨a, items, rfl, l, p⟩, (_ | _)⟩) s E e od
  have hn : items.size = Ps.length := by rw [p.length, Array.length_toList]
  refine Calls.call_len_list (LV.ext e _ _ l).2 (by rw [hn]; have := sizeLine_lt; omega) ⟨⟨_, by rw [hn]⟩, kpOf (Ext.refl _)⟩

/-- ints of described ints -/
theorem intsAre_of {V : Addr → Array Value → Prop} : ∀ {ns : List Int} {vs : List Value}, Paired (fun (P : VP) v => P.p V v) (ns.map IntV) vs → IntsAre vs ns
  | [], _, .nil => .nil
  | n :: ns, _, .cons ⟨t, e⟩ r => by subst e; exact .cons n t (intsAre_of r)
theorem of_intsAre {V : Addr → Array Value → Prop} : ∀ {ns : List Int} {vs : List Value}, IntsAre vs ns → Paired (fun (P : VP) v => P.p V v) (ns.map IntV) vs
  | _, _, .nil => .nil
  | _, _, .cons n t r => .cons ⟨t, rfl⟩ (of_intsAre r)

theorem cb_sorted {ns : List Int} (h64 : ns.length < 64) : CallB prog w A hs (.builtin "sorted") [IntsV ns] (IntsV (isort ns)) := by
  rintro h vs (_ | ⟨⟨a, items, rfl, l, p⟩, (_ | _)⟩) s E e od
  have hI := intsAre_of p
  have l' := (LV.ext e _ _ l).2
  rw [show items = items.toList.toArray by simp] at l'
  refine sorted_ints l' hI (by rw [hI.length]; exact h64) fun out ns' h1 h2 h3 => ?_
  obtain ⟨en, he⟩ := sortedAll_at s.heap items.toList out
  have := isort_of h2 h3
  subst this
  exact ⟨⟨_, out, rfl, ⟨od.newer (Nat.le_succ _), _, he, rfl, _, rfl⟩, of_intsAre h1⟩, kpOf fun _ _ => sortedAll_old⟩

theorem intItems_of {V : Addr → Array Value → Prop} {ns : List Int} {items : Array Value} (p : Paired (fun (P : VP) v => P.p V v) (ns.map IntV) items.toList) : ∃ xs : Array (Int × Tok), items = intItems xs ∧ xs.toList.map (·.1) = ns := by
  have hI := intsAre_of p
  obtain ⟨xs, e⟩ := AllInts.items (show AllInts items by have := hI.allInts; rwa [show items.toList.toArray = items by simp] at this)
  refine ⟨xs, e, ?_⟩
  rw [← nums_intItems, ← e]; exact hI.numsOf

theorem cb_max {ns : List Int} (hh : A.handled = none) (hne : ns ≠ []) : CallB prog w A hs (.builtin "max") [IntsV ns] (IntV (lmax ns)) := by
  rintro h vs (_ | ⟨⟨a, items, rfl, l, p⟩, (_ | _)⟩) s E e od
  obtain ⟨xs, rfl, rfl⟩ := intItems_of p
  have hsz : 0 < xs.size := by
    rw [← Array.length_toList]
    cases hx : xs.toList with
    | nil => rw [hx] at hne; exact absurd rfl hne
    | cons _ _ => simp
  refine max_intList hh (LV.ext e _ _ l).2 hsz fun v h' tk hv hk => ?_
  obtain ⟨t, rfl⟩ := intItems_at hv
  obtain ⟨h1, h2⟩ := argBest_gt (numAt xs) (xs.size - 1)
  refine ⟨⟨t, congrArg (fun z => Value.int z t) (lmax_of ?_ fun a ha => ?_)⟩, kpOf hk⟩
  · rw [numAt_eq]; exact getD_mem (by rw [List.length_map, Array.length_toList]; omega)
  · obtain ⟨j, hj, rfl⟩ := mem_getD ha
    rw [List.length_map, Array.length_toList] at hj
    rw [← numAt_eq]; exact h2 j (by omega)
theorem cb_min {ns : List Int} (hh : A.handled = none) (hne : ns ≠ []) : CallB prog w A hs (.builtin "min") [IntsV ns] (IntV (lmin ns)) := by
  rintro h vs (_ | ⟨⟨a, items, rfl, l, p⟩, (_ | _)⟩) s E e od
  obtain ⟨xs, rfl, rfl⟩ := intItems_of p
  have hsz : 0 < xs.size := by
    rw [← Array.length_toList]
    cases hx : xs.toList with
    | nil => rw [hx] at hne; exact absurd rfl hne
    | cons _ _ => simp
  refine min_intList hh (LV.ext e _ _ l).2 hsz fun v h' tk hv hk => ?_
  obtain ⟨t, rfl⟩ := intItems_at hv
  obtain ⟨h1, h2⟩ := argBest_lt (numAt xs) (xs.size - 1)
  refine ⟨⟨t, congrArg (fun z => Value.int z t) (lmin_of ?_ fun a ha => ?_)⟩, kpOf hk⟩
  · rw [numAt_eq]; exact getD_mem (by rw [List.length_map, Array.length_toList]; omega)
  · obtain ⟨j, hj, rfl⟩ := mem_getD ha
    rw [List.length_map, Array.length_toList] at hj
    rw [← numAt_eq]; exact h2 j (by omega)
theorem cb_sum {ns : List Int} (hh : A.handled = none) : CallB prog w A hs (.builtin "sum") [IntsV ns] (IntV ns.sum) := by
  rintro h vs (_ | ⟨⟨a, items, rfl, l, p⟩, (_ | _)⟩) s E e od
  obtain ⟨xs, rfl, rfl⟩ := intItems_of p
  refine call_sum_walkG (iter_intList (LV.ext e _ _ l).2 fun s₂ e₂ st hfp hlI => ?_)
  subst e₂
  refine ⟨_, _, _, _, _, _, numAt xs, rfl, Walks.list (A := A.in1) hh _ a hlI (intItems xs), st, hfp, (fun _ _ => intItems_at), fun h' tk t' hk => ?_⟩
  refine ⟨⟨t', ?_⟩, kpOf (old_kept hk)⟩
  rw [preSum_eq, List.take_of_length_le (by simp [intItems])]

/-! ranges -/
theorem range1 {x : Str} {np pos : Pos} {e : Expr} {n : Nat} (hf : Ev prog w A env hs h (.Name x np) (IsV (.type "range"))) (ev : Ev prog w A env hs h e (IntV (n : Int))) (hn : n ≤ sizeLine)
    (he : starEach [e] env = [(false, eval e env)] := by rfl) : EvRange prog w A env hs h (.Call (.Name x np) [e] [] pos) 0 n := fun s E ex od => by
  refine Call_ (Sv.go (hf.at ex) od fun v s₁ p k => ?_)
  obtain rfl : v = _ := p
  refine callWith_type1 (args_cons (Sv.go (ev.at (ex.trans (kpExt k))) (od.kp k) fun v s₂ q k₂ => args_nil ?_) he) he rfl
  obtain ⟨t, rfl⟩ := q
  have := sizeLine_lt
  have hs : sizeLine = 2 ^ 24 := rfl
  refine call_range_1 ⟨⟨_, (n : Int), _, _, _, rfl, IsRange.new _ _ _ _ _ _ _, small_one (by omega) (by omega) (by omega) (by omega), ?_⟩, kpTrans (kpTrans k k₂) (kpOf (Ext.push _ _))⟩
  rw [rangeSize_one]; split <;> omega
theorem range2 {x : Str} {np pos : Pos} {e e' : Expr} {a : Int} {n : Nat} (hf : Ev prog w A env hs h (.Name x np) (IsV (.type "range"))) (ev : Ev prog w A env hs h e (IntV a)) {b : Int} (ev' : Ev prog w A env hs h e' (IntV b)) (hb : n = (b - a).toNat) (hn : n ≤ sizeLine) (ha : -(2 ^ 60) ≤ a) (ha' : a < 2 ^ 60) (hb' : -(2 ^ 60) ≤ b)
    (he : starEach [e, e'] env = [(false, eval e env), (false, eval e' env)] := by rfl) (he2 : starEach [e'] env = [(false, eval e' env)] := by rfl) : EvRange prog w A env hs h (.Call (.Name x np) [e, e'] [] pos) a n := fun s E ex od => by
  refine Call_ (Sv.go (hf.at ex) od fun v s₁ p k => ?_)
  obtain rfl : v = _ := p
  refine callWith_type1 (args_cons (Sv.go (ev.at (ex.trans (kpExt k))) (od.kp k) fun v s₂ q k₂ => args_cons (Sv.go (ev'.at (ex.trans (kpExt (kpTrans k k₂)))) ((od.kp k).kp k₂) fun v' s₃ q' k₃ => args_nil ?_) he2) (by rw [he, he2])) (by rw [he, he2]) (by rw [he2]; rfl)
  obtain ⟨t, rfl⟩ := q
  obtain ⟨t', rfl⟩ := q'
  have := sizeLine_lt
  have hs : sizeLine = 2 ^ 24 := rfl
  refine call_range_2 ⟨⟨_, b, _, _, _, rfl, IsRange.new _ _ _ _ _ _ _, small_one (by omega) (by omega) (by omega) (by omega), ?_⟩, kpTrans (kpTrans (kpTrans k k₂) k₃) (kpOf (Ext.push _ _))⟩
  rw [rangeSize_one]; split <;> omega
theorem Ev.listRange {x : Str} {np pos : Pos} {e : Expr} {a : Int} {n : Nat} (hh : A.handled = none) (hf : Ev prog w A env hs h (.Name x np) (IsV (.type "list"))) (ev : EvRange prog w A env hs h e a n) (hn : n ≤ sizeLine)
    (he : starEach [e] env = [(false, eval e env)] := by rfl) : Ev prog w A env hs h (.Call (.Name x np) [e] [] pos) (IntsV ((List.range n).map fun i : Nat => a + (i : Int))) := fun s E ex od => by
  refine Call_ (Sv.go (hf.at ex) od fun v s₁ p k => ?_)
  obtain rfl : v = _ := p
  refine callWith_type1 (args_cons (wpAny_mono (ev s₁ E (ex.trans (kpExt k)) (od.kp k)) (fun v s₂ ⟨⟨r, b, t, u, z, e1, hr, hsm, hsz⟩, k₂⟩ => args_nil ?_) fun _ _ y => y) he) he rfl
  subst e1
  refine call_list_range hh hr hsm hsz hn fun h' tk acc' c' hk hS hI => ?_
  refine ⟨⟨_, acc', rfl, ⟨((od.kp k).kp k₂).new, _, hS, rfl, _, rfl⟩, ?_⟩, kpTrans (kpTrans k k₂) (kpOf hk)⟩
  obtain ⟨h1, h2⟩ := hI
  have key : ∀ (l : List Value) (j : Nat), (∀ i v, l[i]? = some v → ∃ t, v = Value.int (a + ((i + j : Nat) : Int)) t) → Paired (fun (P : VP) v => P.p (LV hs h') v) (((List.range' j l.length).map fun i : Nat => a + (i : Int)).map IntV) l := fun l => by
    induction l with
    | nil => intro j _; exact .nil
    | cons v r ih =>
      intro j q
      rw [List.length_cons, List.range'_succ]
      refine .cons ?_ (ih (j + 1) fun i v hv => ?_)
      · obtain ⟨t, rfl⟩ := q 0 v (by simp)
        exact ⟨t, by simp⟩
      · obtain ⟨t, rfl⟩ := q (i + 1) v (by simpa using hv)
        exact ⟨t, by congr 3; omega⟩
  have := key acc'.toList 0 fun i v hv => by
    obtain ⟨t, rfl⟩ := h2 i v (by simpa using hv)
    exact ⟨t, by simp⟩
  rw [Array.length_toList, h1, ← List.range_eq_range'] at this
  exact this
end
end Mine
end

section
open PySem PySem.Calls PyProof.Rows
set_option maxRecDepth 100000
set_option linter.unusedVariables false
namespace Mine

/-- a def of the text in the heap -/
structure FnAt (h : Heap) (a : Addr) (name : Str) (params : Arguments) (body : List Stmt) (scope : Scope) (dflt kwd : Value) : Prop where
  ex : ∃ o fd, h.get? a = some o ∧ o.data = .func fd ∧ fd.qualname = name ∧ fd.params = params ∧ fd.body = .stmts body ∧ fd.scope = scope ∧ fd.globals = mainGlobals ∧ fd.builtins = builtinsNs ∧ fd.closure = [] ∧ fd.defaults = dflt ∧ fd.kwdefaults = kwd ∧ h.CodeRec fd.code name
theorem FnAt.ext {h h' : Heap} {a : Addr} {name : Str} {params : Arguments} {body : List Stmt} {scope : Scope} {d k : Value} (x : FnAt h a name params body scope d k) (e : Ext h h') : FnAt h' a name params body scope d k :=
  ⟨let ⟨o, fd, h1, r⟩ := x.ex; let ⟨a1, a2, a3, a4, a5, a6, a7, a8, a9, a10, a11⟩ := r; ⟨o, fd, e _ _ h1, a1, a2, a3, a4, a5, a6, a7, a8, a9, a10, a11.keeps e⟩⟩

/-- the frame's environment -/
def envK (scope : Scope) (qual : Str) (L a : Addr) (cd : Value) : Env := newEnv scope L mainGlobals (cellsFrom (L + 1) scope.names []) qual (some a) cd none builtinsNs

theorem bindL_skip {kindOf : Str → Option NameKind} {x : Str} : ∀ {r : List (Str × Value)} {m : Str → Option Value}, x ∉ r.map (·.1) → bindL kindOf r m x = m x
  | [], _, _ => rfl
  | (n, v) :: r, m, h => by
    simp only [List.map_cons, List.mem_cons, not_or] at h
    unfold bindL
    rw [bindL_skip h.2]
    split
    · simp [h.1]
    · rfl
theorem bindC_skip {kindOf : Str → Option NameKind} {x : Str} : ∀ {r : List (Str × Value)} {m : Str → Option Value}, x ∉ r.map (·.1) → bindC kindOf r m x = m x
  | [], _, _ => rfl
  | (n, v) :: r, m, h => by
    simp only [List.map_cons, List.mem_cons, not_or] at h
    unfold bindC
    rw [bindC_skip h.2]
    split
    · rfl
    · simp [h.1]
theorem bindL_get {kindOf : Str → Option NameKind} {x : Str} {v : Value} : ∀ {r : List (Str × Value)} {m : Str → Option Value}, (r.map (·.1)).Nodup → (x, v) ∈ r → kindOf x = some .local → bindL kindOf r m x = some v
  | (n, u) :: r, m, hn, h, hk => by
    simp only [List.map_cons, List.nodup_cons] at hn
    unfold bindL
    rcases List.mem_cons.mp h with e | h
    · cases e
      rw [bindL_skip hn.1, if_pos hk]
      simp
    · exact bindL_get hn.2 h hk
theorem bindC_get {kindOf : Str → Option NameKind} {x : Str} {v : Value} : ∀ {r : List (Str × Value)} {m : Str → Option Value}, (r.map (·.1)).Nodup → (x, v) ∈ r → kindOf x ≠ some .local → bindC kindOf r m x = some v
  | (n, u) :: r, m, hn, h, hk => by
    simp only [List.map_cons, List.nodup_cons] at hn
    unfold bindC
    rcases List.mem_cons.mp h with e | h
    · cases e
      rw [bindC_skip hn.1, if_neg hk]
      simp
    · exact bindC_get hn.2 h hk

theorem names_of {F : VP → Value → Prop} : ∀ {Γ : List (Str × VP)} {binds : List (Str × Value)}, Paired (fun (p : Str × VP) (b : Str × Value) => p.1 = b.1 ∧ F p.2 b.2) Γ binds → binds.map (·.1) = Γ.map (·.1)
  | _, _, .nil => rfl
  | _, _, .cons a t => by rw [List.map_cons, List.map_cons, names_of t, a.1]

section
variable {prog : Program} {w : World} {A : Around}

theorem cells_have {x : Str} : ∀ {names : List (Str × NameKind)} {n : Nat} {acc : List (Str × Addr)}, ((acc.lookup x).isSome = true ∨ (x, NameKind.cell) ∈ names) → ((cellsFrom n names acc).lookup x).isSome = true
  | [], n, acc, h => by
    rcases h with h | h
    · exact h
    · cases h
  | (y, k) :: r, n, acc, h => by
    unfold cellsFrom
    split
    · rename_i hk
      refine cells_have ?_
      rcases h with h | h
      · refine .inl ?_
        rw [List.lookup_cons]
        split
        · rfl
        · exact h
      · rcases List.mem_cons.mp h with e | h
        · cases e
          exact .inl (by simp)
        · exact .inr h
    · rename_i hk
      refine cells_have ?_
      rcases h with h | h
      · exact .inl h
      · rcases List.mem_cons.mp h with e | h
        · cases e; exact absurd rfl hk
        · exact .inr h

theorem zip_paired {V : Addr → Array Value → Prop} : ∀ {ns : List Str} {Ps : List VP} {vals : List Value}, Paired (fun (P : VP) v => P.p V v) Ps vals → ns.length = Ps.length → Paired (fun (p : Str × VP) (b : Str × Value) => p.1 = b.1 ∧ p.2.p V b.2) (ns.zip Ps) (ns.zip vals)
  | [], _, _, .nil, _ => .nil
  | _ :: ns, _, _, .cons h t, hl => .cons ⟨rfl, h⟩ (zip_paired t (by simpa using hl))
  | [], _, _, .cons _ _, hl => by cases hl
  | _ :: _, _, _, .nil, hl => by cases hl
theorem zip_names : ∀ {ns : List Str} {Ps : List VP}, ns.length = Ps.length → (ns.zip Ps).map (·.1) = ns
  | [], [], _ => rfl
  | n :: ns, P :: Ps, h => by rw [List.zip_cons_cons, List.map_cons, zip_names (by simpa using h)]

theorem call_enter {s : Shared} {a : Addr} {name : Str} {params : Arguments} {body : List Stmt} {scope : Scope} {d k : Value} {args : Args} {R : Result → Shared → Prop} (ns : List Str) {Ps : List VP} {vals : List Value}
    (X : FnAt s.heap a name params body scope d k) (lim : s.heap.NoLimit) (hroom : A.depth < recursionLimit)
    (hp : Paired (fun (P : VP) v => P.p (LV [] s.heap) v) Ps vals)
    (h : ∀ cd s₁, FS (envK scope (name ++ ".<locals>.") s.heap.objs.size a cd) s [] s₁.heap s₁ (ns.zip Ps) →
      wpAny (model prog w) (A.deeper (envK scope (name ++ ".<locals>.") s.heap.objs.size a cd)) (execs body (envK scope (name ++ ".<locals>.") s.heap.objs.size a cd)) (fun f s' => R (.ok (.ret (match f with | .ret v => v | _ => .none))) s') (fun _ _ => False) s₁)
    (hbind : ∀ fd, fd.qualname = name → fd.params = params → fd.defaults = d → fd.kwdefaults = k → BindsTo s fd args (ns.zip vals) := by intro fd h1 h2 h3 h4; obtain ⟨⟩ := fd; dsimp only at h1 h2 h3 h4; subst h1 h2 h3 h4; exact BindsTo.of_eq (by rfl))
    (hl : ns.length = Ps.length := by rfl) (hnd' : ns.Nodup := by decide +kernel)
    (hkind' : (ns.all fun x => scope.names.lookup x == some .local || scope.names.lookup x == some .cell) = true := by decide +kernel)
    (hco : scope.isCoroutine = false := by rfl) (hgen : scope.isGenerator = false := by rfl) (hk : scope.kind = .function := by rfl) : codeAny (model prog w) A (.call (.ref a) args) R s := by
  have hΓ := zip_paired hp hl
  have hnd : ((ns.zip Ps).map (·.1)).Nodup := by rw [zip_names hl]; exact hnd'
  have hkind : ∀ x ∈ (ns.zip Ps).map (·.1), scope.names.lookup x = some .local ∨ (scope.names.lookup x = some .cell ∧ ((cellsFrom (s.heap.objs.size + 1) scope.names []).lookup x).isSome = true) := by
    rw [zip_names hl]
    intro x hx
    have := List.all_eq_true.mp hkind' x hx
    simp only [Bool.or_eq_true, beq_iff_eq] at this
    rcases this with e | e
    · exact .inl e
    · exact .inr ⟨e, cells_have (.inr (mem_of_lookup e))⟩
  generalize hG : ns.zip Ps = Γ at *
  generalize hB : ns.zip vals = binds at *
  obtain ⟨o, fd, ho, hd, hq, hpa, hb, hsc, hgl, hbn, hcl, hdf, hkw, hcd⟩ := X.ex
  have hbt := hbind fd hq hpa hdf hkw
  subst hsc
  refine codeAny_call_function hroom ho hd hco hgen hb (hq ▸ hcd) (hbt _ _ _ _ ?_)
  rw [hcl, hgl, hbn]
  have hk' : ∀ x ∈ binds, fd.scope.names.lookup x.1 = some .local ∨ (fd.scope.names.lookup x.1 = some .cell ∧ ((cellsFrom (s.heap.objs.size + 1) fd.scope.names []).lookup x.1).isSome = true) := fun x hx => by
    obtain ⟨i, hi, e⟩ := List.getElem_of_mem hx
    obtain ⟨p, q, r⟩ := Paired.getR hΓ i (List.getElem?_eq_getElem hi)
    rw [e] at r
    rw [← r.1]
    exact hkind _ (List.mem_map_of_mem (List.mem_of_getElem? q))
  refine wpAny_newFunctionEnv_cells hk hk' fun env he s' x => ?_
  subst he
  rw [hq] at x ⊢
  refine ⟨lim.keeps x.toInCall.keep, codeAny_func (wpAny_mono (h fd.code s' ⟨⟨_, _, x, fun y P q => ?_⟩, fun _ _ _ _ _ e => e, fun p hp => nomatch hp⟩) (fun _ _ y => y) fun _ _ y => y.elim)⟩
  -- what the names hold at the start
  have hnames : binds.map (·.1) = Γ.map (·.1) := names_of (F := fun P v => P.p (LV [] s.heap) v) hΓ
  have hmem : ∃ v, (y, v) ∈ binds ∧ P.p (LV [] s.heap) v := by
    have hm := mem_of_lookup q
    obtain ⟨i, hi, e⟩ := List.getElem_of_mem hm
    obtain ⟨b, r1, r2⟩ := Paired.get hΓ i (List.getElem?_eq_getElem hi)
    rw [e] at r2
    obtain ⟨b1, b2⟩ := b
    obtain ⟨rfl, r2⟩ := r2
    exact ⟨b2, List.mem_of_getElem? r1, r2⟩
  obtain ⟨v, hv, hP⟩ := hmem
  have hP' : P.p (LV [] s'.heap) v := P.mono (LV.ext x.toInCall.keep) hP
  rcases hkind y (List.mem_map_of_mem (mem_of_lookup q)) with hl | ⟨hl, hc⟩
  · exact .inl ⟨hl, v, bindL_get (hnames ▸ hnd) hv hl, hP'⟩
  · obtain ⟨c, hc⟩ := Option.isSome_iff_exists.mp hc
    exact .inr ⟨hl, c, v, hc, bindC_get (hnames ▸ hnd) hv (by show fd.scope.names.lookup y ≠ _; rw [hl]; decide), hP'⟩
end
end Mine
end

section
open PySem PySem.Calls PyProof.Rows
set_option maxRecDepth 100000
set_option linter.unusedVariables false
namespace Mine

def stmtAt (i : Nat) : Stmt := PySem.Challenge.pw_sc0049_01.main.body.getD i (.Pass default)
def bodyOf : Stmt → List Stmt
  | .FunctionDef _ _ body _ _ _ _ _ _ _ => body
  | _ => []
def paramsOf : Stmt → Arguments
  | .FunctionDef _ args _ _ _ _ _ _ _ _ => args
  | _ => default
def scopeOf : Stmt → Scope
  | .FunctionDef _ _ _ _ _ _ scope _ _ _ => scope
  | _ => default
def nameOf : Stmt → Str
  | .FunctionDef name _ _ _ _ _ _ _ _ _ => name
  | _ => default
/-- the i-th statement of the text, a def, lies at a -/
abbrev DefAt (h : Heap) (a : Addr) (i : Nat) (d k : Value) : Prop := FnAt h a (nameOf (stmtAt i)) (paramsOf (stmtAt i)) (bodyOf (stmtAt i)) (scopeOf (stmtAt i)) d k

section
variable {prog : Program} {w : World} {A : Around}
theorem fall {h : Heap} {a : Addr} (X : DefAt h a 11 .none .none) (lim : h.NoLimit) (hroom : A.depth < recursionLimit) (x y : Int) : CallF prog w A [] h a [ListV [IntV x, IntV y]] [] (IntV (x - y)) := by
  refine ⟨let ⟨o, fd, h1, h2, _⟩ := X.ex; ⟨o, fd, h1, h2⟩, ?_⟩
  rintro h' vs ks e (_ | ⟨p, (_ | _)⟩) (_ | _) s E ex od
  rename_i v
  refine wpAny_call (call_enter ["pair"] (X.ext (e.trans ex)) (lim.keeps (e.trans ex)) hroom (.cons (VP.ext _ ex p) .nil) fun cd s₁ F => ?_)
  exact xs_return F (Ev.bin op_sub (Ev.item (F.ev rfl rfl) Ev.cint (by decide) (by decide) rfl) (Ev.item (F.ev rfl rfl) Ev.cint (by decide) (by decide) rfl)) fun v s' p F' => ⟨p, F'.keeps0⟩
end
end Mine
end

section
open PySem PySem.Calls PyProof.Rows
set_option maxRecDepth 100000
set_option linter.unusedVariables false
namespace Mine

/-- room for k more calls -/
structure Room (k : Nat) (A : Around) : Prop where
  h : A.handled = none
  d : A.depth + k < recursionLimit
  u : A.units + 100 * k + 200 < cLine
theorem Room.deeper {k : Nat} {A : Around} (x : Room (k + 1) A) (env : Env) : Room k (A.deeper env) := ⟨x.h, by show A.depth + 1 + k < _; have := x.d; omega, by show A.units + 3 + 100 * k + 200 < _; have := x.u; omega⟩
theorem Room.less {k j : Nat} {A : Around} (x : Room k A) (h : j ≤ k) : Room j A := ⟨x.h, by have := x.d; omega, by have := x.u; omega⟩
theorem Room.dep {k : Nat} {A : Around} (x : Room k A) : A.depth < recursionLimit := by have := x.d; omega

/-- where the defs lie -/
structure Tab where
  fmean : Addr
  median : Addr
  medianLow : Addr
  medianHigh : Addr
  bisectRight : Addr
  bisectLeft : Addr
  fall : Addr
  books : Addr
  laid : Addr
  near : Addr
  told : Addr
  refused : Addr

def builtNames : List Str := ["len", "sorted", "range", "max", "min", "sum", "list", "isinstance", "float", "tuple"]
/-- what the call finds -/
structure Wd (mg mb : Str → Option Value) (T : Tab) (h : Heap) : Prop where
  gc : GC mg mb h
  nones : ∀ x ∈ builtNames, mg x = none
  fsum : mg "fsum" = some (.builtin "math.fsum")
  sumprod : mg "sumprod" = some (.builtin "math.sumprod")
  names : mg "fmean" = some (.ref T.fmean) ∧ mg "median" = some (.ref T.median) ∧ mg "median_low" = some (.ref T.medianLow) ∧ mg "median_high" = some (.ref T.medianHigh) ∧ mg "bisect_right" = some (.ref T.bisectRight) ∧
    mg "bisect_left" = some (.ref T.bisectLeft) ∧ mg "_law_fall" = some (.ref T.fall) ∧ mg "_law_books" = some (.ref T.books) ∧ mg "_law_laid" = some (.ref T.laid) ∧ mg "_law_near" = some (.ref T.near) ∧ mg "_law_told" = some (.ref T.told) ∧
    mg "_law_refused" = some (.ref T.refused)
  median : DefAt h T.median 4 .none .none
  medianLow : DefAt h T.medianLow 5 .none .none
  medianHigh : DefAt h T.medianHigh 6 .none .none
  fall : DefAt h T.fall 11 .none .none
  books : DefAt h T.books 12 .none .none
  laid : DefAt h T.laid 13 .none .none
  near : DefAt h T.near 14 .none .none
  told : DefAt h T.told 15 .none .none
  refused : DefAt h T.refused 16 .none .none
theorem Wd.ext {mg mb : Str → Option Value} {T : Tab} {h h' : Heap} (x : Wd mg mb T h) (e : Ext h h') : Wd mg mb T h' :=
  ⟨x.gc.ext e, x.nones, x.fsum, x.sumprod, x.names, x.median.ext e, x.medianLow.ext e, x.medianHigh.ext e, x.fall.ext e, x.books.ext e, x.laid.ext e, x.near.ext e, x.told.ext e, x.refused.ext e⟩

theorem getD_map {l : List Int} {i : Nat} (h : i < l.length) : (l.map IntV)[i]? = some (IntV (l.getD i 0)) := by
  rw [List.getElem?_map, List.getElem?_eq_getElem h, List.getD_eq_getElem?_getD, List.getElem?_eq_getElem h]; rfl
section
variable {prog : Program} {w : World} {A : Around} {hs : List Addr} {h : Heap} {env : Env} {mg mb : Str → Option Value} {T : Tab}

theorem Ev.itemI {a i : Expr} {pos : Pos} {l : List Int} {k : Int} (x : Ev prog w A env hs h a (IntsV l)) (y : Ev prog w A env hs h i (IntV k)) (h0 : 0 ≤ k) (h1 : k < l.length) (hz : l.length ≤ sizeLine)
    (hsub : ∀ o (j : Int) t, subscripted i false (.ref o) (.int j t) = operate [.ref o, .int j t] (getItem (.ref o) (.int j t)) := by intro _ _ _; with_unfolding_all rfl) :
    Ev prog w A env hs h (.Subscript a i pos) (IntV (l.getD k.toNat 0)) := Ev.item x y h0 (by have := sizeLine_lt; omega) (getD_map (by omega)) hsub

theorem Wd.built (W : Wd mg mb T h) {x : Str} {pos : Pos} {v : Value} (hm : x ∈ builtNames) (hv : bootBuiltins x = some v) (hk : env.scope.kind = .function) (hx : env.kindOf x = some .globalImplicit) (hg : env.globals = mainGlobals) (hb : env.builtins = builtinsNs)
    (hne : x ≠ "__name__" := by decide) (hd : (x == ("__debug__" : Str)) = false := by decide) : Ev prog w A env hs h (.Name x pos) (IsV v) := Ev.builtin W.gc (W.nones x hm) hv hk hx hg hb hne hd

theorem boot_len : bootBuiltins "len" = some (.builtin "len") := by decide +kernel
theorem boot_sorted : bootBuiltins "sorted" = some (.builtin "sorted") := by decide +kernel
theorem boot_range : bootBuiltins "range" = some (.type "range") := by decide +kernel
theorem boot_max : bootBuiltins "max" = some (.builtin "max") := by decide +kernel
theorem boot_min : bootBuiltins "min" = some (.builtin "min") := by decide +kernel
theorem boot_sum : bootBuiltins "sum" = some (.builtin "sum") := by decide +kernel
theorem boot_list : bootBuiltins "list" = some (.type "list") := by decide +kernel
theorem boot_isinstance : bootBuiltins "isinstance" = some (.builtin "isinstance") := by decide +kernel
theorem boot_float : bootBuiltins "float" = some (.type "float") := by decide +kernel
theorem boot_tuple : bootBuiltins "tuple" = some (.type "tuple") := by decide +kernel
end

-- a name
local macro_rules | `(tactic| walk_at "nm") => `(tactic| first
  | exact FS.ev (by with_reducible assumption) rfl rfl
  | exact Wd.built (by with_reducible assumption) (by decide) (by first | exact boot_len | exact boot_sorted | exact boot_range | exact boot_max | exact boot_min | exact boot_sum | exact boot_list | exact boot_isinstance | exact boot_float | exact boot_tuple) rfl rfl rfl rfl)

section
variable {prog : Program} {w : World} {A : Around} {hs : List Addr} {h : Heap} {env : Env} {mg mb : Str → Option Value} {T : Tab}

def medLow (l : List Int) : Int := if l.length % 2 = 1 then (isort l).getD (l.length / 2) 0 else (isort l).getD (l.length / 2 - 1) 0
def medHigh (l : List Int) : Int := (isort l).getD (l.length / 2) 0

theorem isort_len (l : List Int) : (isort l).length = l.length := (isort_perm l).length_eq
theorem fdiv2 (n : Nat) : ((n : Int).fdiv 2) = ((n / 2 : Nat) : Int) := by rw [Int.fdiv_eq_ediv_of_nonneg _ (by decide)]; omega
theorem fmod2 (n : Nat) : ((n : Int).fmod 2) = ((n % 2 : Nat) : Int) := by rw [Int.fmod_eq_emod_of_nonneg _ (by decide)]; omega

theorem median_low (W : Wd mg mb T h) (rm : Room 1 A) (l : List Int) (hl : 0 < l.length) (h64 : l.length < 64) : CallF prog w A [] h T.medianLow [IntsV l] [] (IntV (medLow l)) := by
  have X := W.medianLow
  have hz : l.length ≤ sizeLine := Nat.le_trans (Nat.le_of_lt h64) (by decide)
  refine ⟨let ⟨o, fd, h1, h2, _⟩ := X.ex; ⟨o, fd, h1, h2⟩, ?_⟩
  rintro h' vs ks e (_ | ⟨p, (_ | _)⟩) (_ | _) s E ex od
  rename_i v
  refine wpAny_call (call_enter ["data"] (X.ext (e.trans ex)) (W.gc.lim.keeps (e.trans ex)) rm.dep (.cons (VP.ext _ ex p) .nil) fun cd s₁ F => ?_)
  have ok : EnvOk (envK (scopeOf (stmtAt 5)) (nameOf (stmtAt 5) ++ ".<locals>.") s.heap.objs.size T.medianLow cd) [] := ⟨rfl, by simp, by simp⟩
  have W₁ := W.ext ((e.trans ex).trans F.ext0)
  refine xs_assign F ok (.inl rfl) (Ev.callB (by walk_at "nm") (Lv.cons (by walk_at "nm") Lv.nil) (cb_sorted h64)) fun s₂ F => ?_
  have W₂ := W.ext ((e.trans ex).trans F.ext0)
  refine xs_assign F ok (.inl rfl) (Ev.callB (by walk_at "nm") (Lv.cons (by walk_at "nm") Lv.nil) (cb_len (by rw [List.length_map, isort_len]; exact hz))) fun s₃ F => ?_
  simp only [List.length_map, isort_len] at F
  refine xs_if_skip F ((Et.cmp op_eq (by walk_at "nm") Ev.cint).cast (by simp only [beq_eq_false_iff_ne]; omega)) fun s₄ F => ?_
  have hd := fdiv2 l.length
  refine xs_if F (Et.cmp op_eq (Ev.bin (op_fmod (by decide)) (by walk_at "nm") Ev.cint) Ev.cint) (fun hb s₅ F => ?_) fun hb s₅ F => ?_
  · simp only [fmod2, beq_iff_eq] at hb
    refine xs_return F (Ev.itemI (by walk_at "nm") (Ev.bin (op_fdiv (by decide) (by decide)) (by walk_at "nm") Ev.cint) (by omega) (by rw [isort_len]; omega) (by rw [isort_len]; exact hz)) fun v s₆ p F => ⟨?_, F.keeps0⟩
    rw [medLow, if_pos (by omega), ← Int.toNat_natCast (l.length / 2), ← hd]
    exact p
  · simp only [fmod2, beq_eq_false_iff_ne] at hb
    refine xs_return F (Ev.itemI (by walk_at "nm") (Ev.bin op_sub (Ev.bin (op_fdiv (by decide) (by decide)) (by walk_at "nm") Ev.cint) Ev.cint) (by omega) (by rw [isort_len]; omega) (by rw [isort_len]; exact hz)) fun v s₆ p F => ⟨?_, F.keeps0⟩
    rw [medLow, if_neg (by omega), show l.length / 2 - 1 = ((l.length : Int).fdiv 2 - 1).toNat by omega]
    exact p
end
end Mine
end

section
open PySem PySem.Calls PyProof.Rows
set_option maxRecDepth 100000
set_option linter.unusedVariables false
namespace Mine

/-- the defaults of the two searches: (0, None) and {'key': None} -/
def Dflt2 (d k : Value) (h : Heap) : Prop := ∃ dT kD o n t mk, d = .ref dT ∧ k = .ref kD ∧ h.get? dT = some o ∧ o.data = .seq #[.int 0 t, .none] n ∧ h.Ns kD mk ∧ mk "key" = some .none
theorem Dflt2.ext {d k : Value} {h h' : Heap} (x : Dflt2 d k h) (e : Ext h h') : Dflt2 d k h' := let ⟨dT, kD, o, n, t, mk, h1, h2, h3, h4, h5, h6⟩ := x; ⟨dT, kD, o, n, t, mk, h1, h2, e _ _ h3, h4, h5.keeps e, h6⟩


theorem binds_left {d k : Value} {s : Shared} (D : Dflt2 d k s.heap) (fd : FuncData) (h2 : fd.params = paramsOf (stmtAt 9)) (h3 : fd.defaults = d) (h4 : fd.kwdefaults = k) (a x lo hi : Value) :
    BindsTo s fd ⟨[a, x, lo, hi], []⟩ [("a", a), ("x", x), ("lo", lo), ("hi", hi), ("key", .none)] := by
  obtain ⟨dT, kD, o, n, t, mk, rfl, rfl, e1, e2, e3, e4⟩ := D
  obtain ⟨⟩ := fd
  dsimp only at h2 h3 h4
  subst h2 h3 h4
  intro M A E Q hq
  show wpAny M A (seqItems? (.ref dT) >>= _) Q E s
  refine wpAny_bind (wpAny_seqItems e1 e2 ?_)
  show wpAny M A (((nsGet kD "key" >>= _) >>= _) >>= _) Q E s
  refine wpAny_bind (wpAny_bind (wpAny_bind (wpAny_nsGet e3 ?_)))
  rw [e4]
  exact wpAny_pure (wpAny_pure (wpAny_pure hq))
theorem binds_right {d k : Value} {s : Shared} (D : Dflt2 d k s.heap) (fd : FuncData) (h2 : fd.params = paramsOf (stmtAt 8)) (h3 : fd.defaults = d) (h4 : fd.kwdefaults = k) (a x lo hi : Value) :
    BindsTo s fd ⟨[a, x, lo, hi], []⟩ [("a", a), ("x", x), ("lo", lo), ("hi", hi), ("key", .none)] := by
  obtain ⟨dT, kD, o, n, t, mk, rfl, rfl, e1, e2, e3, e4⟩ := D
  obtain ⟨⟩ := fd
  dsimp only at h2 h3 h4
  subst h2 h3 h4
  intro M A E Q hq
  show wpAny M A (seqItems? (.ref dT) >>= _) Q E s
  refine wpAny_bind (wpAny_seqItems e1 e2 ?_)
  show wpAny M A (((nsGet kD "key" >>= _) >>= _) >>= _) Q E s
  refine wpAny_bind (wpAny_bind (wpAny_bind (wpAny_nsGet e3 ?_)))
  rw [e4]
  exact wpAny_pure (wpAny_pure (wpAny_pure hq))
theorem binds_leftK {d k : Value} {s : Shared} (D : Dflt2 d k s.heap) (fd : FuncData) (h2 : fd.params = paramsOf (stmtAt 9)) (h3 : fd.defaults = d) (h4 : fd.kwdefaults = k) (a x lo hi key : Value) :
    BindsTo s fd ⟨[a, x, lo, hi], [("key", key)]⟩ [("a", a), ("x", x), ("lo", lo), ("hi", hi), ("key", key)] := by
  obtain ⟨dT, kD, o, n, t, mk, rfl, rfl, e1, e2, e3, e4⟩ := D
  obtain ⟨⟩ := fd
  dsimp only at h2 h3 h4
  subst h2 h3 h4
  intro M A E Q hq
  show wpAny M A (seqItems? (.ref dT) >>= _) Q E s
  refine wpAny_bind (wpAny_seqItems e1 e2 ?_)
  exact wpAny_pure hq
theorem binds_rightK {d k : Value} {s : Shared} (D : Dflt2 d k s.heap) (fd : FuncData) (h2 : fd.params = paramsOf (stmtAt 8)) (h3 : fd.defaults = d) (h4 : fd.kwdefaults = k) (a x lo hi key : Value) :
    BindsTo s fd ⟨[a, x, lo, hi], [("key", key)]⟩ [("a", a), ("x", x), ("lo", lo), ("hi", hi), ("key", key)] := by
  obtain ⟨dT, kD, o, n, t, mk, rfl, rfl, e1, e2, e3, e4⟩ := D
  obtain ⟨⟩ := fd
  dsimp only at h2 h3 h4
  subst h2 h3 h4
  intro M A E Q hq
  show wpAny M A (seqItems? (.ref dT) >>= _) Q E s
  refine wpAny_bind (wpAny_seqItems e1 e2 ?_)
  exact wpAny_pure hq

/-- the search by halves: p tells whether to go right -/
def bs (p : Nat → Bool) : Nat → Nat → Nat → Nat
  | 0, lo, _ => lo
  | f + 1, lo, hi => if lo < hi then (if p ((lo + hi) / 2) then bs p f ((lo + hi) / 2 + 1) hi else bs p f lo ((lo + hi) / 2)) else lo
theorem bs_fuel (p : Nat → Bool) : ∀ (f g lo hi : Nat), hi - lo ≤ f → hi - lo ≤ g → bs p f lo hi = bs p g lo hi
  | 0, 0, _, _, _, _ => rfl
  | 0, g + 1, lo, hi, h, _ => by unfold bs; rw [if_neg (by omega)]
  | f + 1, 0, lo, hi, _, h => by conv => rhs; unfold bs
                                 unfold bs; rw [if_neg (by omega)]
  | f + 1, g + 1, lo, hi, h1, h2 => by
    unfold bs
    split
    · split
      · exact bs_fuel p f g _ _ (by omega) (by omega)
      · exact bs_fuel p f g _ _ (by omega) (by omega)
    · rfl
def bsr (p : Nat → Bool) (lo hi : Nat) : Nat := bs p (hi - lo) lo hi
theorem bsr_step (p : Nat → Bool) {lo hi : Nat} (h : lo < hi) : bsr p lo hi = if p ((lo + hi) / 2) then bsr p ((lo + hi) / 2 + 1) hi else bsr p lo ((lo + hi) / 2) := by
  have e : hi - lo = (hi - lo - 1) + 1 := by omega
  unfold bsr
  rw [e]
  conv => lhs; unfold bs
  rw [if_pos h]
  split
  · exact bs_fuel p _ _ _ _ (by omega) (by omega)
  · exact bs_fuel p _ _ _ _ (by omega) (by omega)
theorem bsr_done (p : Nat → Bool) {lo hi : Nat} (h : ¬ lo < hi) : bsr p lo hi = lo := by
  unfold bsr
  rw [show hi - lo = 0 by omega]
  rfl
end Mine
end

section
open PySem PySem.Calls PyProof.Rows
set_option maxRecDepth 100000
set_option linter.unusedVariables false
namespace Mine

local macro_rules | `(tactic| walk_at "nm") => `(tactic| first
  | exact FS.ev (by with_reducible assumption) rfl rfl
  | exact Wd.built (by with_reducible assumption) (by decide) (by first | exact boot_len | exact boot_sorted | exact boot_range | exact boot_max | exact boot_min | exact boot_sum | exact boot_list | exact boot_isinstance | exact boot_float | exact boot_tuple) rfl rfl rfl rfl)

theorem FS.pick {env : Env} {s₀ s : Shared} {hr : Heap} {M : List (Addr × List VP)} {Γ : List (Str × VP)} (F : FS env s₀ M hr s Γ) (Δ : List (Str × VP)) (k : ∀ p ∈ Δ, Γ.lookup p.1 = some p.2) : FS env s₀ M hr s Δ :=
  F.sub fun x P h => k (x, P) (mem_of_lookup h)
local macro_rules | `(tactic| walk_at "sub") => `(tactic| repeat (first | exact List.forall_mem_nil _ | refine List.forall_mem_cons.mpr ⟨rfl, ?_⟩))

section
variable {prog : Program} {w : World} {A : Around} {h : Heap} {mg mb : Str → Option Value} {T : Tab}

theorem op_none_none {A : Around} {hs : List Addr} : Op2 prog w A hs (compareOp .Is) NoneV NoneV (BoolV true) := op_isNone true fun V v e => by rw [show v = Value.none from e]; rfl
theorem op_int_none {A : Around} {hs : List Addr} {n : Int} : Op2 prog w A hs (compareOp .Is) (IntV n) NoneV (BoolV false) := op_isNone false fun V v ⟨t, e⟩ => by rw [e]; rfl
theorem op_list_none {A : Around} {hs : List Addr} {Ps : List VP} : Op2 prog w A hs (compareOp .Is) (ListV Ps) NoneV (BoolV false) := op_isNone false fun V v ⟨a, _, e, _⟩ => by rw [e]; rfl
theorem op_ref_none {A : Around} {hs : List Addr} {a : Addr} : Op2 prog w A hs (compareOp .Is) (IsV (.ref a)) NoneV (BoolV false) := op_isNone false fun V v e => by rw [show v = Value.ref a from e]; rfl
/-- the upper bound handed to a search: a number, or None for the list's length -/
def HiV (hi : Option Nat) : VP := match hi with | none => NoneV | some n => IntV (n : Int)
theorem fdivN (n : Nat) : ((n : Int).fdiv 2) = ((n / 2 : Nat) : Int) := fdiv2 n

theorem bisect_left_int {d k : Value} (X : DefAt h T.bisectLeft 9 d k) (D : Dflt2 d k h) (W : Wd mg mb T h) (rm : Room 1 A) (l : List Int) (hz : l.length ≤ sizeLine) (x : Int) (lo : Nat) (hi : Option Nat) (hhi : hi.getD l.length ≤ l.length) :
    CallF prog w A [] h T.bisectLeft [IntsV l, IntV x, IntV (lo : Int), HiV hi] [] (IntV (bsr (fun i => decide (l.getD i 0 < x)) lo (hi.getD l.length) : Nat)) := by
  refine ⟨let ⟨o, fd, h1, h2, _⟩ := X.ex; ⟨o, fd, h1, h2⟩, ?_⟩
  rintro h' vs ks e (_ | ⟨p1, (_ | ⟨p2, (_ | ⟨p3, (_ | ⟨p4, (_ | _)⟩)⟩)⟩)⟩) (_ | _) s E ex od
  have D' := D.ext (e.trans ex)
  refine wpAny_call (call_enter ["a", "x", "lo", "hi", "key"] (X.ext (e.trans ex)) (W.gc.lim.keeps (e.trans ex)) rm.dep (.cons (VP.ext _ ex p1) (.cons (VP.ext _ ex p2) (.cons (VP.ext _ ex p3) (.cons (VP.ext _ ex p4) (.cons (show NoneV.p _ Value.none from rfl) .nil))))) (fun cd s₁ F => ?_)
    (hbind := fun fd h1 h2 h3 h4 => binds_left D' fd h2 h3 h4 _ _ _ _))
  have ok : EnvOk (envK (scopeOf (stmtAt 9)) (nameOf (stmtAt 9) ++ ".<locals>.") s.heap.objs.size T.bisectLeft cd) [] := ⟨rfl, by simp, by simp⟩
  refine xs_if_skip F ((Et.cmp op_lt (by walk_at "nm") Ev.cint).cast (by simp only [decide_eq_false_iff_not]; omega)) fun s₂ F => ?_
  generalize hN : hi.getD l.length = N at hhi
  have tail : ∀ s₃, FS (envK (scopeOf (stmtAt 9)) (nameOf (stmtAt 9) ++ ".<locals>.") s.heap.objs.size T.bisectLeft cd) s [] s₁.heap s₃ [("lo", IntV (lo : Int)), ("hi", IntV (N : Int)), ("a", IntsV l), ("x", IntV x), ("key", NoneV)] →
      wpAny (model prog w) (A.deeper (envK (scopeOf (stmtAt 9)) (nameOf (stmtAt 9) ++ ".<locals>.") s.heap.objs.size T.bisectLeft cd)) (execs ((bodyOf (stmtAt 9)).drop 2) (envK (scopeOf (stmtAt 9)) (nameOf (stmtAt 9) ++ ".<locals>.") s.heap.objs.size T.bisectLeft cd))
        (fun f s' => (IntV (bsr (fun i => decide (l.getD i 0 < x)) lo N : Nat)).p (LV [] s'.heap) (match f with | .ret v => v | _ => .none) ∧ Keeps s s') (fun _ _ => False) s₃ := fun s₃ F => by
    refine xs_if F (Et.cmp op_none_none (by walk_at "nm") Ev.cnone) (fun _ s₄ F => ?_) (fun z => by cases z)
    refine xs_while (fun st : Nat × Nat => [("lo", IntV (st.1 : Int)), ("hi", IntV (st.2 : Int)), ("a", IntsV l), ("x", IntV x), ("key", NoneV)]) (fun st => decide (st.1 < st.2)) (fun st => st.2 - st.1)
      (fun st => st.2 ≤ l.length ∧ bsr (fun i => decide (l.getD i 0 < x)) st.1 st.2 = bsr (fun i => decide (l.getD i 0 < x)) lo N) (lo, N) ⟨hhi, rfl⟩ F ?_ ?_ ?_
    · intro st s₅ _ F
      exact (Et.cmp op_lt (by walk_at "nm") (by walk_at "nm")).cast (by simp)
    · rintro ⟨a, b⟩ s₅ E' ⟨g1, g2⟩ hb F
      simp only [decide_eq_true_eq] at hb g1 g2
      rw [bsr_step _ hb] at g2
      refine xs_assign F ok (.inl rfl) ((Ev.bin (op_fdiv (by decide) (by decide)) (Ev.bin op_add (by walk_at "nm") (by walk_at "nm")) Ev.cint).cast (congrArg IntV (show ((a : Int) + (b : Int)).fdiv 2 = (((a + b) / 2 : Nat) : Int) by rw [← fdiv2]; simp))) fun s₆ F => ?_
      refine xs_if F (Et.cmp op_lt (Ev.itemI (by walk_at "nm") (by walk_at "nm") (by omega) (by omega) hz) (by walk_at "nm")) (fun hc s₇ F => ?_) (fun hc s₇ F => ?_)
      · rw [Int.toNat_natCast] at hc
        rw [if_pos hc] at g2
        refine xs_assign F ok (.inl rfl) (Ev.bin op_add (by walk_at "nm") Ev.cint) fun s₈ F => xs_nil ?_
        exact xs_nil ⟨rfl, ((a + b) / 2 + 1, b), ⟨g1, g2⟩, by simp only; omega, F.pick _ (by walk_at "sub")⟩
      · rw [Int.toNat_natCast] at hc
        rw [if_neg (by rw [hc]; decide)] at g2
        refine xs_assign F ok (.inl rfl) (by walk_at "nm") fun s₈ F => xs_nil ?_
        exact xs_nil ⟨rfl, (a, (a + b) / 2), ⟨by simp only; omega, g2⟩, by simp only; omega, F.pick _ (by walk_at "sub")⟩
    · rintro ⟨a, b⟩ s₅ ⟨g1, g2⟩ hb F
      simp only [decide_eq_false_iff_not] at hb g2
      rw [bsr_done _ hb] at g2
      refine xs_nil (xs_return F (by walk_at "nm") fun v s₆ p F => ⟨?_, F.keeps0⟩)
      rw [← g2]; exact p
  cases hi with
  | none =>
    obtain rfl : l.length = N := hN
    refine xs_if F (Et.cmp op_none_none (by walk_at "nm") Ev.cnone) (fun _ s₄ F => ?_) (fun z => by cases z)
    have W₁ := W.ext ((e.trans ex).trans F.ext0)
    refine xs_assign F ok (.inl rfl) (Ev.callB (by walk_at "nm") (Lv.cons (by walk_at "nm") Lv.nil) (cb_len (by rw [List.length_map]; exact hz))) fun s₅ F => xs_nil (tail _ (F.pick _ ?_))
    simp only [List.length_map]
    walk_at "sub"
  | some N' =>
    obtain rfl : N' = N := hN
    refine xs_if_skip F (Et.cmp op_int_none (by walk_at "nm") Ev.cnone) fun s₄ F => tail _ (F.pick _ (by walk_at "sub"))
theorem bisect_right_int {d k : Value} (X : DefAt h T.bisectRight 8 d k) (D : Dflt2 d k h) (W : Wd mg mb T h) (rm : Room 1 A) (l : List Int) (hz : l.length ≤ sizeLine) (x : Int) (lo : Nat) (hi : Option Nat) (hhi : hi.getD l.length ≤ l.length) :
    CallF prog w A [] h T.bisectRight [IntsV l, IntV x, IntV (lo : Int), HiV hi] [] (IntV (bsr (fun i => !decide (x < l.getD i 0)) lo (hi.getD l.length) : Nat)) := by
  refine ⟨let ⟨o, fd, h1, h2, _⟩ := X.ex; ⟨o, fd, h1, h2⟩, ?_⟩
  rintro h' vs ks e (_ | ⟨p1, (_ | ⟨p2, (_ | ⟨p3, (_ | ⟨p4, (_ | _)⟩)⟩)⟩)⟩) (_ | _) s E ex od
  have D' := D.ext (e.trans ex)
  refine wpAny_call (call_enter ["a", "x", "lo", "hi", "key"] (X.ext (e.trans ex)) (W.gc.lim.keeps (e.trans ex)) rm.dep (.cons (VP.ext _ ex p1) (.cons (VP.ext _ ex p2) (.cons (VP.ext _ ex p3) (.cons (VP.ext _ ex p4) (.cons (show NoneV.p _ Value.none from rfl) .nil))))) (fun cd s₁ F => ?_)
    (hbind := fun fd h1 h2 h3 h4 => binds_right D' fd h2 h3 h4 _ _ _ _))
  have ok : EnvOk (envK (scopeOf (stmtAt 8)) (nameOf (stmtAt 8) ++ ".<locals>.") s.heap.objs.size T.bisectRight cd) [] := ⟨rfl, by simp, by simp⟩
  refine xs_if_skip F ((Et.cmp op_lt (by walk_at "nm") Ev.cint).cast (by simp only [decide_eq_false_iff_not]; omega)) fun s₂ F => ?_
  generalize hN : hi.getD l.length = N at hhi
  have tail : ∀ s₃, FS (envK (scopeOf (stmtAt 8)) (nameOf (stmtAt 8) ++ ".<locals>.") s.heap.objs.size T.bisectRight cd) s [] s₁.heap s₃ [("lo", IntV (lo : Int)), ("hi", IntV (N : Int)), ("a", IntsV l), ("x", IntV x), ("key", NoneV)] →
      wpAny (model prog w) (A.deeper (envK (scopeOf (stmtAt 8)) (nameOf (stmtAt 8) ++ ".<locals>.") s.heap.objs.size T.bisectRight cd)) (execs ((bodyOf (stmtAt 8)).drop 2) (envK (scopeOf (stmtAt 8)) (nameOf (stmtAt 8) ++ ".<locals>.") s.heap.objs.size T.bisectRight cd))
        (fun f s' => (IntV (bsr (fun i => !decide (x < l.getD i 0)) lo N : Nat)).p (LV [] s'.heap) (match f with | .ret v => v | _ => .none) ∧ Keeps s s') (fun _ _ => False) s₃ := fun s₃ F => by
    refine xs_if F (Et.cmp op_none_none (by walk_at "nm") Ev.cnone) (fun _ s₄ F => ?_) (fun z => by cases z)
    refine xs_while (fun st : Nat × Nat => [("lo", IntV (st.1 : Int)), ("hi", IntV (st.2 : Int)), ("a", IntsV l), ("x", IntV x), ("key", NoneV)]) (fun st => decide (st.1 < st.2)) (fun st => st.2 - st.1)
      (fun st => st.2 ≤ l.length ∧ bsr (fun i => !decide (x < l.getD i 0)) st.1 st.2 = bsr (fun i => !decide (x < l.getD i 0)) lo N) (lo, N) ⟨hhi, rfl⟩ F ?_ ?_ ?_
    · intro st s₅ _ F
      exact (Et.cmp op_lt (by walk_at "nm") (by walk_at "nm")).cast (by simp)
    · rintro ⟨a, b⟩ s₅ E' ⟨g1, g2⟩ hb F
      simp only [decide_eq_true_eq] at hb g1 g2
      rw [bsr_step _ hb] at g2
      refine xs_assign F ok (.inl rfl) ((Ev.bin (op_fdiv (by decide) (by decide)) (Ev.bin op_add (by walk_at "nm") (by walk_at "nm")) Ev.cint).cast (congrArg IntV (show ((a : Int) + (b : Int)).fdiv 2 = (((a + b) / 2 : Nat) : Int) by rw [← fdiv2]; simp))) fun s₆ F => ?_
      refine xs_if F (Et.cmp op_lt (by walk_at "nm") (Ev.itemI (by walk_at "nm") (by walk_at "nm") (by omega) (by omega) hz)) (fun hc s₇ F => ?_) (fun hc s₇ F => ?_)
      · rw [Int.toNat_natCast] at hc
        rw [if_neg (by rw [hc]; decide)] at g2
        refine xs_assign F ok (.inl rfl) (by walk_at "nm") fun s₈ F => xs_nil ?_
        exact xs_nil ⟨rfl, (a, (a + b) / 2), ⟨by simp only; omega, g2⟩, by simp only; omega, F.pick _ (by walk_at "sub")⟩
      · rw [Int.toNat_natCast] at hc
        rw [if_pos (by rw [hc]; decide)] at g2
        refine xs_assign F ok (.inl rfl) (Ev.bin op_add (by walk_at "nm") Ev.cint) fun s₈ F => xs_nil ?_
        exact xs_nil ⟨rfl, ((a + b) / 2 + 1, b), ⟨g1, g2⟩, by simp only; omega, F.pick _ (by walk_at "sub")⟩
    · rintro ⟨a, b⟩ s₅ ⟨g1, g2⟩ hb F
      simp only [decide_eq_false_iff_not] at hb g2
      rw [bsr_done _ hb] at g2
      refine xs_nil (xs_return F (by walk_at "nm") fun v s₆ p F => ⟨?_, F.keeps0⟩)
      rw [← g2]; exact p
  cases hi with
  | none =>
    obtain rfl : l.length = N := hN
    refine xs_if F (Et.cmp op_none_none (by walk_at "nm") Ev.cnone) (fun _ s₄ F => ?_) (fun z => by cases z)
    have W₁ := W.ext ((e.trans ex).trans F.ext0)
    refine xs_assign F ok (.inl rfl) (Ev.callB (by walk_at "nm") (Lv.cons (by walk_at "nm") Lv.nil) (cb_len (by rw [List.length_map]; exact hz))) fun s₅ F => xs_nil (tail _ (F.pick _ ?_))
    simp only [List.length_map]
    walk_at "sub"
  | some N' =>
    obtain rfl : N' = N := hN
    refine xs_if_skip F (Et.cmp op_int_none (by walk_at "nm") Ev.cnone) fun s₄ F => tail _ (F.pick _ (by walk_at "sub"))

abbrev PairsV (l : List (Int × Int)) : VP := ListV (l.map fun p => ListV [IntV p.1, IntV p.2])
def falls (l : List (Int × Int)) (i : Nat) : Int := (l.getD i (0, 0)).1 - (l.getD i (0, 0)).2
theorem falls_eq (l : List (Int × Int)) (i : Nat) : falls l i = (l.getD i (0, 0)).1 - (l.getD i (0, 0)).2 := rfl
theorem pairs_at {l : List (Int × Int)} {i : Nat} (h : i < l.length) : (l.map fun p => ListV [IntV p.1, IntV p.2])[i]? = some (ListV [IntV (l.getD i (0, 0)).1, IntV (l.getD i (0, 0)).2]) := by
  rw [List.getElem?_map, List.getElem?_eq_getElem h, List.getD_eq_getElem?_getD, List.getElem?_eq_getElem h]; rfl
theorem bisect_left_key {d k : Value} (X : DefAt h T.bisectLeft 9 d k) (D : Dflt2 d k h) (W : Wd mg mb T h) (rm : Room 2 A) (l : List (Int × Int)) (hz : l.length ≤ sizeLine) (x : Int) (lo N : Nat) (hhi : N ≤ l.length) :
    CallF prog w A [] h T.bisectLeft [PairsV l, IntV x, IntV (lo : Int), IntV (N : Int)] [("key", IsV (.ref T.fall))] (IntV (bsr (fun i => decide (falls l i < x)) lo N : Nat)) := by
  refine ⟨let ⟨o, fd, h1, h2, _⟩ := X.ex; ⟨o, fd, h1, h2⟩, ?_⟩
  rintro h' vs ks e (_ | ⟨p1, (_ | ⟨p2, (_ | ⟨p3, (_ | ⟨p4, (_ | _)⟩)⟩)⟩)⟩) (_ | ⟨p5, (_ | _)⟩) s E ex od
  have D' := D.ext (e.trans ex)
  refine wpAny_call (call_enter ["a", "x", "lo", "hi", "key"] (X.ext (e.trans ex)) (W.gc.lim.keeps (e.trans ex)) rm.dep (.cons (VP.ext _ ex p1) (.cons (VP.ext _ ex p2) (.cons (VP.ext _ ex p3) (.cons (VP.ext _ ex p4) (.cons (VP.ext _ ex p5) .nil))))) (fun cd s₁ F => ?_)
    (hbind := fun fd h1 h2 h3 h4 => binds_leftK D' fd h2 h3 h4 _ _ _ _ _))
  have ok : EnvOk (envK (scopeOf (stmtAt 9)) (nameOf (stmtAt 9) ++ ".<locals>.") s.heap.objs.size T.bisectLeft cd) [] := ⟨rfl, by simp, by simp⟩
  refine xs_if_skip F ((Et.cmp op_lt (by walk_at "nm") Ev.cint).cast (by simp only [decide_eq_false_iff_not]; omega)) fun s₂ F => ?_
  have tail : ∀ s₃, FS (envK (scopeOf (stmtAt 9)) (nameOf (stmtAt 9) ++ ".<locals>.") s.heap.objs.size T.bisectLeft cd) s [] s₁.heap s₃ [("lo", IntV (lo : Int)), ("hi", IntV (N : Int)), ("a", PairsV l), ("x", IntV x), ("key", IsV (.ref T.fall))] →
      wpAny (model prog w) (A.deeper (envK (scopeOf (stmtAt 9)) (nameOf (stmtAt 9) ++ ".<locals>.") s.heap.objs.size T.bisectLeft cd)) (execs ((bodyOf (stmtAt 9)).drop 2) (envK (scopeOf (stmtAt 9)) (nameOf (stmtAt 9) ++ ".<locals>.") s.heap.objs.size T.bisectLeft cd))
        (fun f s' => (IntV (bsr (fun i => decide (falls l i < x)) lo N : Nat)).p (LV [] s'.heap) (match f with | .ret v => v | _ => .none) ∧ Keeps s s') (fun _ _ => False) s₃ := fun s₃ F => by
    refine xs_if F (Et.cmp op_ref_none (by walk_at "nm") Ev.cnone) (fun z => by cases z) (fun _ s₄ F => ?_)
    refine xs_while (fun st : Nat × Nat => [("lo", IntV (st.1 : Int)), ("hi", IntV (st.2 : Int)), ("a", PairsV l), ("x", IntV x), ("key", IsV (.ref T.fall))]) (fun st => decide (st.1 < st.2)) (fun st => st.2 - st.1)
      (fun st => st.2 ≤ l.length ∧ bsr (fun i => decide (falls l i < x)) st.1 st.2 = bsr (fun i => decide (falls l i < x)) lo N) (lo, N) ⟨hhi, rfl⟩ F ?_ ?_ ?_
    · intro st s₅ _ F
      exact (Et.cmp op_lt (by walk_at "nm") (by walk_at "nm")).cast (by simp)
    · rintro ⟨a, b⟩ s₅ E' ⟨g1, g2⟩ hb F
      simp only [decide_eq_true_eq] at hb g1 g2
      rw [bsr_step _ hb] at g2
      refine xs_assign F ok (.inl rfl) ((Ev.bin (op_fdiv (by decide) (by decide)) (Ev.bin op_add (by walk_at "nm") (by walk_at "nm")) Ev.cint).cast (congrArg IntV (show ((a : Int) + (b : Int)).fdiv 2 = (((a + b) / 2 : Nat) : Int) by rw [← fdiv2]; simp))) fun s₆ F => ?_
      refine xs_if F (Et.cmp op_lt (Ev.callF (by walk_at "nm") (Lv.cons (Ev.item (by walk_at "nm") (by walk_at "nm") (by omega) (by have := sizeLine_lt; omega) (pairs_at (by omega))) Lv.nil) (fall (W.fall.ext ((e.trans ex).trans F.ext0)) ((W.ext ((e.trans ex).trans F.ext0)).gc.lim) (rm.deeper _).dep _ _)) (by walk_at "nm")) (fun hc s₇ F => ?_) (fun hc s₇ F => ?_)
      · rw [← falls_eq, Int.toNat_natCast] at hc
        rw [if_pos hc] at g2
        refine xs_assign F ok (.inl rfl) (Ev.bin op_add (by walk_at "nm") Ev.cint) fun s₈ F => xs_nil ?_
        exact xs_nil ⟨rfl, ((a + b) / 2 + 1, b), ⟨g1, g2⟩, by simp only; omega, F.pick _ (by walk_at "sub")⟩
      · rw [← falls_eq, Int.toNat_natCast] at hc
        rw [if_neg (by rw [hc]; decide)] at g2
        refine xs_assign F ok (.inl rfl) (by walk_at "nm") fun s₈ F => xs_nil ?_
        exact xs_nil ⟨rfl, (a, (a + b) / 2), ⟨by simp only; omega, g2⟩, by simp only; omega, F.pick _ (by walk_at "sub")⟩
    · rintro ⟨a, b⟩ s₅ ⟨g1, g2⟩ hb F
      simp only [decide_eq_false_iff_not] at hb g2
      rw [bsr_done _ hb] at g2
      refine xs_nil (xs_return F (by walk_at "nm") fun v s₆ p F => ⟨?_, F.keeps0⟩)
      rw [← g2]; exact p
  exact xs_if_skip F (Et.cmp op_int_none (by walk_at "nm") Ev.cnone) fun s₄ F => tail _ (F.pick _ (by walk_at "sub"))
theorem bisect_right_key {d k : Value} (X : DefAt h T.bisectRight 8 d k) (D : Dflt2 d k h) (W : Wd mg mb T h) (rm : Room 2 A) (l : List (Int × Int)) (hz : l.length ≤ sizeLine) (x : Int) (lo N : Nat) (hhi : N ≤ l.length) :
    CallF prog w A [] h T.bisectRight [PairsV l, IntV x, IntV (lo : Int), IntV (N : Int)] [("key", IsV (.ref T.fall))] (IntV (bsr (fun i => !decide (x < falls l i)) lo N : Nat)) := by
  refine ⟨let ⟨o, fd, h1, h2, _⟩ := X.ex; ⟨o, fd, h1, h2⟩, ?_⟩
  rintro h' vs ks e (_ | ⟨p1, (_ | ⟨p2, (_ | ⟨p3, (_ | ⟨p4, (_ | _)⟩)⟩)⟩)⟩) (_ | ⟨p5, (_ | _)⟩) s E ex od
  have D' := D.ext (e.trans ex)
  refine wpAny_call (call_enter ["a", "x", "lo", "hi", "key"] (X.ext (e.trans ex)) (W.gc.lim.keeps (e.trans ex)) rm.dep (.cons (VP.ext _ ex p1) (.cons (VP.ext _ ex p2) (.cons (VP.ext _ ex p3) (.cons (VP.ext _ ex p4) (.cons (VP.ext _ ex p5) .nil))))) (fun cd s₁ F => ?_)
    (hbind := fun fd h1 h2 h3 h4 => binds_rightK D' fd h2 h3 h4 _ _ _ _ _))
  have ok : EnvOk (envK (scopeOf (stmtAt 8)) (nameOf (stmtAt 8) ++ ".<locals>.") s.heap.objs.size T.bisectRight cd) [] := ⟨rfl, by simp, by simp⟩
  refine xs_if_skip F ((Et.cmp op_lt (by walk_at "nm") Ev.cint).cast (by simp only [decide_eq_false_iff_not]; omega)) fun s₂ F => ?_
  have tail : ∀ s₃, FS (envK (scopeOf (stmtAt 8)) (nameOf (stmtAt 8) ++ ".<locals>.") s.heap.objs.size T.bisectRight cd) s [] s₁.heap s₃ [("lo", IntV (lo : Int)), ("hi", IntV (N : Int)), ("a", PairsV l), ("x", IntV x), ("key", IsV (.ref T.fall))] →
      wpAny (model prog w) (A.deeper (envK (scopeOf (stmtAt 8)) (nameOf (stmtAt 8) ++ ".<locals>.") s.heap.objs.size T.bisectRight cd)) (execs ((bodyOf (stmtAt 8)).drop 2) (envK (scopeOf (stmtAt 8)) (nameOf (stmtAt 8) ++ ".<locals>.") s.heap.objs.size T.bisectRight cd))
        (fun f s' => (IntV (bsr (fun i => !decide (x < falls l i)) lo N : Nat)).p (LV [] s'.heap) (match f with | .ret v => v | _ => .none) ∧ Keeps s s') (fun _ _ => False) s₃ := fun s₃ F => by
    refine xs_if F (Et.cmp op_ref_none (by walk_at "nm") Ev.cnone) (fun z => by cases z) (fun _ s₄ F => ?_)
    refine xs_while (fun st : Nat × Nat => [("lo", IntV (st.1 : Int)), ("hi", IntV (st.2 : Int)), ("a", PairsV l), ("x", IntV x), ("key", IsV (.ref T.fall))]) (fun st => decide (st.1 < st.2)) (fun st => st.2 - st.1)
      (fun st => st.2 ≤ l.length ∧ bsr (fun i => !decide (x < falls l i)) st.1 st.2 = bsr (fun i => !decide (x < falls l i)) lo N) (lo, N) ⟨hhi, rfl⟩ F ?_ ?_ ?_
    · intro st s₅ _ F
      exact (Et.cmp op_lt (by walk_at "nm") (by walk_at "nm")).cast (by simp)
    · rintro ⟨a, b⟩ s₅ E' ⟨g1, g2⟩ hb F
      simp only [decide_eq_true_eq] at hb g1 g2
      rw [bsr_step _ hb] at g2
      refine xs_assign F ok (.inl rfl) ((Ev.bin (op_fdiv (by decide) (by decide)) (Ev.bin op_add (by walk_at "nm") (by walk_at "nm")) Ev.cint).cast (congrArg IntV (show ((a : Int) + (b : Int)).fdiv 2 = (((a + b) / 2 : Nat) : Int) by rw [← fdiv2]; simp))) fun s₆ F => ?_
      refine xs_if F (Et.cmp op_lt (by walk_at "nm") (Ev.callF (by walk_at "nm") (Lv.cons (Ev.item (by walk_at "nm") (by walk_at "nm") (by omega) (by have := sizeLine_lt; omega) (pairs_at (by omega))) Lv.nil) (fall (W.fall.ext ((e.trans ex).trans F.ext0)) ((W.ext ((e.trans ex).trans F.ext0)).gc.lim) (rm.deeper _).dep _ _))) (fun hc s₇ F => ?_) (fun hc s₇ F => ?_)
      · rw [← falls_eq, Int.toNat_natCast] at hc
        rw [if_neg (by rw [hc]; decide)] at g2
        refine xs_assign F ok (.inl rfl) (by walk_at "nm") fun s₈ F => xs_nil ?_
        exact xs_nil ⟨rfl, (a, (a + b) / 2), ⟨by simp only; omega, g2⟩, by simp only; omega, F.pick _ (by walk_at "sub")⟩
      · rw [← falls_eq, Int.toNat_natCast] at hc
        rw [if_pos (by rw [hc]; decide)] at g2
        refine xs_assign F ok (.inl rfl) (Ev.bin op_add (by walk_at "nm") Ev.cint) fun s₈ F => xs_nil ?_
        exact xs_nil ⟨rfl, ((a + b) / 2 + 1, b), ⟨g1, g2⟩, by simp only; omega, F.pick _ (by walk_at "sub")⟩
    · rintro ⟨a, b⟩ s₅ ⟨g1, g2⟩ hb F
      simp only [decide_eq_false_iff_not] at hb g2
      rw [bsr_done _ hb] at g2
      refine xs_nil (xs_return F (by walk_at "nm") fun v s₆ p F => ⟨?_, F.keeps0⟩)
      rw [← g2]; exact p
  exact xs_if_skip F (Et.cmp op_int_none (by walk_at "nm") Ev.cnone) fun s₄ F => tail _ (F.pick _ (by walk_at "sub"))
end
end Mine
end

section
open PySem PySem.Calls PyProof.Rows
set_option maxRecDepth 100000
set_option linter.unusedVariables false
namespace Mine

local macro_rules | `(tactic| walk_at "nm") => `(tactic| first
  | exact FS.ev (by with_reducible assumption) rfl rfl
  | exact Wd.built (by with_reducible assumption) (by decide) (by first | exact boot_len | exact boot_sorted | exact boot_range | exact boot_max | exact boot_min | exact boot_sum | exact boot_list | exact boot_isinstance | exact boot_float | exact boot_tuple) rfl rfl rfl rfl)
local macro_rules | `(tactic| walk_at "sub") => `(tactic| repeat (first | exact List.forall_mem_nil _ | refine List.forall_mem_cons.mpr ⟨rfl, ?_⟩))

local macro_rules | `(tactic| walk_at "sto") => `(tactic| repeat (first | exact List.forall_mem_nil _ | refine List.forall_mem_cons.mpr ⟨by first | exact Or.inl rfl | exact Or.inr ⟨rfl, rfl⟩, ?_⟩))
section
variable {prog : Program} {w : World} {A : Around} {hs : List Addr} {h : Heap} {env : Env} {mg mb : Str → Option Value} {T : Tab}

theorem op_eq_ints {a b : List Int} (hu : A.units + 64 < cLine) : Op2 prog w A hs (compareOp .Eq) (IntsV a) (IntsV b) (BoolV (decide (a = b))) := by
  rintro h _ _ ⟨l, xs, rfl, L, p⟩ ⟨l', ys, rfl, L', p'⟩ s E e od
  have k := (LV.ext e _ _ L).2
  have k' := (LV.ext e _ _ L').2
  rw [show xs = xs.toList.toArray by simp] at k
  rw [show ys = ys.toList.toArray by simp] at k'
  exact PySem.W.ke_eq_ints k k' (intsAre_of p) (intsAre_of p') hu ⟨rfl, kpRefl s⟩
theorem op_ne_ints {a b : List Int} (hu : A.units + 64 < cLine) : Op2 prog w A hs (compareOp .NotEq) (IntsV a) (IntsV b) (BoolV (!decide (a = b))) := by
  rintro h _ _ ⟨l, xs, rfl, L, p⟩ ⟨l', ys, rfl, L', p'⟩ s E e od
  have k := (LV.ext e _ _ L).2
  have k' := (LV.ext e _ _ L').2
  rw [show xs = xs.toList.toArray by simp] at k
  rw [show ys = ys.toList.toArray by simp] at k'
  exact PySem.W.ke_ne_ints k k' (intsAre_of p) (intsAre_of p') hu ⟨rfl, kpRefl s⟩
theorem op_catI {a b : List Int} (hz : a.length + b.length ≤ sizeLine) : Op2 prog w A hs (binaryOp .Add) (IntsV a) (IntsV b) (IntsV (a ++ b)) := by
  have := op_cat (prog := prog) (w := w) (A := A) (hs := hs) (Ps := a.map IntV) (Qs := b.map IntV) (by simpa using hz)
  rw [← List.map_append] at this; exact this

def nearL (middle ends : List Int) (mean lots : Int) : Bool :=
  if decide (lmin (middle ++ ends) < mean.fdiv 12) || decide (mean.fdiv 12 + (if 0 < mean.fmod 12 then 1 else 0) < lmax (middle ++ ends)) then false
  else if decide (mean.fmod 12 * (mean.fdiv 12 + 2) < 12) && !decide (ends = [mean.fdiv 12, mean.fdiv 12]) then false
  else decide (12 ≤ (12 - mean.fmod 12) * (lots - mean.fdiv 12 + 1)) || decide (ends = [mean.fdiv 12 + 1, mean.fdiv 12 + 1])

theorem Ev.binR {a b : Expr} {op : Operator} {pos : Pos} {P Q R : VP} (x : Ev prog w A env hs h a P) (y : Ev prog w A env hs h b Q) (o : Op2 prog w A hs (binaryOp op) P Q R) : Ev prog w A env hs h (.BinOp a op b pos) R := Ev.bin o x y
theorem Ev.cmpR {a b : Expr} {op : CmpOp} {pos : Pos} {P Q R : VP} (x : Ev prog w A env hs h a P) (y : Ev prog w A env hs h b Q) (o : Op2 prog w A hs (compareOp op) P Q R)
    (hm : behindInMarks op b = false := by with_unfolding_all rfl) : Ev prog w A env hs h (.Compare a [op] [b] pos) R := Ev.cmp o x y hm
theorem Et.cmpR {a b : Expr} {op : CmpOp} {pos : Pos} {P Q : VP} {c : Bool} (x : Ev prog w A env hs h a P) (y : Ev prog w A env hs h b Q) (o : Op2 prog w A hs (compareOp op) P Q (BoolV c))
    (hm : behindInMarks op b = false := by with_unfolding_all rfl) : Et prog w A env hs h (.Compare a [op] [b] pos) c := Et.cmp o x y hm
theorem okE {scope : Scope} {q : Str} {L a : Addr} {cd : Value} (hk : scope.kind = .function) : EnvOk (envK scope q L a cd) [] := ⟨hk, by simp, by simp⟩
theorem Room.u64 {k : Nat} (rm : Room (k + 1) A) (env : Env) : (A.deeper env).units + 64 < cLine := by have := (rm.deeper env).u; omega

theorem intBits_small {a : Int} (h : a.natAbs < 2 ^ 40) : Builtin.Int.intBits a ≤ 64 := by
  exact PySem.intBits_le_iff.mpr (Nat.lt_of_lt_of_le h (by decide))
theorem mulL {a b : Int} (h : a.natAbs < 2 ^ 40) : IntMulOk a b := IntMulOk.of_left (intBits_small h)

theorem near (W : Wd mg mb T h) (rm : Room 1 A) (middle ends : List Int) (hm : middle ≠ []) (hm2 : middle.length ≤ 100) (he2 : ends.length ≤ 100) (mean lots : Int) :
    CallF prog w A [] h T.near [IntsV middle, IntsV ends, IntV mean, IntV lots] [] (BoolV (nearL middle ends mean lots)) := by
  have X := W.near
  refine ⟨let ⟨o, fd, h1, h2, _⟩ := X.ex; ⟨o, fd, h1, h2⟩, ?_⟩
  rintro h' vs ks e (_ | ⟨p1, (_ | ⟨p2, (_ | ⟨p3, (_ | ⟨p4, (_ | _)⟩)⟩)⟩)⟩) (_ | _) s E ex od
  refine wpAny_call (call_enter ["middle", "ends", "mean", "lots"] (X.ext (e.trans ex)) (W.gc.lim.keeps (e.trans ex)) rm.dep (.cons (VP.ext _ ex p1) (.cons (VP.ext _ ex p2) (.cons (VP.ext _ ex p3) (.cons (VP.ext _ ex p4) .nil)))) fun cd s₁ F => ?_)
  have hr0 : 0 ≤ mean.fmod 12 := Int.fmod_nonneg_of_pos _ (by decide)
  have hr1 : mean.fmod 12 < 12 := Int.fmod_lt_of_pos _ (by decide)
  have hne : middle ++ ends ≠ [] := by simp [hm]
  refine xs_tuple_swapped (names := ["down", "rest"]) F (okE rfl) rm.h (by rfl) (Lv.cons (Ev.bin (op_fdiv (by decide) (by decide)) (by walk_at "nm") Ev.cint) (Lv.cons (Ev.bin (op_fmod (by decide)) (by walk_at "nm") Ev.cint) Lv.nil)) (by walk_at "sto") fun s₂ F => ?_
  have W₂ := W.ext ((e.trans ex).trans F.ext0)
  refine xs_if F (Et.or2 (Et.cmp op_lt (Ev.callB (by walk_at "nm") (Lv.cons (Ev.binR (by walk_at "nm") (by walk_at "nm") (op_catI (by have : sizeLine = 2 ^ 24 := rfl; omega))) Lv.nil) (cb_min rm.h hne)) (by walk_at "nm"))
    fun _ => Et.cmp op_gt (Ev.callB (by walk_at "nm") (Lv.cons (Ev.binR (by walk_at "nm") (by walk_at "nm") (op_catI (by have : sizeLine = 2 ^ 24 := rfl; omega))) Lv.nil) (cb_max rm.h hne))
      (Ev.bin op_add (by walk_at "nm") (P := IntV (mean.fdiv 12)) (Q := IntV (if 0 < mean.fmod 12 then 1 else 0)) (Ev.ite (Et.cmp op_gt (by walk_at "nm") Ev.cint) (fun z => by simp only [decide_eq_true_eq] at z; rw [if_pos z]; exact Ev.cint) (fun z => by simp only [decide_eq_false_iff_not] at z; rw [if_neg z]; exact Ev.cint))))
    (fun hb s₃ F => xs_return F Ev.cbool fun v s₄ p F => ⟨by unfold nearL; rw [if_pos hb]; exact p, F.keeps0⟩) fun hb s₃ F => xs_nil ?_
  refine xs_if F (Et.and2 (Et.cmp op_lt (Ev.binR (by walk_at "nm") (Ev.bin op_add (by walk_at "nm") Ev.cint) (op_mul (mulL (by omega)))) Ev.cint) fun _ => Et.cmpR (by walk_at "nm") (Ev.list (Nat.le_of_ble_eq_true rfl) (Lv.cons (by walk_at "nm") (Lv.cons (by walk_at "nm") Lv.nil))) (op_ne_ints (b := [mean.fdiv 12, mean.fdiv 12]) (rm.u64 _)))
    (fun hb2 s₄ F => xs_return F Ev.cbool fun v s₄ p F => ⟨by unfold nearL; rw [if_neg (by rw [hb]; decide), if_pos hb2]; exact p, F.keeps0⟩) fun hb2 s₄ F => xs_nil ?_
  refine xs_return F (Ev.or2 (Ev.cmp op_ge (Ev.binR (Ev.bin op_sub Ev.cint (by walk_at "nm")) (Ev.bin op_add (Ev.bin op_sub (by walk_at "nm") (by walk_at "nm")) Ev.cint) (op_mul (mulL (by omega)))) Ev.cint)
    fun _ => Ev.cmpR (by walk_at "nm") (Ev.list (Nat.le_of_ble_eq_true rfl) (Lv.cons (Ev.bin op_add (by walk_at "nm") Ev.cint) (Lv.cons (Ev.bin op_add (by walk_at "nm") Ev.cint) Lv.nil))) (op_eq_ints (b := [mean.fdiv 12 + 1, mean.fdiv 12 + 1]) (rm.u64 _))) fun v s₅ p F => ⟨?_, F.keeps0⟩
  unfold nearL
  rw [if_neg (by rw [hb]; decide), if_neg (by rw [hb2]; decide)]
  exact p
end
end Mine
end

section
open PySem PySem.Calls PyProof.Rows
set_option maxRecDepth 100000
set_option linter.unusedVariables false
namespace Mine

/-- one step of fsum over small ints, told by the sum so far -/
def psOf (S : Int) : List UInt64 := if S = 0 then [] else [Float64.ofInt S]
def okStep (S b : Int) : Bool :=
  let r := Float64.fsumAdd (psOf S) (Float64.ofInt b)
  Float64.isFinite r.2 && ((if Float64.isZero r.2 then r.1 else r.1 ++ [r.2]) == psOf (S + b)) && !Float64.isInf (Float64.ofInt b)
def fsumOk : Int → List Int → Bool
  | _, [] => true
  | S, b :: r => okStep S b && fsumOk (S + b) r

theorem entry_fsum : entryFor table "math.fsum" = some Builtin.«math.fsum» := entryFor_of_fast (by kernel_rfl)
theorem entry_fsum_loop : entryFor table "math.fsum.loop" = some Builtin.«math.fsum.loop» := entryFor_of_fast (by kernel_rfl)
theorem kind_fsum : builtinKind "math.fsum" = none := by decide +kernel
theorem plain_fsum : plainId "math.fsum" = true := by decide +kernel
theorem plain_fsum_loop : plainId "math.fsum.loop" = true := by decide +kernel
theorem args_fsum (a : Value) : argsOk "math.fsum" ⟨[a], []⟩ := by unfold argsOk; kernel_rfl

abbrev bitsObj (ps : List UInt64) : Obj := { cls := .type "tuple", data := .seq (ps.map fun x => rawInt x.toNat).toArray }

section
variable {prog : Program} {w : World} {A : Around}

theorem bits_back (x : UInt64) : ((x.toNat : Nat) : Int).toNat.toUInt64 = x := by simp
theorem unpack_back {f : Value → UInt64} (hf : ∀ i t, f (.int i t) = i.toNat.toUInt64) (ps : List UInt64) : ((some (ps.map fun x => rawInt x.toNat).toArray).getD #[]).toList.map f = ps := by
  induction ps with
  | nil => rfl
  | cons x r ih =>
    simp only [Option.getD_some, List.map_cons, rawInt, hf] at ih ⊢
    rw [ih]
    simp

theorem fsumEnd_psOf (S : Int) : Float64.fsumEnd (psOf S) = Float64.ofInt S := by
  unfold psOf
  split
  · rename_i h; subst h; decide +kernel
  · rfl

theorem fsum_loop (hh : A.handled = none) {I l tq : Addr} {xs : Array (Int × Tok)} (hlI : l ≠ I) : ∀ (k i : Nat) (s : Shared) (S : Int) (tp : Addr) (R : Result → Shared → Prop), xs.size - i = k → i ≤ xs.size → s.heap.IsListIter I l i → s.heap.IsList l (intItems xs) →
    s.heap.get? tp = some (bitsObj (psOf S)) → s.heap.get? tq = some (bitsObj [Float64.zero false, Float64.zero false]) → tp ≠ I → tq ≠ I → fsumOk S ((xs.toList.drop i).map (·.1)) = true →
    (∀ h' tk, (∀ b o, b ≠ I → s.heap.get? b = some o → h'.get? b = some o) → ∀ t, R (.ok (.ret (.float (Float64.ofInt (S + ((xs.toList.drop i).map (·.1)).sum)) t))) { s with heap := h', toks := tk }) →
    codeAny (model prog w) A (.builtin "math.fsum.loop" ⟨[.ref I, .ref tp, .ref tq], []⟩) R s := by
  intro k
  induction k with
  | zero =>
    intro i s S tp R hk hi hit hl htp htq hpI hqI hok hR
    refine codeAny_builtin entry_fsum_loop ?_
    rw [Around.under_plainId plain_fsum_loop _]
    show wpAny _ A.in1 (_ >>= _) _ _ s
    refine wpAny_bind ?_
    show wpAny _ A.in1 (_ >>= _) _ _ s
    refine wpAny_bind (wpAny_seqItems htp rfl (wpAny_pure ?_))
    refine wpAny_bind ?_
    show wpAny _ A.in1 (_ >>= _) _ _ s
    refine wpAny_bind (wpAny_seqItems htq rfl (wpAny_pure ?_))
    show wpAny _ A.in1 (pyNext (.ref I) >>= _) _ _ s
    have hx : (intItems xs)[i]? = none := by simp [intItems]; omega
    refine wpAny_bind (wpAny_pyNext_list_end hh hit hl hx fun h' he => ?_)
    show wpAny _ A.in1 (if _ then _ else _) _ _ _
    rw [if_neg (by decide +kernel), unpack_back (fun _ _ => rfl), fsumEnd_psOf]
    have hd : (xs.toList.drop i).map (·.1) = [] := by rw [List.drop_eq_nil_of_le (by rw [Array.length_toList]; omega)]; rfl
    rw [hd, List.sum_nil, Int.add_zero] at hR
    intro Γ p _
    exact hR h' (s.toks + 1) (fun b o hb e => he b o hb e) s.toks
  | succ k ih =>
    intro i s S tp R hk hi hit hl htp htq hpI hqI hok hR
    have hlt : i < xs.size := by omega
    refine codeAny_builtin entry_fsum_loop ?_
    rw [Around.under_plainId plain_fsum_loop _]
    show wpAny _ A.in1 (_ >>= _) _ _ s
    refine wpAny_bind ?_
    show wpAny _ A.in1 (_ >>= _) _ _ s
    refine wpAny_bind (wpAny_seqItems htp rfl (wpAny_pure ?_))
    refine wpAny_bind ?_
    show wpAny _ A.in1 (_ >>= _) _ _ s
    refine wpAny_bind (wpAny_seqItems htq rfl (wpAny_pure ?_))
    show wpAny _ A.in1 (pyNext (.ref I) >>= _) _ _ s
    have hx : (intItems xs)[i]? = some (.int xs[i].1 xs[i].2) := by simp [intItems, hlt]
    refine wpAny_bind (wpAny_pyNext_list_item hit hl hx fun h' hit' hs' => ?_)
    show wpAny _ A.in1 (holding [_] (Builtin.Math.realArg (.int xs[i].1 xs[i].2)) >>= _) _ _ _
    have hd : (xs.toList.drop i).map (·.1) = xs[i].1 :: (xs.toList.drop (i + 1)).map (·.1) := by
      rw [List.drop_eq_getElem_cons (by rw [Array.length_toList]; exact hlt), List.map_cons]; simp
    rw [hd] at hok hR
    simp only [fsumOk, okStep, Bool.and_eq_true, Bool.not_eq_true', beq_iff_eq] at hok
    obtain ⟨⟨⟨h1, h2⟩, h3⟩, h4⟩ := hok
    refine wpAny_bind (wpAny_holding (PySem.Flt.realArg_int hh (fun c => absurd (PySem.Flt.inf_of_over c) (by rw [h3]; decide)) fun _ => ?_))
    rw [unpack_back (fun _ _ => rfl)]
    show wpAny _ A.in1 (if Float64.isFinite (Float64.fsumAdd (psOf S) (Float64.ofInt xs[i].1)).2 = true then _ else _) _ _ _
    rw [if_pos h1]
    show wpAny _ A.in1 (newTuple ((if Float64.isZero (Float64.fsumAdd (psOf S) (Float64.ofInt xs[i].1)).2 = true then (Float64.fsumAdd (psOf S) (Float64.ofInt xs[i].1)).1 else (Float64.fsumAdd (psOf S) (Float64.ofInt xs[i].1)).1 ++ [(Float64.fsumAdd (psOf S) (Float64.ofInt xs[i].1)).2]).map fun x => rawInt x.toNat) >>= _) _ _ _
    rw [h2]
    have hz : (psOf (S + xs[i].1)).length ≤ 1 := by unfold psOf; split <;> simp
    refine wpAny_bind (wpAny_newTuple ?_ (by rw [List.length_map]; exact Nat.le_trans hz (by decide)))
    have hI' : I < h'.objs.size := by obtain ⟨o, e, _⟩ := hit'; exact Heap.lt_size e
    have up : ∀ b o, b ≠ I → s.heap.get? b = some o → (h'.push (bitsObj (psOf (S + xs[i].1)))).get? b = some o := fun b o hb e => Ext.push _ _ _ _ (hs'.extBut b o hb e)
    refine wpAny_pure ⟨plainId_quiet plain_fsum_loop _, ih (i + 1) _ _ h'.objs.size R (by omega) hlt ?_ ?_ (Heap.get?_push_size _ rfl) (up tq _ hqI htq) (Nat.ne_of_gt hI') hqI h4 fun h'' tk hk t => ?_⟩
    · obtain ⟨o, e, r⟩ := hit'
      exact ⟨o, Ext.push _ _ _ _ e, r⟩
    · obtain ⟨o, e, r⟩ := hl
      exact ⟨o, up _ _ hlI e, r⟩
    · have := hR h'' tk (fun b o hb e => hk b o hb (up b o hb e)) t
      rw [List.sum_cons, ← Int.add_assoc] at this
      exact this

variable {hs : List Addr}
theorem cb_fsum {ns : List Int} (hh : A.handled = none) (hok : fsumOk 0 ns = true) : CallB prog w A hs (.builtin "math.fsum") [IntsV ns] (FltV (Float64.ofInt ns.sum)) := by
  rintro h vs (_ | ⟨⟨a, items, rfl, l, p⟩, (_ | _)⟩) s E e od
  obtain ⟨xs, rfl, rfl⟩ := intItems_of p
  have hl := (LV.ext e _ _ l).2
  have hla : a < s.heap.objs.size := by obtain ⟨_, e, _⟩ := hl; exact Heap.lt_size e
  refine call_function_tree kind_fsum plain_fsum entry_fsum (args_fsum _) ?_
  show wpAny _ A.in1 (pyIter (.ref a) >>= _) _ _ s
  refine wpAny_bind (wpAny_pyIter_list hl ?_)
  show wpAny _ A.in1 (newTuple [] >>= _) _ _ _
  refine wpAny_bind (wpAny_newTuple ?_ (Nat.zero_le _))
  show wpAny _ A.in1 (newTuple [rawInt (Float64.zero false).toNat, rawInt (Float64.zero false).toNat] >>= _) _ _ _
  refine wpAny_bind (wpAny_newTuple ?_ (by decide))
  refine wpAny_pure ⟨plainId_quiet plain_fsum_loop _, ?_⟩
  dsimp only
  generalize h1 : s.heap.push { cls := .type "list_iterator", data := .fields #[.ref a, .int 0 0] } = H1
  generalize h2 : H1.push { cls := .type "tuple", data := .seq ([] : List Value).toArray } = H2
  generalize h3 : H2.push { cls := .type "tuple", data := .seq [rawInt (Float64.zero false).toNat, rawInt (Float64.zero false).toNat].toArray } = H3
  have s1 : H1.objs.size = s.heap.objs.size + 1 := by rw [← h1, Heap.size_push]
  have s2 : H2.objs.size = s.heap.objs.size + 2 := by rw [← h2, Heap.size_push, s1]
  have x12 : Ext H1 H2 := h2 ▸ Ext.push _ _
  have x23 : Ext H2 H3 := h3 ▸ Ext.push _ _
  have x01 : Ext s.heap H1 := h1 ▸ Ext.push _ _
  refine fsum_loop (xs := xs) hh (l := a) (I := s.heap.objs.size) (tq := H2.objs.size) (Nat.ne_of_lt hla) xs.size 0 _ 0 H1.objs.size _ rfl (Nat.zero_le _) ?_ ?_ ?_ ?_ ?_ ?_ (by simpa using hok) fun h' tk hk t => ?_
  · exact ⟨_, x23 _ _ (x12 _ _ (h1 ▸ Heap.get?_push_size _ rfl)), rfl, rfl⟩
  · obtain ⟨o, q, r⟩ := hl
    exact ⟨o, x23 _ _ (x12 _ _ (x01 _ _ q)), r⟩
  · exact x23 _ _ (h2 ▸ Heap.get?_push_size _ rfl)
  · exact h3 ▸ Heap.get?_push_size _ rfl
  · rw [s1]; exact Nat.ne_of_gt (Nat.lt_succ_self _)
  · show H2.objs.size ≠ s.heap.objs.size
    rw [s2]; exact Nat.ne_of_gt (Nat.lt_add_of_pos_right (by decide))
  · refine ⟨⟨t, ?_⟩, kpOf fun b o q => hk b o (Nat.ne_of_lt (Heap.lt_size q)) (x23 _ _ (x12 _ _ (x01 _ _ q)))⟩
    rw [List.drop_zero, Int.zero_add]

/-! sumprod of small ints -/
theorem entry_sumprod : entryFor table "math.sumprod" = some Builtin.«math.sumprod» := entryFor_of_fast (by kernel_rfl)
theorem entry_sumprod_loop : entryFor table "math.sumprod.loop" = some Builtin.«math.sumprod.loop» := entryFor_of_fast (by kernel_rfl)
theorem kind_sumprod : builtinKind "math.sumprod" = none := by decide +kernel
theorem plain_sumprod : plainId "math.sumprod" = true := by decide +kernel
theorem plain_sumprod_loop : plainId "math.sumprod.loop" = true := by decide +kernel
theorem args_sumprod (a b : Value) : argsOk "math.sumprod" ⟨[a, b], []⟩ := by unfold argsOk; kernel_rfl
def fitsL (i : Int) : Bool := -(2 ^ 63) ≤ i && i ≤ Builtin.Math.maxSsize
def spOk : Int → List (Int × Int) → Bool
  | _, [] => true
  | S, (a, b) :: r => fitsL a && fitsL b && fitsL (a * b) && fitsL (S + a * b) && spOk (S + a * b) r
def spSum : List (Int × Int) → Int
  | [] => 0
  | (a, b) :: r => a * b + spSum r
abbrev threeObj : Obj := { cls := .type "tuple", data := .seq [rawInt (Float64.zero false).toNat, rawInt (Float64.zero false).toNat, rawInt (Float64.zero false).toNat].toArray }

theorem sumprod_loop (hh : A.handled = none) {I J l l' tf : Addr} {xs ys : Array (Int × Tok)} (hn : xs.size = ys.size) (hIJ : I ≠ J) (hlI : l ≠ I) (hlJ : l ≠ J) (hlI' : l' ≠ I) (hlJ' : l' ≠ J) (htI : tf ≠ I) (htJ : tf ≠ J) (t0 : Tok) : ∀ (k i : Nat) (s : Shared) (S : Int) (used : Bool) (R : Result → Shared → Prop), xs.size - i = k → i ≤ xs.size → s.heap.IsListIter I l i → s.heap.IsList l (intItems xs) → s.heap.IsListIter J l' i → s.heap.IsList l' (intItems ys) →
    s.heap.get? tf = some threeObj → (used = false → S = 0) → spOk S (((xs.toList.map (·.1)).zip (ys.toList.map (·.1))).drop i) = true →
    (∀ h' tk, (∀ b o, b ≠ I → b ≠ J → s.heap.get? b = some o → h'.get? b = some o) → ∀ t, R (.ok (.ret (.int (S + spSum (((xs.toList.map (·.1)).zip (ys.toList.map (·.1))).drop i)) t))) { s with heap := h', toks := tk }) →
    codeAny (model prog w) A (.builtin "math.sumprod.loop" ⟨[.ref I, .ref J, .int 0 t0, .bool true, rawInt S, .bool used, .bool true, .ref tf, .bool false], []⟩) R s := by
  intro k
  induction k with
  | zero =>
    intro i s S used R hk hi hit hl hjt hl' htf hu hok hR
    refine codeAny_builtin entry_sumprod_loop ?_
    rw [Around.under_plainId plain_sumprod_loop _]
    show wpAny _ A.in1 (seqItems? (.ref tf) >>= _) _ _ s
    refine wpAny_bind (wpAny_seqItems htf rfl ?_)
    show wpAny _ A.in1 (pyNext (.ref I) >>= _) _ _ s
    have hx : (intItems xs)[i]? = none := by simp [intItems]; omega
    refine wpAny_bind (wpAny_pyNext_list_end hh hit hl hx fun h₁ he₁ => ?_)
    show wpAny _ A.in1 (holding [] (pyNext (.ref J)) >>= _) _ _ _
    have hx' : (intItems ys)[i]? = none := by simp [intItems]; omega
    refine wpAny_bind (wpAny_holding (wpAny_pyNext_list_end hh (hjt.at fun o e => he₁ _ o (Ne.symm hIJ) e) (hl'.at fun o e => he₁ _ o hlI' e) hx' fun h₂ he₂ => ?_))
    have hd : ((xs.toList.map (·.1)).zip (ys.toList.map (·.1))).drop i = [] := List.drop_eq_nil_of_le (by simp; omega)
    rw [hd] at hR
    have kk : ∀ b o, b ≠ I → b ≠ J → s.heap.get? b = some o → h₂.get? b = some o := fun b o h1 h2 e => he₂ b o h2 (he₁ b o h1 e)
    cases used with
    | true =>
      show wpAny _ A.in1 (rule _ >>= _) _ _ _
      refine wpAny_bind (wpAny_rule ?_)
      show wpAny _ A.in1 (mkInt S >>= _) _ _ _
      refine wpAny_bind (wpAny_mkInt ?_)
      show wpAny _ A.in1 (holding _ (binaryOp .Add (.int 0 t0) (.int S _)) >>= _) _ _ _
      refine wpAny_bind (wpAny_holding (add_int ?_))
      show wpAny _ A.in1 (rule _ >>= _) _ _ _
      refine wpAny_bind (wpAny_rule ?_)
      have := hR h₂ (s.toks + 1 + 1) kk (s.toks + 1)
      intro Γ p _
      rw [Int.zero_add]
      simpa [spSum] using this
    | false =>
      have := hu rfl
      subst this
      show wpAny _ A.in1 (rule _ >>= _) _ _ _
      refine wpAny_bind (wpAny_rule ?_)
      show wpAny _ A.in1 (rule _ >>= _) _ _ _
      refine wpAny_bind (wpAny_rule ?_)
      have := hR h₂ s.toks kk t0
      intro Γ p _
      simpa [spSum] using this
  | succ k ih =>
    intro i s S used R hk hi hit hl hjt hl' htf hu hok hR
    have hlt : i < xs.size := by omega
    have hlt' : i < ys.size := by omega
    refine codeAny_builtin entry_sumprod_loop ?_
    rw [Around.under_plainId plain_sumprod_loop _]
    show wpAny _ A.in1 (seqItems? (.ref tf) >>= _) _ _ s
    refine wpAny_bind (wpAny_seqItems htf rfl ?_)
    show wpAny _ A.in1 (pyNext (.ref I) >>= _) _ _ s
    have hx : (intItems xs)[i]? = some (.int xs[i].1 xs[i].2) := by simp [intItems, hlt]
    refine wpAny_bind (wpAny_pyNext_list_item hit hl hx fun h₁ hit₁ hs₁ => ?_)
    show wpAny _ A.in1 (holding _ (pyNext (.ref J)) >>= _) _ _ _
    have hx' : (intItems ys)[i]? = some (.int ys[i].1 ys[i].2) := by simp [intItems, hlt']
    refine wpAny_bind (wpAny_holding (wpAny_pyNext_list_item (hjt.at fun o e => hs₁.extBut _ o (Ne.symm hIJ) e) (hl'.at fun o e => hs₁.extBut _ o hlI' e) hx' fun h₂ hjt₂ hs₂ => ?_))
    have hd : ((xs.toList.map (·.1)).zip (ys.toList.map (·.1))).drop i = (xs[i].1, ys[i].1) :: ((xs.toList.map (·.1)).zip (ys.toList.map (·.1))).drop (i + 1) := by
      rw [List.drop_eq_getElem_cons (by simp; omega)]; simp
    rw [hd] at hok hR
    simp only [spOk, Bool.and_eq_true] at hok
    obtain ⟨⟨⟨⟨h1, h2⟩, h3⟩, h4⟩, h5⟩ := hok
    show wpAny _ A.in1 (if (fitsL xs[i].1 && fitsL ys[i].1 && fitsL (xs[i].1 * ys[i].1) && fitsL (S + xs[i].1 * ys[i].1)) = true then _ else _) _ _ _
    rw [if_pos (by rw [h1, h2, h3, h4]; rfl)]
    have kk : ∀ b o, b ≠ I → b ≠ J → s.heap.get? b = some o → h₂.get? b = some o := fun b o h1 h2 e => hs₂.extBut b o h2 (hs₁.extBut b o h1 e)
    refine wpAny_pure ⟨plainId_quiet plain_sumprod_loop _, ih (i + 1) _ _ true R (by omega) hlt (hit₁.at fun o e => hs₂.extBut _ o hIJ e) (hl.at fun o e => kk _ o hlI hlJ e) hjt₂ (hl'.at fun o e => kk _ o hlI' hlJ' e) (kk _ _ htI htJ htf) (fun z => by cases z) h5 fun h' tk hk t => ?_⟩
    have := hR h' tk (fun b o h1 h2 e => hk b o h1 h2 (kk b o h1 h2 e)) t
    simp only [spSum] at this
    rw [← Int.add_assoc] at this
    exact this

theorem cb_sumprod {ns ms : List Int} (hh : A.handled = none) (hl : ns.length = ms.length) (hok : spOk 0 (ns.zip ms) = true) : CallB prog w A hs (.builtin "math.sumprod") [IntsV ns, IntsV ms] (IntV (spSum (ns.zip ms))) := by
  rintro h vs (_ | ⟨⟨a, items, rfl, l, p⟩, (_ | ⟨⟨a', items', rfl, l', p'⟩, (_ | _)⟩)⟩) s E e od
  obtain ⟨xs, rfl, rfl⟩ := intItems_of p
  obtain ⟨ys, rfl, rfl⟩ := intItems_of p'
  have hl1 := (LV.ext e _ _ l).2
  have hl2 := (LV.ext e _ _ l').2
  have hla : a < s.heap.objs.size := by obtain ⟨_, e, _⟩ := hl1; exact Heap.lt_size e
  have hla' : a' < s.heap.objs.size := by obtain ⟨_, e, _⟩ := hl2; exact Heap.lt_size e
  refine call_function_tree kind_sumprod plain_sumprod entry_sumprod (args_sumprod _ _) ?_
  show wpAny _ A.in1 (pyIter (.ref a) >>= _) _ _ s
  refine wpAny_bind (wpAny_pyIter_list hl1 ?_)
  show wpAny _ A.in1 (holding _ (pyIter (.ref a')) >>= _) _ _ _
  refine wpAny_bind (wpAny_holding (wpAny_pyIter_list (hl2.push _) ?_))
  show wpAny _ A.in1 (mkInt 0 >>= _) _ _ _
  refine wpAny_bind (wpAny_mkInt ?_)
  show wpAny _ A.in1 (newTuple [rawInt (Float64.zero false).toNat, rawInt (Float64.zero false).toNat, rawInt (Float64.zero false).toNat] >>= _) _ _ _
  refine wpAny_bind (wpAny_newTuple ?_ (by decide))
  refine wpAny_pure ⟨plainId_quiet plain_sumprod_loop _, ?_⟩
  dsimp only
  generalize h1 : s.heap.push { cls := .type "list_iterator", data := .fields #[.ref a, .int 0 0] } = H1
  generalize h2 : H1.push { cls := .type "list_iterator", data := .fields #[.ref a', .int 0 0] } = H2
  generalize h3 : H2.push { cls := .type "tuple", data := .seq [rawInt (Float64.zero false).toNat, rawInt (Float64.zero false).toNat, rawInt (Float64.zero false).toNat].toArray } = H3
  have s1 : H1.objs.size = s.heap.objs.size + 1 := by rw [← h1, Heap.size_push]
  have s2 : H2.objs.size = s.heap.objs.size + 2 := by rw [← h2, Heap.size_push, s1]
  have x12 : Ext H1 H2 := h2 ▸ Ext.push _ _
  have x23 : Ext H2 H3 := h3 ▸ Ext.push _ _
  have x01 : Ext s.heap H1 := h1 ▸ Ext.push _ _
  have n1 : s.heap.objs.size ≠ H1.objs.size := by rw [s1]; exact Nat.ne_of_lt (Nat.lt_succ_self _)
  have n2 : s.heap.objs.size ≠ H2.objs.size := by rw [s2]; exact Nat.ne_of_lt (Nat.lt_add_of_pos_right (by decide))
  have n3 : H1.objs.size ≠ H2.objs.size := by rw [s2, s1]; exact Nat.ne_of_lt (Nat.lt_succ_self _)
  have lt1 : ∀ {b : Nat}, b < s.heap.objs.size → b ≠ H1.objs.size := fun hb => by rw [s1]; exact Nat.ne_of_lt (Nat.lt_succ_of_lt hb)
  refine sumprod_loop (xs := xs) (ys := ys) hh (l := a) (l' := a') (I := s.heap.objs.size) (J := H1.objs.size) (tf := H2.objs.size) (by simpa using hl) n1 (Nat.ne_of_lt hla) (lt1 hla) (Nat.ne_of_lt hla') (lt1 hla') (Ne.symm n2) (Ne.symm n3) _ xs.size 0 _ 0 false _ rfl (Nat.zero_le _) ?_ ?_ ?_ ?_ ?_ (fun _ => rfl) (by simpa using hok) fun h' tk hk t => ?_
  · exact ⟨_, x23 _ _ (x12 _ _ (h1 ▸ Heap.get?_push_size _ rfl)), rfl, rfl⟩
  · obtain ⟨o, q, r⟩ := hl1
    exact ⟨o, x23 _ _ (x12 _ _ (x01 _ _ q)), r⟩
  · exact ⟨_, x23 _ _ (h2 ▸ Heap.get?_push_size _ rfl), rfl, rfl⟩
  · obtain ⟨o, q, r⟩ := hl2
    exact ⟨o, x23 _ _ (x12 _ _ (x01 _ _ q)), r⟩
  · exact h3 ▸ Heap.get?_push_size _ rfl
  · refine ⟨⟨t, ?_⟩, kpOf fun b o q => hk b o (Nat.ne_of_lt (Heap.lt_size q)) (lt1 (Heap.lt_size q)) (x23 _ _ (x12 _ _ (x01 _ _ q)))⟩
    rw [List.drop_zero, Int.zero_add]
end
end Mine
end

section
open PySem PySem.Calls PyProof.Rows
set_option maxRecDepth 100000
set_option linter.unusedVariables false
namespace Mine

local macro_rules | `(tactic| walk_at "nm") => `(tactic| first
  | exact FS.ev (by with_reducible assumption) rfl rfl
  | exact Wd.built (by with_reducible assumption) (by decide) (by first | exact boot_len | exact boot_sorted | exact boot_range | exact boot_max | exact boot_min | exact boot_sum | exact boot_list | exact boot_isinstance | exact boot_float | exact boot_tuple) rfl rfl rfl rfl)
local macro_rules | `(tactic| walk_at "sub") => `(tactic| repeat (first | exact List.forall_mem_nil _ | refine List.forall_mem_cons.mpr ⟨rfl, ?_⟩))
local macro_rules | `(tactic| walk_at "sto") => `(tactic| repeat (first | exact List.forall_mem_nil _ | refine List.forall_mem_cons.mpr ⟨by first | exact Or.inl rfl | exact Or.inr ⟨rfl, rfl⟩, ?_⟩))

section
variable {prog : Program} {w : World} {A : Around} {hs : List Addr} {h : Heap} {env : Env} {mg mb : Str → Option Value} {T : Tab} {a b : Int}

def divI (a b : Int) : UInt64 := Float64.ofFrac (decide (a < 0) != decide (b < 0)) a.natAbs b.natAbs
theorem fit23 {a : Int} (h : a.natAbs < 2 ^ 40) : a.natAbs < 2 ^ 1023 := Nat.lt_of_lt_of_le h (Nat.pow_le_pow_right (by decide) (by decide))
theorem op_div_ii (hA : A.handled = none) (hfit : a.natAbs < 2 ^ 40) (hb : b ≠ 0) : Op2 prog w A hs (binaryOp .Div) (IntV a) (IntV b) (FltV (divI a b)) := by
  rintro h _ _ ⟨t, rfl⟩ ⟨u, rfl⟩ s E e od
  exact PySem.Flt.div_ii_fits hA (fit23 hfit) (fun z => absurd z hb) fun _ _ => ⟨⟨_, rfl⟩, kpOf (Ext.refl _)⟩
theorem op_div_fi {x : UInt64} (hfit : b.natAbs < 2 ^ 40) (hb : b ≠ 0) : Op2 prog w A hs (binaryOp .Div) (FltV x) (IntV b) (FltV (Float64.div x (Float64.ofInt b))) := by
  rintro h _ _ ⟨t, rfl⟩ ⟨u, rfl⟩ s E e od
  exact AutoFloatOps.truediv_fi_2 (Float64.ofInt_fits (fit23 hfit)) (PySem.Flt.nz_ofInt hb) ⟨⟨_, rfl⟩, kpOf (Ext.refl _)⟩
theorem op_div_if {c : Int} (hfit : a.natAbs < 2 ^ 40) (hc : c ≠ 0) : Op2 prog w A hs (binaryOp .Div) (IntV a) (FltV (Float64.ofInt c)) (FltV (Float64.div (Float64.ofInt a) (Float64.ofInt c))) := by
  rintro h _ _ ⟨t, rfl⟩ ⟨u, rfl⟩ s E e od
  exact AutoFloatOps.truediv_if_2 (Float64.ofInt_fits (fit23 hfit)) (PySem.Flt.nz_ofInt hc) ⟨⟨_, rfl⟩, kpOf (Ext.refl _)⟩
theorem op_mul_if {x : UInt64} (hfit : a.natAbs < 2 ^ 40) : Op2 prog w A hs (binaryOp .Mult) (IntV a) (FltV x) (FltV (Float64.mul (Float64.ofInt a) x)) := by
  rintro h _ _ ⟨t, rfl⟩ ⟨u, rfl⟩ s E e od
  exact mul_if_fits (fit23 hfit) ⟨⟨_, rfl⟩, kpOf (Ext.refl _)⟩
theorem op_ne_fi {x : UInt64} : Op2 prog w A hs (compareOp .NotEq) (FltV x) (IntV b) (BoolV (Float64.cmpInt x b != some Ordering.eq)) := by
  rintro h _ _ ⟨t, rfl⟩ ⟨u, rfl⟩ s E e od
  exact ne_fi ⟨rfl, kpRefl s⟩
theorem op_ne : Op2 prog w A hs (compareOp .NotEq) (IntV a) (IntV b) (BoolV (a != b)) := by
  rintro h _ _ ⟨t, rfl⟩ ⟨u, rfl⟩ s E e od
  exact ne_int ⟨rfl, kpRefl s⟩
theorem tr_flt {c : Int} (hc : c ≠ 0) : Tr1 prog w A hs (FltV (Float64.ofInt c)) true := by
  rintro h _ ⟨t, rfl⟩ s E e od
  exact truthy_float ⟨by have := PySem.Flt.nz_ofInt hc; simpa using this, kpRefl s⟩

/-! equality, item by item -/
def EqP (A : Around) (hs : List Addr) (P Q : VP) (b : Bool) : Prop := ∀ (s : Shared) v u, P.p (LV hs s.heap) v → Q.p (LV hs s.heap) u → PySem.SeqAt.EqAt A s v u b
theorem eqp_int : EqP A hs (IntV a) (IntV b) (a == b) := by
  rintro s _ _ ⟨t, rfl⟩ ⟨u, rfl⟩
  exact PySem.SeqAt.EqAt.int_int a t b u
theorem eqp_bool {a b : Bool} : EqP A hs (BoolV a) (BoolV b) (a == b) := by
  rintro s _ _ rfl rfl
  exact PySem.SeqAt.EqAt.bool_bool a b
theorem eqp_fi {x : UInt64} : EqP A hs (FltV x) (IntV b) (Float64.cmpInt x b == some Ordering.eq) := by
  rintro s _ _ ⟨t, rfl⟩ ⟨u, rfl⟩ prog w E Q h
  unfold eqBool
  refine wpAny_holding ?_
  refine wpAny_ite_split (fun hab => absurd (eq_of_beq hab) nofun) (fun _ => ?_)
  exact wpAny_bind (eq_fi (wpAny_truthy_bool h))
theorem EqP.cast {P Q : VP} {b c : Bool} (x : EqP A hs P Q b) (e : b = c) : EqP A hs P Q c := e ▸ x
theorem pair_at {Ps Qs : List VP} {xs ys : Array Value} {s : Shared} (he : Paired (fun P Q => EqP A hs P Q true) Ps Qs) (p : Paired (fun (P : VP) x => P.p (LV hs s.heap) x) Ps xs.toList) (q : Paired (fun (P : VP) x => P.p (LV hs s.heap) x) Qs ys.toList) :
    xs.size = ys.size ∧ ∀ j (h1 : j < xs.size) (h2 : j < ys.size), PySem.SeqAt.EqAt A s xs[j] ys[j] true := by
  have l1 := he.length
  have l2 : Ps.length = xs.size := by rw [← Array.length_toList]; exact p.length
  have l3 : Qs.length = ys.size := by rw [← Array.length_toList]; exact q.length
  refine ⟨l2.symm.trans (he.length.trans l3), fun j h1 h2 => ?_⟩
  obtain ⟨P, e1, r1⟩ := Paired.getR p j (b := xs[j]) (by rw [Array.getElem?_toList]; exact Array.getElem?_eq_getElem h1)
  obtain ⟨Q, e2, r2⟩ := Paired.getR q j (b := ys[j]) (by rw [Array.getElem?_toList]; exact Array.getElem?_eq_getElem h2)
  obtain ⟨Q', e3, r3⟩ := Paired.get he j e1
  rw [e2] at e3; cases e3
  exact r3 s _ _ r1 r2
theorem all_true (n : Nat) : (List.range n).all (fun _ => true) = true := List.all_eq_true.mpr fun _ _ => rfl
theorem op_eq_lists {Ps Qs : List VP} (hu : A.units < cLine) (he : Paired (fun P Q => EqP A.in1 hs P Q true) Ps Qs) : Op2 prog w A hs (compareOp .Eq) (ListV Ps) (ListV Qs) (BoolV true) := by
  rintro h _ _ ⟨l, xs, rfl, L, p⟩ ⟨l', ys, rfl, L', p'⟩ s E e od
  have p := VP.ext (ListV Ps) e (v := .ref l) ⟨l, xs, rfl, L, p⟩
  have p' := VP.ext (ListV Qs) e (v := .ref l') ⟨l', ys, rfl, L', p'⟩
  obtain ⟨_, xs, q, L, p⟩ := p; cases q
  obtain ⟨_, ys, q, L', p'⟩ := p'; cases q
  obtain ⟨hsz, hj⟩ := pair_at he p p'
  exact PySem.SeqAt.eq_listAt L.2 L'.2 hsz hu hj ⟨by rw [all_true]; rfl, kpRefl s⟩
theorem op_ne_lists {Ps Qs : List VP} (hu : A.units < cLine) (he : Paired (fun P Q => EqP A.in1 hs P Q true) Ps Qs) : Op2 prog w A hs (compareOp .NotEq) (ListV Ps) (ListV Qs) (BoolV false) := by
  rintro h _ _ ⟨l, xs, rfl, L, p⟩ ⟨l', ys, rfl, L', p'⟩ s E e od
  have p := VP.ext (ListV Ps) e (v := .ref l) ⟨l, xs, rfl, L, p⟩
  have p' := VP.ext (ListV Qs) e (v := .ref l') ⟨l', ys, rfl, L', p'⟩
  obtain ⟨_, xs, q, L, p⟩ := p; cases q
  obtain ⟨_, ys, q, L', p'⟩ := p'; cases q
  obtain ⟨hsz, hj⟩ := pair_at he p p'
  exact PySem.SeqAt.RcNeAt.lists L.2 L'.2 hsz hu hj prog w E _ ⟨by rw [all_true]; rfl, kpRefl s⟩
theorem eqp_lists {Ps Qs : List VP} (hu : A.units < cLine) (he : Paired (fun P Q => EqP A.in1 hs P Q true) Ps Qs) : EqP A hs (ListV Ps) (ListV Qs) true := by
  rintro s _ _ ⟨l, xs, rfl, L, p⟩ ⟨l', ys, rfl, L', p'⟩
  obtain ⟨hsz, hj⟩ := pair_at he p p'
  by_cases hl : l = l'
  · subst hl; exact PySem.SeqAt.EqAt.same _
  · have := PySem.SeqAt.RcAt.lists L.2 L'.2 hsz hu hj
    rw [all_true] at this
    exact PySem.SeqAt.EqAt.of_refs hl this
theorem eqp_ints {l : List Int} (hu : A.units < cLine) : EqP A hs (IntsV l) (IntsV l) true := by
  refine eqp_lists hu ?_
  induction l with
  | nil => exact .nil
  | cons x r ih => exact .cons (eqp_int.cast (by simp)) ih
theorem op_notIn_true {n : Nat} : Op2 prog w A hs (compareOp .NotIn) (BoolV false) (ListV (List.replicate n (BoolV true))) (BoolV true) := by
  rintro h _ _ rfl ⟨l, xs, rfl, L, p⟩ s E e od
  refine PySem.SeqAt.notIn_listAt (items := xs) (fun _ => false) (LV.ext e _ _ L).2 (fun y hy => ?_) ⟨?_, kpRefl s⟩
  · obtain ⟨i, hi, e'⟩ := List.getElem_of_mem (Array.mem_toList_iff.mpr hy)
    obtain ⟨P, e1, r1⟩ := Paired.getR p i (List.getElem?_eq_getElem hi)
    rw [e'] at r1
    have hP : P = BoolV true := List.eq_of_mem_replicate (List.mem_of_getElem? e1)
    subst hP
    rw [show y = Value.bool true from r1]
    exact PySem.SeqAt.EqAt.bool_bool true false
  · show Value.bool _ = Value.bool true
    congr 1
    simp

/-! kinds -/
theorem cb_isFloat_int : CallB prog w A hs (.builtin "isinstance") [IntV a, IsV (.type "float")] (BoolV false) := by
  rintro h vs (_ | ⟨⟨t, rfl⟩, (_ | ⟨p, (_ | _)⟩)⟩) s E e od
  obtain rfl := p
  exact PySem.IsiPair.int_float ⟨rfl, kpOf (Ext.refl _)⟩
theorem cb_isFloat_flt {x : UInt64} : CallB prog w A hs (.builtin "isinstance") [FltV x, IsV (.type "float")] (BoolV true) := by
  rintro h vs (_ | ⟨⟨t, rfl⟩, (_ | ⟨p, (_ | _)⟩)⟩) s E e od
  obtain rfl := p
  exact PySem.IsiPair.float_float ⟨rfl, kpRefl s⟩
end
end Mine
end

section
open PySem PySem.Calls PyProof.Rows
set_option maxRecDepth 100000
set_option linter.unusedVariables false
namespace Mine

local macro_rules | `(tactic| walk_at "nm") => `(tactic| first
  | exact FS.ev (by with_reducible assumption) rfl rfl
  | exact Wd.built (by with_reducible assumption) (by decide) (by first | exact boot_len | exact boot_sorted | exact boot_range | exact boot_max | exact boot_min | exact boot_sum | exact boot_list | exact boot_isinstance | exact boot_float | exact boot_tuple) rfl rfl rfl rfl)
local macro_rules | `(tactic| walk_at "sub") => `(tactic| repeat (first | exact List.forall_mem_nil _ | refine List.forall_mem_cons.mpr ⟨rfl, ?_⟩))
local macro_rules | `(tactic| walk_at "sto") => `(tactic| repeat (first | exact List.forall_mem_nil _ | refine List.forall_mem_cons.mpr ⟨by first | exact Or.inl rfl | exact Or.inr ⟨rfl, rfl⟩, ?_⟩))

section
variable {prog : Program} {w : World} {A : Around} {hs : List Addr} {h : Heap} {env : Env} {mg mb : Str → Option Value} {T : Tab} {a b : Int}

theorem median_high (W : Wd mg mb T h) (rm : Room 1 A) (l : List Int) (hl : 0 < l.length) (h64 : l.length < 64) : CallF prog w A [] h T.medianHigh [IntsV l] [] (IntV (medHigh l)) := by
  have X := W.medianHigh
  have hz : l.length ≤ sizeLine := Nat.le_trans (Nat.le_of_lt h64) (by decide)
  refine ⟨let ⟨o, fd, h1, h2, _⟩ := X.ex; ⟨o, fd, h1, h2⟩, ?_⟩
  rintro h' vs ks e (_ | ⟨p, (_ | _)⟩) (_ | _) s E ex od
  rename_i v
  refine wpAny_call (call_enter ["data"] (X.ext (e.trans ex)) (W.gc.lim.keeps (e.trans ex)) rm.dep (.cons (VP.ext _ ex p) .nil) fun cd s₁ F => ?_)
  have ok : EnvOk (envK (scopeOf (stmtAt 6)) (nameOf (stmtAt 6) ++ ".<locals>.") s.heap.objs.size T.medianHigh cd) [] := ⟨rfl, by simp, by simp⟩
  have W₁ := W.ext ((e.trans ex).trans F.ext0)
  refine xs_assign F ok (.inl rfl) (Ev.callB (by walk_at "nm") (Lv.cons (by walk_at "nm") Lv.nil) (cb_sorted h64)) fun s₂ F => ?_
  have W₂ := W.ext ((e.trans ex).trans F.ext0)
  refine xs_assign F ok (.inl rfl) (Ev.callB (by walk_at "nm") (Lv.cons (by walk_at "nm") Lv.nil) (cb_len (by rw [List.length_map, isort_len]; exact hz))) fun s₃ F => ?_
  simp only [List.length_map, isort_len] at F
  refine xs_if_skip F ((Et.cmp op_eq (by walk_at "nm") Ev.cint).cast (by simp only [beq_eq_false_iff_ne]; omega)) fun s₄ F => ?_
  have hd := fdiv2 l.length
  refine xs_return F (Ev.itemI (by walk_at "nm") (Ev.bin (op_fdiv (by decide) (by decide)) (by walk_at "nm") Ev.cint) (by omega) (by rw [isort_len]; omega) (by rw [isort_len]; exact hz)) fun v s₆ p F => ⟨?_, F.keeps0⟩
  rw [medHigh, ← Int.toNat_natCast (l.length / 2), ← hd]
  exact p

/-- the sum of the two in the middle -/
def medSum (l : List Int) : Int := (isort l).getD (l.length / 2 - 1) 0 + (isort l).getD (l.length / 2) 0
def MedV (l : List Int) : VP := if l.length % 2 = 1 then IntV (medHigh l) else FltV (divI (medSum l) 2)

theorem median_ (W : Wd mg mb T h) (rm : Room 1 A) (l : List Int) (hl : 0 < l.length) (h64 : l.length < 64) (hsm : (medSum l).natAbs < 2 ^ 40) : CallF prog w A [] h T.median [IntsV l] [] (MedV l) := by
  have X := W.median
  have hz : l.length ≤ sizeLine := Nat.le_trans (Nat.le_of_lt h64) (by decide)
  refine ⟨let ⟨o, fd, h1, h2, _⟩ := X.ex; ⟨o, fd, h1, h2⟩, ?_⟩
  rintro h' vs ks e (_ | ⟨p, (_ | _)⟩) (_ | _) s E ex od
  rename_i v
  refine wpAny_call (call_enter ["data"] (X.ext (e.trans ex)) (W.gc.lim.keeps (e.trans ex)) rm.dep (.cons (VP.ext _ ex p) .nil) fun cd s₁ F => ?_)
  have ok : EnvOk (envK (scopeOf (stmtAt 4)) (nameOf (stmtAt 4) ++ ".<locals>.") s.heap.objs.size T.median cd) [] := ⟨rfl, by simp, by simp⟩
  have W₁ := W.ext ((e.trans ex).trans F.ext0)
  refine xs_assign F ok (.inl rfl) (Ev.callB (by walk_at "nm") (Lv.cons (by walk_at "nm") Lv.nil) (cb_sorted h64)) fun s₂ F => ?_
  have W₂ := W.ext ((e.trans ex).trans F.ext0)
  refine xs_assign F ok (.inl rfl) (Ev.callB (by walk_at "nm") (Lv.cons (by walk_at "nm") Lv.nil) (cb_len (by rw [List.length_map, isort_len]; exact hz))) fun s₃ F => ?_
  simp only [List.length_map, isort_len] at F
  refine xs_if_skip F ((Et.cmp op_eq (by walk_at "nm") Ev.cint).cast (by simp only [beq_eq_false_iff_ne]; omega)) fun s₄ F => ?_
  have hd := fdiv2 l.length
  refine xs_if F (Et.cmp op_eq (Ev.bin (op_fmod (by decide)) (by walk_at "nm") Ev.cint) Ev.cint) (fun hb s₅ F => ?_) fun hb s₅ F => ?_
  · simp only [fmod2, beq_iff_eq] at hb
    refine xs_return F (Ev.itemI (by walk_at "nm") (Ev.bin (op_fdiv (by decide) (by decide)) (by walk_at "nm") Ev.cint) (by omega) (by rw [isort_len]; omega) (by rw [isort_len]; exact hz)) fun v s₆ p F => ⟨?_, F.keeps0⟩
    rw [MedV, if_pos (by omega), medHigh, ← Int.toNat_natCast (l.length / 2), ← hd]
    exact p
  · simp only [fmod2, beq_eq_false_iff_ne] at hb
    refine xs_assign F ok (.inl rfl) (Ev.bin (op_fdiv (by decide) (by decide)) (by walk_at "nm") Ev.cint) fun s₆ F => ?_
    have hI : (isort l).getD ((l.length : Int).fdiv 2 - 1).toNat 0 + (isort l).getD ((l.length : Int).fdiv 2).toNat 0 = medSum l := by
      rw [medSum, hd, Int.toNat_natCast, show (((l.length / 2 : Nat) : Int) - 1).toNat = l.length / 2 - 1 by omega]
    refine xs_return F (Ev.binR (Ev.binR (Ev.itemI (by walk_at "nm") (Ev.bin op_sub (by walk_at "nm") Ev.cint) (by omega) (by rw [isort_len]; omega) (by rw [isort_len]; exact hz)) (Ev.itemI (by walk_at "nm") (by walk_at "nm") (by omega) (by rw [isort_len]; omega) (by rw [isort_len]; exact hz)) op_add) Ev.cint (R := FltV (divI (medSum l) 2)) (by rw [hI]; exact op_div_ii rm.h hsm (by decide))) fun v s₇ p F => ⟨?_, F.keeps0⟩
    rw [MedV, if_neg (by omega)]
    exact p

/-! fmean -/
def Dflt1 (d : Value) (h : Heap) : Prop := ∃ dT o n, d = .ref dT ∧ h.get? dT = some o ∧ o.data = .seq #[.none] n
theorem Dflt1.ext {d : Value} {h h' : Heap} (x : Dflt1 d h) (e : Ext h h') : Dflt1 d h' := let ⟨dT, o, n, h1, h3, h4⟩ := x; ⟨dT, o, n, h1, e _ _ h3, h4⟩
theorem binds_fmean1 {d : Value} {s : Shared} (D : Dflt1 d s.heap) (fd : FuncData) (h2 : fd.params = paramsOf (stmtAt 3)) (h3 : fd.defaults = d) (h4 : fd.kwdefaults = .none) (a : Value) :
    BindsTo s fd ⟨[a], []⟩ [("data", a), ("weights", .none)] := by
  obtain ⟨dT, o, n, rfl, e1, e2⟩ := D
  obtain ⟨⟩ := fd
  dsimp only at h2 h3 h4
  subst h2 h3 h4
  intro M A E Q hq
  show wpAny M A (seqItems? (.ref dT) >>= _) Q E s
  refine wpAny_bind (wpAny_seqItems e1 e2 ?_)
  exact wpAny_pure hq
theorem binds_fmean2 {d : Value} {s : Shared} (D : Dflt1 d s.heap) (fd : FuncData) (h2 : fd.params = paramsOf (stmtAt 3)) (h3 : fd.defaults = d) (h4 : fd.kwdefaults = .none) (a b : Value) :
    BindsTo s fd ⟨[a, b], []⟩ [("data", a), ("weights", b)] := by
  obtain ⟨dT, o, n, rfl, e1, e2⟩ := D
  obtain ⟨⟩ := fd
  dsimp only at h2 h3 h4
  subst h2 h3 h4
  intro M A E Q hq
  show wpAny M A (seqItems? (.ref dT) >>= _) Q E s
  refine wpAny_bind (wpAny_seqItems e1 e2 ?_)
  exact wpAny_pure hq

theorem xs_try {env : Env} {s : Shared} {E : Value → Shared → Prop} {Q : Flow → Shared → Prop} {body rest : List Stmt} {h₀ : ExceptHandler} {hs : List ExceptHandler} {pos : Pos}
    (x : ∀ E', wpAny (model prog w) A (execs body env) (fun f s' => match f with | .next => wpAny (model prog w) A (execs rest env) Q E s' | f => Q f s') E' s) : wpAny (model prog w) A (execs (.Try body (h₀ :: hs) [] [] pos :: rest) env) Q E s := by
  refine wpAny_execs_cons (wpAny_Try_except (wpAny_mono (x _) (fun f s' y => ?_) fun _ _ y => y))
  cases f with
  | next => exact wpAny_execs_nil y
  | _ => exact y
theorem Ev.isListTuple {x : Str} {np tp pos : Pos} {k : Nat} {we : Expr} {Ps : List VP} (hf : Ev prog w A env hs h (.Name x np) (IsV (.builtin "isinstance"))) (hw : Ev prog w A env hs h we (ListV Ps)) {e1 e2 : Expr}
    (h1 : Ev prog w A env hs h e1 (IsV (.type "list"))) (h2 : Ev prog w A env hs h e2 (IsV (.type "tuple")))
    (he : starEach [we, .Tuple [e1, e2] k tp] env = [(false, eval we env), (false, eval (.Tuple [e1, e2] k tp) env)] := by rfl) (he2 : starEach [.Tuple [e1, e2] k tp] env = [(false, eval (.Tuple [e1, e2] k tp) env)] := by rfl)
    (he3 : starEach [e1, e2] env = [(false, eval e1 env), (false, eval e2 env)] := by rfl) (he4 : starEach [e2] env = [(false, eval e2 env)] := by rfl) :
    Ev prog w A env hs h (.Call (.Name x np) [we, .Tuple [e1, e2] k tp] [] pos) (BoolV true) := fun s E ex od => by
  refine Call_ (Sv.go (hf.at ex) od fun v s₁ p k => ?_)
  obtain rfl : v = _ := p
  refine callWith_builtin1 (args_cons (Sv.go (hw.at (ex.trans (kpExt k))) (od.kp k) fun v s₂ q k₂ => args_cons (wpAny_Tuple ?_) he2) (by rw [he, he2])) (by rw [he, he2]) (by rw [he2]; rfl)
  refine Lv.go (Lv.cons (h1.at (ex.trans (kpExt (kpTrans k k₂)))) (Lv.cons (h2.at (ex.trans (kpExt (kpTrans k k₂)))) Lv.nil (by rw [he4]; rfl)) (by rw [he3, he4])) ((od.kp k).kp k₂) fun vs s₃ z k₃ => ?_
  obtain _ | ⟨z1, (_ | ⟨z2, (_ | _)⟩)⟩ := z
  obtain rfl := z1
  obtain rfl := z2
  refine ⟨by decide, args_nil ?_⟩
  obtain ⟨a, items, rfl, L, _⟩ := q
  have L₃ := (LV.ext ((kpExt k₃).trans (Ext.push _ { cls := .type "tuple", data := .seq ([Value.type "list", Value.type "tuple"] : List Value).toArray })) _ _ L).2
  obtain ⟨o, e, c, _⟩ := L₃
  refine PySem.IsiPair.tupleOf (Tx := "list") (cs := [.type "list", .type "tuple"]) (vs := [true, false]) ⟨Answers.of_true F.isi_meta_list F.sub_list_list, Answers.of_false_list (by decide +kernel) F.isi_meta_tuple F.sub_list_tuple, trivial⟩ ⟨o, e, c⟩ (Heap.get?_push_size _ rfl) fun tk => ?_
  exact ⟨rfl, kpTrans (kpTrans (kpTrans k k₂) k₃) (kpOf (Ext.push _ _))⟩

theorem fmean1 {d : Value} (X : DefAt h T.fmean 3 d .none) (D : Dflt1 d h) (W : Wd mg mb T h) (rm : Room 1 A) (l : List Int) (hl : 0 < l.length) (hz : l.length ≤ 1000) (hok : fsumOk 0 l = true) :
    CallF prog w A [] h T.fmean [IntsV l] [] (FltV (Float64.div (Float64.ofInt l.sum) (Float64.ofInt (l.length : Int)))) := by
  refine ⟨let ⟨o, fd, h1, h2, _⟩ := X.ex; ⟨o, fd, h1, h2⟩, ?_⟩
  rintro h' vs ks e (_ | ⟨p1, (_ | _)⟩) (_ | _) s E ex od
  have D' := D.ext (e.trans ex)
  refine wpAny_call (call_enter ["data", "weights"] (X.ext (e.trans ex)) (W.gc.lim.keeps (e.trans ex)) rm.dep (.cons (VP.ext _ ex p1) (.cons (show NoneV.p _ Value.none from rfl) .nil)) (fun cd s₁ F => ?_)
    (hbind := fun fd h1 h2 h3 h4 => binds_fmean1 D' fd h2 h3 h4 _))
  have W₁ := W.ext ((e.trans ex).trans F.ext0)
  refine xs_if F (Et.cmp op_none_none (by walk_at "nm") Ev.cnone) (fun _ s₂ F => ?_) (fun z => by cases z)
  have W₂ := W.ext ((e.trans ex).trans F.ext0)
  refine xs_try fun E' => ?_
  refine xs_assign F (okE rfl) (.inr ⟨rfl, rfl⟩) (Ev.callB (by walk_at "nm") (Lv.cons (by walk_at "nm") Lv.nil) (cb_len (by rw [List.length_map]; exact Nat.le_trans hz (by decide)))) fun s₃ F => xs_nil ?_
  have W₃ := W.ext ((e.trans ex).trans F.ext0)
  simp only [List.length_map] at F
  refine xs_assign F (okE rfl) (.inl rfl) (Ev.callB (Ev.glob W₃.gc W₃.fsum rfl rfl rfl) (Lv.cons (by walk_at "nm") Lv.nil) (cb_fsum rm.h hok)) fun s₄ F => ?_
  refine xs_if_skip F ((Et.not (Et.val tr_int (by walk_at "nm"))).cast (by simp only [Bool.not_eq_false', bne_iff_ne]; omega)) fun s₅ F => ?_
  exact xs_return F (Ev.bin (op_div_fi (by omega) (by omega)) (by walk_at "nm") (by walk_at "nm")) fun v s₆ p F => ⟨p, F.keeps0⟩

theorem fmean2 {d : Value} (X : DefAt h T.fmean 3 d .none) (D : Dflt1 d h) (W : Wd mg mb T h) (rm : Room 1 A) (l ws : List Int) (hlw : l.length = ws.length) (hz : l.length ≤ 1000) (hsp : spOk 0 (l.zip ws) = true) (hok : fsumOk 0 ws = true)
    (hS : (spSum (l.zip ws)).natAbs < 2 ^ 40) (hw0 : ws.sum ≠ 0) :
    CallF prog w A [] h T.fmean [IntsV l, IntsV ws] [] (FltV (Float64.div (Float64.ofInt (spSum (l.zip ws))) (Float64.ofInt ws.sum))) := by
  refine ⟨let ⟨o, fd, h1, h2, _⟩ := X.ex; ⟨o, fd, h1, h2⟩, ?_⟩
  rintro h' vs ks e (_ | ⟨p1, (_ | ⟨p2, (_ | _)⟩)⟩) (_ | _) s E ex od
  have D' := D.ext (e.trans ex)
  refine wpAny_call (call_enter ["data", "weights"] (X.ext (e.trans ex)) (W.gc.lim.keeps (e.trans ex)) rm.dep (.cons (VP.ext _ ex p1) (.cons (VP.ext _ ex p2) .nil)) (fun cd s₁ F => ?_)
    (hbind := fun fd h1 h2 h3 h4 => binds_fmean2 D' fd h2 h3 h4 _ _))
  have W₁ := W.ext ((e.trans ex).trans F.ext0)
  refine xs_if F (Et.cmp op_list_none (by walk_at "nm") Ev.cnone) (fun z => by cases z) (fun _ s₂ F => xs_nil ?_)
  have W₂ := W.ext ((e.trans ex).trans F.ext0)
  refine xs_if_skip F (Et.not (Et.val (tr_bool true) (Ev.isListTuple (by walk_at "nm") (by walk_at "nm") (by walk_at "nm") (by walk_at "nm")))) fun s₃ F => ?_
  have W₃ := W.ext ((e.trans ex).trans F.ext0)
  refine xs_try fun E' => ?_
  refine xs_assign F (okE rfl) (.inl rfl) (Ev.callB (Ev.glob W₃.gc W₃.sumprod rfl rfl rfl) (Lv.cons (by walk_at "nm") (Lv.cons (by walk_at "nm") Lv.nil)) (cb_sumprod rm.h hlw hsp)) fun s₄ F => xs_nil ?_
  have W₄ := W.ext ((e.trans ex).trans F.ext0)
  refine xs_assign F (okE rfl) (.inl rfl) (Ev.callB (Ev.glob W₄.gc W₄.fsum rfl rfl rfl) (Lv.cons (by walk_at "nm") Lv.nil) (cb_fsum rm.h hok)) fun s₅ F => ?_
  refine xs_if_skip F (Et.not (Et.val (tr_flt hw0) (by walk_at "nm"))) fun s₆ F => ?_
  exact xs_return F (Ev.bin (op_div_if hS hw0) (by walk_at "nm") (by walk_at "nm")) fun v s₇ p F => ⟨p, F.keeps0⟩
end
end Mine
end

section
open PySem PySem.Calls PyProof.Rows
set_option maxRecDepth 100000
set_option linter.unusedVariables false
namespace Mine

theorem fm_range {α : Type} (l : List α) (a k : Nat) : ((List.range k).map (a + ·)).filterMap (l[·]?) = (l.drop a).take k := by
  induction k with
  | zero => simp
  | succ k ih =>
    rw [List.range_succ, List.map_append, List.filterMap_append, ih, List.take_add_one, List.getElem?_drop]
    congr 1
theorem pick_eq {α : Type} (l : List α) (lo hi : Option Int) : pick l lo hi = (l.drop (lo.elim 0 (clipAt l.length))).take (hi.elim l.length (clipAt l.length) - lo.elim 0 (clipAt l.length)) := by
  unfold pick
  rw [sliceBounds_plain, sliceRange_one, fm_range]
theorem pick_all {α : Type} (l : List α) : pick l none none = l := by rw [pick_eq]; simp
theorem pick_tail {α : Type} (l : List α) (h : 0 < l.length) : pick l (some 1) none = l.drop 1 := by
  rw [pick_eq]
  have : clipAt l.length 1 = 1 := by unfold clipAt; simp; omega
  simp only [Option.elim, this]
  exact List.take_of_length_le (by simp)
theorem pick_head {α : Type} (l : List α) : pick l none (some 1) = l.take 1 := by
  rw [pick_eq]
  cases l with
  | nil => rfl
  | cons a r =>
    have : clipAt (a :: r).length 1 = 1 := by unfold clipAt; simp; omega
    simp only [Option.elim, this]; rfl
theorem pick_init {α : Type} (l : List α) : pick l none (some (-1)) = l.take (l.length - 1) := by
  rw [pick_eq]
  have : clipAt l.length (-1) = l.length - 1 := by unfold clipAt; simp; omega
  simp [this]
theorem pick_four {α : Type} (l : List α) : pick l none (some 4) = l.take 4 := by
  rw [pick_eq]
  have : clipAt l.length 4 = min 4 l.length := by unfold clipAt; simp; omega
  simp only [Option.elim, this, List.drop_zero, Nat.sub_zero]
  rw [List.take_eq_take_iff]; omega
theorem pick_map {α β : Type} (f : α → β) (l : List α) (lo hi : Option Int) : pick (l.map f) lo hi = (pick l lo hi).map f := by
  rw [pick_eq, pick_eq, List.length_map, ← List.map_drop, ← List.map_take]

section
variable {prog : Program} {w : World} {A : Around} {env : Env} {s₀ s s' : Shared} {hr : Heap} {M : List (Addr × List VP)} {Γ : List (Str × VP)} {E : Value → Shared → Prop} {Q : Flow → Shared → Prop}

theorem Ev.sliceI {hs : List Addr} {h : Heap} {a : Expr} {lo hi : Option Expr} {p pos : Pos} {l : List Int} {cl ch : Option Int} (x : Ev prog w A env hs h a (IntsV l)) (hz : l.length ≤ sizeLine) (y : EvPart prog w A env hs h lo cl) (z : EvPart prog w A env hs h hi ch)
    (ht : ∀ o r, letTemporaryGo a o r = pure () := by intro _ _; rfl) :
    Ev prog w A env hs h (.Subscript a (.Slice lo hi none p) pos) (IntsV (pick l cl ch)) := by
  have := Ev.slice (p := p) (pos := pos) x (by simpa using hz) y z ht
  rw [pick_map] at this
  exact this

/-- an object that is none of the frame's turns -/
theorem FS.off {I : Addr} {h' : Heap} {tk : Nat} (G : FS env s₀ M hr s Γ) (kk : ∀ b o, b ≠ I → s.heap.get? b = some o → h'.get? b = some o) (na : ∀ a it, LV (hsOf M) s.heap a it → a ≠ I) (h0 : s₀.heap.get? I = none)
    (hr0 : hr.get? I = none) (a1 : I ≠ env.locals) (a2 : ∀ n c, env.cells.lookup n = some c → I ≠ c) (a3 : I ∉ hsOf M) : FS env s₀ M hr { s with heap := h', toks := tk } Γ := by
  have lv : ∀ a it, LV (hsOf M) s.heap a it → LV (hsOf M) h' a it := fun a it l => ⟨l.1, let ⟨o, y, r⟩ := l.2; ⟨o, kk a o (na a it l) y, r⟩⟩
  obtain ⟨m, cm, X, hΓ⟩ := G.inn
  refine ⟨⟨m, cm, ⟨⟨?_, X.toInCall.ns.at' fun o e => kk _ o (Ne.symm a1) e, fun b o e => kk b o (fun z => by rw [z, h0] at e; cases e) (X.toInCall.keep b o e), X.toInCall.fresh⟩, fun n c hc => let ⟨o, e, d⟩ := X.cell n c hc; ⟨o, kk c o (Ne.symm (a2 n c hc)) e, d⟩, X.apart, X.above⟩, fun y P q => ?_⟩, fun b o h1 h2 h3 e => kk b o (fun z => by rw [z, hr0] at e; cases e) (G.stays b o h1 h2 h3 e), fun p hp => ?_⟩
  · obtain ⟨h₁, t₁, r⟩ := X.toInCall.same
    exact ⟨h', tk, by rw [r]⟩
  · rcases hΓ y P q with ⟨a, v, b, c⟩ | ⟨a, c, v, b, d, f⟩
    · exact .inl ⟨a, v, b, P.mono lv c⟩
    · exact .inr ⟨a, c, v, b, d, P.mono lv f⟩
  · obtain ⟨items, x, y⟩ := G.mu p hp
    have hpI : p.1 ≠ I := fun z => a3 (z ▸ List.mem_map_of_mem hp)
    exact ⟨items, x.at fun o q => kk _ o hpI q, Paired.imp (fun P _ z => P.mono lv z) y⟩
theorem FS.fresh {I : Addr} (F : FS env s₀ M hr s Γ) (hI : s.heap.get? I = none) : (I ≠ env.locals ∧ (∀ n c, env.cells.lookup n = some c → I ≠ c) ∧ I ∉ hsOf M) ∧ s₀.heap.get? I = none ∧ hr.get? I = none := by
  have ap : (I ≠ env.locals ∧ (∀ n c, env.cells.lookup n = some c → I ≠ c) ∧ I ∉ hsOf M) := by
    obtain ⟨m, cm, X, _⟩ := F.inn
    refine ⟨?_, ?_, ?_⟩
    · rintro rfl
      obtain ⟨o, _, _, e, _⟩ := X.toInCall.ns
      rw [hI] at e; cases e
    · rintro n c hc rfl
      obtain ⟨o, e, _⟩ := X.cell _ _ hc
      rw [hI] at e; cases e
    · intro hm
      obtain ⟨p, hp, rfl⟩ := List.mem_map.mp hm
      obtain ⟨_, ⟨n, e⟩, _⟩ := F.mu p hp
      rw [hI] at e; cases e
  refine ⟨ap, ?_, ?_⟩
  · cases e : s₀.heap.get? I with
    | none => rfl
    | some o => have := F.ext0 _ _ e; rw [hI] at this; cases this
  · cases e : hr.get? I with
    | none => rfl
    | some o => have := F.stays I o ap.1 ap.2.1 ap.2.2 e; rw [hI] at this; cases this

/-- y = [elt for x in iter if ..], its names and y stored at once -/
theorem xs_comp {elt iter : Expr} {x y : Str} {px py : Pos} {ifs : List Expr} {scope : Scope} {cl : List (Str × Addr)} {pos spos : Pos} {Ps : List VP} {rest : List Stmt} (t : Nat → Bool) (R : Nat → VP) (F : FS env s₀ M hr s Γ) (ok : EnvOk env (hsOf M)) (hy : Sto env y)
    (src : Src prog w A env (hsOf M) s.heap iter Ps) (hR : ∀ i, Scal (R i)) (hsz : Ps.length ≤ sizeLine)
    (test : ∀ i Pi C h₂, Ps[i]? = some Pi → Ext s.heap h₂ → (∀ pos, Ev prog w A (compEnvC scope cl C env) (hsOf M) h₂ (.Name x pos) Pi) → Tv prog w A (hsOf M) h₂ (testTree ifs (compEnvC scope cl C env)) (t i))
    (body : ∀ i Pi C h₂, Ps[i]? = some Pi → t i = true → Ext s.heap h₂ → (∀ pos, Ev prog w A (compEnvC scope cl C env) (hsOf M) h₂ (.Name x pos) Pi) → Ev prog w A (compEnvC scope cl C env) (hsOf M) h₂ elt (R i))
    (next : ∀ s', FS env s₀ M hr s' ((y, ListV (((List.range Ps.length).filter t).map R)) :: Γ) → wpAny (model prog w) A (execs rest env) Q E s')
    (hsw : swapsWith (.ListComp elt [⟨.Name x px, iter, ifs, 0⟩] scope pos) (some (.Name y py)) spos.line env = pure true := by rfl)
    (hclos : closureFor scope env = pure cl := by rfl) (hcell : ∀ y ∈ scope.names, y.2 ≠ .cell := by decide +kernel) (hkind : scope.kind = .function := by rfl) (hnames : ∀ y ∈ scope.names, y.2 = .local → scope.names.lookup y.1 = some .local := by decide +kernel) (hx : scope.names.lookup x = some .local := by rfl)
    (hs' : ∀ x, foldedSetIterable iter env x = pure x := by intro _; rfl) (hd : (x == ("__debug__" : Str)) = false := by decide) :
    wpAny (model prog w) A (execs (.Assign [.Name y py] (.ListComp elt [⟨.Name x px, iter, ifs, 0⟩] scope pos) spos :: rest) env) Q E s := by
  refine wpAny_execs_cons ?_
  rw [exec_Assign_Name_used _ _ _ _ hsw]
  refine wpAny_bind (wpAny_standAt (wpAny_bind ?_))
  show wpAny _ A (do let _ ← comprehension (.ListComp elt [⟨.Name x px, iter, ifs, 0⟩] scope pos) scope env _ (newList []) false (eval iter env) (some (assign (.Name y py) env))) _ _ s
  refine wpAny_bind (wpAny_mono (wpAny_comprehension_free (use := some (assign (.Name y py) env)) (Q := fun _ s' => wpAny (model prog w) A (execs rest env) Q E s') rfl hs' hclos hkind hnames
    (src s E _ (Ext.refl _) F.old fun I fp P St s₂ k hI0 hI W hst hfp hIL hP => ?_)) (fun _ s' hq => wpAny_pure (wpAny_pure hq)) fun _ _ e => e)
  refine comp_block (h := s.heap) (RR := fun acc C => compPost (model prog w) A E (some (assign (.Name y py) env)) (fun _ s' => wpAny (model prog w) A (execs rest env) Q E s') acc C) t R hR hsz hcell hkind hx W hst hfp hI hIL hP (kpExt k) hI0 F.old
    test body hd ?_
  intro D C h' tk m' hk hD hC hDC hn ⟨items, hpl, hp⟩
  have kk : Ext s.heap h' := fun b o q => hk b o (fun z => by rw [z, hI0] at q; cases q) (kpExt k _ _ q)
  have ks : Keeps s { s₂ with heap := h', toks := tk } := by
    obtain ⟨h₂, t₂, r, _⟩ := id k
    exact ⟨h', tk, by rw [r], kk⟩
  have F₂ := F.kp ks
  have hC0 : s.heap.get? C = none := by
    cases e : s.heap.get? C with
    | none => rfl
    | some o => have := kpExt k _ _ e; rw [hC] at this; cases this
  obtain ⟨⟨a1, a2, a3⟩, c0, cr⟩ := F.fresh hC0
  show wpAny _ A (assign (.Name y py) env (.ref D)) _ _ _
  have hL : (ListV (((List.range Ps.length).filter t).map R)).p (LV (hsOf M) h') (.ref D) := by
    refine ⟨D, items, rfl, ⟨fun z => ?_, hpl.isList⟩, Paired.imp' (fun P hP v q => ?_) hp⟩
    · obtain ⟨o, q⟩ := F.old D z
      have := kpExt k _ _ q
      rw [hD] at this; cases this
    · obtain ⟨i, _, rfl⟩ := List.mem_map.mp hP
      exact hR _ _ _ _ q
  refine wpAny_assign_Name (F₂.rebase.store ok hy hL fun s₃ F₃ => ?_)
  have F₄ := F₂.back F₃ rfl
  have hn₃ : s₃.heap.Ns C m' := hn.at' fun o e => F₃.stays C o a1 a2 a3 e
  refine ⟨m', hn₃, fun h₄ hs₄ => next _ (FS.off (tk := s₃.toks) F₄ (fun b o hb e => hs₄.extBut b o hb e) (fun a it l z => ?_) c0 cr a1 a2 a3)⟩
  subst z
  obtain ⟨o, e, _, n, d⟩ := l.2
  obtain ⟨o', es, ep, e', d', _⟩ := hn₃
  rw [e] at e'; cases e'
  rw [d] at d'; cases d'

/-! comprehensions over ints -/
theorem all_range (n : Nat) : (List.range n).filter (fun _ => true) = List.range n := by simp
theorem range_getD (l : List Int) : (List.range l.length).map (fun i => l.getD i 0) = l := by
  apply List.ext_getElem (by simp)
  intro i h1 h2
  simp [List.getD_eq_getElem?_getD, h2]
theorem map_getD (l : List Int) (f : Int → VP) : (List.range l.length).map (fun i => f (l.getD i 0)) = l.map f := by
  conv => rhs; rw [← range_getD l]
  rw [List.map_map]; rfl
theorem filter_getD (l : List Int) (p : Int → Bool) (f : Int → VP) : ((List.range l.length).filter fun i => p (l.getD i 0)).map (fun i => f (l.getD i 0)) = (l.filter p).map f := by
  conv => rhs; rw [← range_getD l]
  rw [List.filter_map, List.map_map]; rfl
theorem at_map {l : List Int} {i : Nat} {Pi : VP} (h : (l.map IntV)[i]? = some Pi) : Pi = IntV (l.getD i 0) ∧ l.getD i 0 ∈ l := by
  rw [List.getElem?_map] at h
  cases e : l[i]? with
  | none => rw [e] at h; cases h
  | some x =>
    rw [e] at h; cases h
    rw [List.getD_eq_getElem?_getD, e]
    exact ⟨rfl, List.mem_of_getElem? e⟩

theorem Ev.compI {hs : List Addr} {h : Heap} {elt iter : Expr} {x : Str} {px : Pos} {ifs : List Expr} {scope : Scope} {cl : List (Str × Addr)} {pos : Pos} {l : List Int} (p : Int → Bool) (f : Int → VP) (hf : ∀ n, Scal (f n)) (src : Src prog w A env hs h iter (l.map IntV)) (hsz : l.length ≤ sizeLine)
    (test : ∀ n C h₂, n ∈ l → Ext h h₂ → (∀ pos, Ev prog w A (compEnvC scope cl C env) hs h₂ (.Name x pos) (IntV n)) → Tv prog w A hs h₂ (testTree ifs (compEnvC scope cl C env)) (p n))
    (body : ∀ n C h₂, n ∈ l → p n = true → Ext h h₂ → (∀ pos, Ev prog w A (compEnvC scope cl C env) hs h₂ (.Name x pos) (IntV n)) → Ev prog w A (compEnvC scope cl C env) hs h₂ elt (f n))
    (hclos : closureFor scope env = pure cl := by rfl) (hcell : ∀ y ∈ scope.names, y.2 ≠ .cell := by decide +kernel) (hkind : scope.kind = .function := by rfl) (hnames : ∀ y ∈ scope.names, y.2 = .local → scope.names.lookup y.1 = some .local := by decide +kernel) (hx : scope.names.lookup x = some .local := by rfl)
    (hs' : ∀ x, foldedSetIterable iter env x = pure x := by intro _; rfl) (hd : (x == ("__debug__" : Str)) = false := by decide) :
    Ev prog w A env hs h (.ListComp elt [⟨.Name x px, iter, ifs, 0⟩] scope pos) (ListV ((l.filter p).map f)) := by
  have := Ev.comp (pos := pos) (px := px) (elt := elt) (ifs := ifs) (fun i => p (l.getD i 0)) (fun i => f (l.getD i 0)) src (fun i => hf _) (by simpa using hsz) hclos hcell hkind hnames hx
    (fun i Pi C h₂ a b c => by obtain ⟨rfl, m⟩ := at_map a; exact test _ C h₂ m b c) (fun i Pi C h₂ a t b c => by obtain ⟨rfl, m⟩ := at_map a; exact body _ C h₂ m t b c) hs' hd
  rw [List.length_map, filter_getD] at this
  exact this

/-- a name of the frame, seen from a comprehension -/
theorem FS.seen (F : FS env s₀ M hr s Γ) {cenv : Env} {x : Str} {pos : Pos} {P : VP} (q : Γ.lookup x = some P) (he : env.kindOf x = some .cell) (hk : cenv.scope.kind = .function) (hc : cenv.kindOf x = some .cell) (hl : cenv.cells.lookup x = env.cells.lookup x)
    (hd : (x == ("__debug__" : Str)) = false := by decide) : Ev prog w A cenv (hsOf M) s.heap (.Name x pos) P := Ev.name (fun s' E e od => by
  obtain ⟨m, cm, I, h⟩ := F.inn
  rcases h x P q with ⟨a, v, b, c⟩ | ⟨a, c, v, b, d, f⟩
  · rw [he] at a; cases a
  · exact wpAny_loadName_cell hk hc (hl.trans b) ((d ▸ I.cell x c b).keeps e) ⟨P.ext e f, kpRefl _⟩) hd
end
end Mine
end

section
open PySem PySem.Calls PyProof.Rows
set_option maxRecDepth 100000
set_option linter.unusedVariables false
namespace Mine

local macro_rules | `(tactic| walk_at "nm") => `(tactic| first
  | exact FS.ev (by with_reducible assumption) rfl rfl
  | exact Wd.built (by with_reducible assumption) (by decide) (by first | exact boot_len | exact boot_sorted | exact boot_range | exact boot_max | exact boot_min | exact boot_sum | exact boot_list | exact boot_isinstance | exact boot_float | exact boot_tuple) rfl rfl rfl rfl)
local macro_rules | `(tactic| walk_at "sub") => `(tactic| repeat (first | exact List.forall_mem_nil _ | refine List.forall_mem_cons.mpr ⟨rfl, ?_⟩))
local macro_rules | `(tactic| walk_at "sto") => `(tactic| repeat (first | exact List.forall_mem_nil _ | refine List.forall_mem_cons.mpr ⟨by first | exact Or.inl rfl | exact Or.inr ⟨rfl, rfl⟩, ?_⟩))

structure Wz (mg mb : Str → Option Value) (T : Tab) (h : Heap) : Prop where
  w : Wd mg mb T h
  f : ∃ d, DefAt h T.fmean 3 d .none ∧ Dflt1 d h
  r : ∃ d k, DefAt h T.bisectRight 8 d k ∧ Dflt2 d k h
  l : ∃ d k, DefAt h T.bisectLeft 9 d k ∧ Dflt2 d k h
theorem Wz.ext {mg mb : Str → Option Value} {T : Tab} {h h' : Heap} (x : Wz mg mb T h) (e : Ext h h') : Wz mg mb T h' :=
  ⟨x.w.ext e, let ⟨d, a, b⟩ := x.f; ⟨d, a.ext e, b.ext e⟩, let ⟨d, k, a, b⟩ := x.r; ⟨d, k, a.ext e, b.ext e⟩, let ⟨d, k, a, b⟩ := x.l; ⟨d, k, a.ext e, b.ext e⟩⟩

section
variable {prog : Program} {w : World} {A : Around} {hs : List Addr} {h : Heap} {env : Env} {mg mb : Str → Option Value} {T : Tab} {a b : Int}

theorem Wd.nFmean (W : Wd mg mb T h) : mg "fmean" = some (.ref T.fmean) := W.names.1
theorem Wd.nMedian (W : Wd mg mb T h) : mg "median" = some (.ref T.median) := W.names.2.1
theorem Wd.nLow (W : Wd mg mb T h) : mg "median_low" = some (.ref T.medianLow) := W.names.2.2.1
theorem Wd.nHigh (W : Wd mg mb T h) : mg "median_high" = some (.ref T.medianHigh) := W.names.2.2.2.1
theorem Wd.nRight (W : Wd mg mb T h) : mg "bisect_right" = some (.ref T.bisectRight) := W.names.2.2.2.2.1
theorem Wd.nLeft (W : Wd mg mb T h) : mg "bisect_left" = some (.ref T.bisectLeft) := W.names.2.2.2.2.2.1
theorem Wd.nFall (W : Wd mg mb T h) : mg "_law_fall" = some (.ref T.fall) := W.names.2.2.2.2.2.2.1
theorem Wd.nBooks (W : Wd mg mb T h) : mg "_law_books" = some (.ref T.books) := W.names.2.2.2.2.2.2.2.1
theorem Wd.nLaid (W : Wd mg mb T h) : mg "_law_laid" = some (.ref T.laid) := W.names.2.2.2.2.2.2.2.2.1
theorem Wd.nNear (W : Wd mg mb T h) : mg "_law_near" = some (.ref T.near) := W.names.2.2.2.2.2.2.2.2.2.1
theorem Wd.nTold (W : Wd mg mb T h) : mg "_law_told" = some (.ref T.told) := W.names.2.2.2.2.2.2.2.2.2.2.1
theorem Wd.nRefused (W : Wd mg mb T h) : mg "_law_refused" = some (.ref T.refused) := W.names.2.2.2.2.2.2.2.2.2.2.2

theorem FS.seenAt {s₀ s : Shared} {hr h' : Heap} {M : List (Addr × List VP)} {Γ : List (Str × VP)} (F : FS env s₀ M hr s Γ) (ex : Ext s.heap h') {cenv : Env} {x : Str} {pos : Pos} {P : VP} (q : Γ.lookup x = some P) (he : env.kindOf x = some .cell) (hk : cenv.scope.kind = .function) (hc : cenv.kindOf x = some .cell) (hl : cenv.cells.lookup x = env.cells.lookup x)
    (hd : (x == ("__debug__" : Str)) = false := by decide) : Ev prog w A cenv (hsOf M) h' (.Name x pos) P := Sv.at (FS.seen F q he hk hc hl hd) ex
/-- the cells that a comprehension sees -/
def closOf (scope : Scope) (cells : List (Str × Addr)) : List (Str × Addr) := scope.names.foldl (fun cs x => if x.2 = .free then (x.1, (cells.lookup x.1).getD 0) :: cs else cs) []
def rangeL (a : Int) (n : Nat) : List Int := (List.range n).map fun i : Nat => a + (i : Int)
theorem rangeL_len (a : Int) (n : Nat) : (rangeL a n).length = n := by simp [rangeL]
theorem mem_rangeL {a x : Int} {n : Nat} (h : x ∈ rangeL a n) : a ≤ x ∧ x < a + n := by
  obtain ⟨i, hi, rfl⟩ := List.mem_map.mp h
  have := List.mem_range.mp hi
  omega
theorem src_rangeL {iter : Expr} {n : Nat} (hh : A.handled = none) (x : EvRange prog w A env hs h iter a n) : Src prog w A env hs h iter ((rangeL a n).map IntV) := by
  have := src_range hh x
  rw [rangeL, List.map_map]; exact this
theorem Ev.compM {elt iter : Expr} {x : Str} {px : Pos} {scope : Scope} {pos : Pos} {l : List Int} (f : Int → Int) (src : Src prog w A env hs h iter (l.map IntV)) (hsz : l.length ≤ 1000)
    (body : ∀ n C h₂, n ∈ l → Ext h h₂ → (∀ pos, Ev prog w A (compEnvC scope (closOf scope env.cells) C env) hs h₂ (.Name x pos) (IntV n)) → Ev prog w A (compEnvC scope (closOf scope env.cells) C env) hs h₂ elt (IntV (f n)))
    (hclos : closureFor scope env = pure (closOf scope env.cells) := by rfl) (hcell : ∀ y ∈ scope.names, y.2 ≠ .cell := by decide +kernel) (hkind : scope.kind = .function := by rfl) (hnames : ∀ y ∈ scope.names, y.2 = .local → scope.names.lookup y.1 = some .local := by decide +kernel) (hx : scope.names.lookup x = some .local := by rfl)
    (hs' : ∀ x, foldedSetIterable iter env x = pure x := by intro _; rfl) (hd : (x == ("__debug__" : Str)) = false := by decide) :
    Ev prog w A env hs h (.ListComp elt [⟨.Name x px, iter, [], 0⟩] scope pos) (IntsV (l.map f)) := by
  have := Ev.compI (pos := pos) (px := px) (elt := elt) (ifs := []) (fun _ => true) (fun n => IntV (f n)) (fun n => scal_int _) src (Nat.le_trans hsz (by decide)) (fun n C h₂ _ _ _ => tests_nil) (fun n C h₂ m _ e o => body n C h₂ m e o) hclos hcell hkind hnames hx hs' hd
  rw [List.filter_eq_self.mpr (fun _ _ => rfl)] at this
  rw [IntsV, List.map_map]
  exact this
theorem Ev.compP {iter c : Expr} {x : Str} {px px2 : Pos} {scope : Scope} {pos : Pos} {l : List Int} (p : Int → Bool) (src : Src prog w A env hs h iter (l.map IntV)) (hsz : l.length ≤ 1000)
    (test : ∀ n C h₂, n ∈ l → Ext h h₂ → (∀ pos, Ev prog w A (compEnvC scope (closOf scope env.cells) C env) hs h₂ (.Name x pos) (IntV n)) → Et prog w A (compEnvC scope (closOf scope env.cells) C env) hs h₂ c (p n))
    (hclos : closureFor scope env = pure (closOf scope env.cells) := by rfl) (hcell : ∀ y ∈ scope.names, y.2 ≠ .cell := by decide +kernel) (hkind : scope.kind = .function := by rfl) (hnames : ∀ y ∈ scope.names, y.2 = .local → scope.names.lookup y.1 = some .local := by decide +kernel) (hx : scope.names.lookup x = some .local := by rfl)
    (hs' : ∀ x, foldedSetIterable iter env x = pure x := by intro _; rfl) (hd : (x == ("__debug__" : Str)) = false := by decide) :
    Ev prog w A env hs h (.ListComp (.Name x px2) [⟨.Name x px, iter, [c], 0⟩] scope pos) (IntsV (l.filter p)) :=
  Ev.compI (pos := pos) (px := px) (elt := .Name x px2) (ifs := [c]) p IntV (fun n => scal_int _) src (Nat.le_trans hsz (by decide)) (fun n C h₂ m e o => tests_one (test n C h₂ m e o)) (fun n C h₂ m _ e o => o _) hclos hcell hkind hnames hx hs' hd

theorem xs_compM {s₀ s : Shared} {hr : Heap} {M : List (Addr × List VP)} {Γ : List (Str × VP)} {E : Value → Shared → Prop} {Q : Flow → Shared → Prop} {elt iter : Expr} {x y : Str} {px py : Pos} {scope : Scope} {pos spos : Pos} {l : List Int} {rest : List Stmt} (f : Int → Int) (F : FS env s₀ M hr s Γ) (ok : EnvOk env (hsOf M)) (hy : Sto env y)
    (src : Src prog w A env (hsOf M) s.heap iter (l.map IntV)) (hsz : l.length ≤ 1000)
    (body : ∀ n C h₂, n ∈ l → Ext s.heap h₂ → (∀ pos, Ev prog w A (compEnvC scope (closOf scope env.cells) C env) (hsOf M) h₂ (.Name x pos) (IntV n)) → Ev prog w A (compEnvC scope (closOf scope env.cells) C env) (hsOf M) h₂ elt (IntV (f n)))
    (next : ∀ s', FS env s₀ M hr s' ((y, IntsV (l.map f)) :: Γ) → wpAny (model prog w) A (execs rest env) Q E s')
    (hsw : swapsWith (.ListComp elt [⟨.Name x px, iter, [], 0⟩] scope pos) (some (.Name y py)) spos.line env = pure true := by rfl)
    (hclos : closureFor scope env = pure (closOf scope env.cells) := by rfl) (hcell : ∀ y ∈ scope.names, y.2 ≠ .cell := by decide +kernel) (hkind : scope.kind = .function := by rfl) (hnames : ∀ y ∈ scope.names, y.2 = .local → scope.names.lookup y.1 = some .local := by decide +kernel) (hx : scope.names.lookup x = some .local := by rfl)
    (hs' : ∀ x, foldedSetIterable iter env x = pure x := by intro _; rfl) (hd : (x == ("__debug__" : Str)) = false := by decide) :
    wpAny (model prog w) A (execs (.Assign [.Name y py] (.ListComp elt [⟨.Name x px, iter, [], 0⟩] scope pos) spos :: rest) env) Q E s := by
  refine xs_comp (fun _ => true) (fun i => IntV (f (l.getD i 0))) F ok hy src (fun i => scal_int _) (by rw [List.length_map]; exact Nat.le_trans hsz (by decide)) (fun i Pi C h₂ _ _ _ => tests_nil)
    (fun i Pi C h₂ a _ b c => by obtain ⟨rfl, m⟩ := at_map a; exact body _ C h₂ m b c) (fun s' F' => next s' ?_) hsw hclos hcell hkind hnames hx hs' hd
  rw [all_range, List.length_map, map_getD l fun n => IntV (f n)] at F'
  rw [IntsV, List.map_map]
  exact F'
theorem Ev.lenI {a : Expr} {l : List Int} {np pos : Pos} {x : Str} (hf : Ev prog w A env hs h (.Name x np) (IsV (.builtin "len"))) (ha : Ev prog w A env hs h a (IntsV l)) (hz : l.length ≤ 1000) (he : starEach [a] env = [(false, eval a env)] := by rfl) : Ev prog w A env hs h (.Call (.Name x np) [a] [] pos) (IntV (l.length : Int)) := by
  have := Ev.callB (pos := pos) hf (Lv.cons ha Lv.nil he) (cb_len (by rw [List.length_map]; exact Nat.le_trans hz (by decide))) he
  rw [List.length_map] at this
  exact this

def firstL (pairs : List (Int × Int)) (low sure most : Nat) : Int := (bsr (fun i => decide (falls pairs i < 0)) (low + sure) (low + most) : Nat) - (low : Int)
def lastL (pairs : List (Int × Int)) (low sure most : Nat) : Int := (bsr (fun i => !decide (0 < falls pairs i)) (low + sure) (low + most) : Nat) - (low : Int)
def leftL (sums : List Int) (low : Nat) (high : Option Nat) (t : Int) : Int := (bsr (fun i => decide (sums.getD i 0 < t)) low (high.getD sums.length) : Nat) - (low : Int)
def rightL (sums : List Int) (low : Nat) (high : Option Nat) (t : Int) : Int := (bsr (fun i => !decide (t < sums.getD i 0)) low (high.getD sums.length) : Nat) - (low : Int)
def thriceL (ways : List Int) : List Int := ways.map (3 * ·)
def othersL (counts : List Int) : List Int := (rangeL 1 (counts.length - 1)).map (fun k => 3 * k - 6) ++ [-6]
def weightsL (counts : List Int) : List Int := counts.drop 1 ++ counts.take 1
def mean1 (ways : List Int) : UInt64 := Float64.div (Float64.ofInt (thriceL ways).sum) (Float64.ofInt ((thriceL ways).length : Int))
def mean2 (counts : List Int) : UInt64 := Float64.div (Float64.ofInt (spSum ((othersL counts).zip (weightsL counts)))) (Float64.ofInt (weightsL counts).sum)
/-- the float x is a quarter of the number n -/
def quarter (x : UInt64) (n : Int) : Bool := Float64.cmpInt (Float64.mul (Float64.ofInt 4) x) n == some Ordering.eq
def halfOk (ways : List Int) : Bool :=
  if ways.length % 2 = 1 then 2 * medHigh ways == medLow ways + medHigh ways else Float64.cmpInt (Float64.mul (Float64.ofInt 2) (divI (medSum ways) 2)) (medLow ways + medHigh ways) == some Ordering.eq

structure ToldOk (ways counts : List Int) (sure most : Nat) (mean : Int) (sums : List Int) (pairs : List (Int × Int)) (low : Nat) (high : Option Nat) : Prop where
  w0 : 0 < ways.length
  w1 : ways.length < 64
  c0 : 0 < counts.length
  c1 : counts.length ≤ 100
  s1 : sums.length ≤ 1000
  p1 : pairs.length ≤ 1000
  hi : high.getD sums.length ≤ sums.length
  mo : low + most ≤ pairs.length
  ms : (medSum ways).natAbs < 2 ^ 40
  mh : (medHigh ways).natAbs < 2 ^ 40
  fb : -2000 ≤ firstL pairs low sure most ∧ firstL pairs low sure most ≤ 2000 ∧ -2000 ≤ lastL pairs low sure most ∧ lastL pairs low sure most ≤ 2000
  near : nearL [medLow ways + 2, medHigh ways + 2] [firstL pairs low sure most, lastL pairs low sure most] mean ((counts.length : Int) - 1) = true
  modes : (rangeL 0 counts.length).filter (fun k => counts.getD k.toNat 0 == lmax counts) = rangeL (firstL pairs low sure most) (lastL pairs low sure most + 1 - firstL pairs low sure most).toNat
  ordL : (rangeL 0 (ways.length + 1)).map (fun t => leftL sums low high (t + 1)) = (isort ways).map (· + 2) ++ [(counts.length : Int)]
  ordR : (rangeL 0 (ways.length + 1)).map (fun t => rightL sums low high t) = (isort ways).map (· + 2) ++ [(counts.length : Int)]
  tk : [medLow ways + 2, medHigh ways + 2] = [leftL sums low high (((ways.length + 1) / 2 : Nat) : Int), rightL sums low high ((ways.length / 2 : Nat) : Int)]
  f1 : fsumOk 0 (thriceL ways) = true
  f2 : fsumOk 0 (weightsL counts) = true
  sp : spOk 0 ((othersL counts).zip (weightsL counts)) = true
  ss : (spSum ((othersL counts).zip (weightsL counts))).natAbs < 2 ^ 40
  w2 : (weightsL counts).sum ≠ 0
  m1 : quarter (mean1 ways) (mean - 24) = true
  m2 : quarter (mean2 counts) (mean - 24) = true
  half : halfOk ways = true

abbrev BookV (ways counts : List Int) (sure most : Nat) (mean : Int) : VP := ListV [IntsV ways, IntsV counts, IntV (sure : Int), IntV (most : Int), IntV mean]

theorem others_len (counts : List Int) (h : 0 < counts.length) : (othersL counts).length = (weightsL counts).length := by
  simp [othersL, weightsL, rangeL_len]; omega

set_option maxHeartbeats 4000000 in
theorem told (Z : Wz mg mb T h) (rm : Room 3 A) {ways counts : List Int} {sure most : Nat} {mean : Int} {sums : List Int} {pairs : List (Int × Int)} {low : Nat} {high : Option Nat} (K : ToldOk ways counts sure most mean sums pairs low high) :
    CallF prog w A [] h T.told [BookV ways counts sure most mean, IntsV sums, PairsV pairs, IntV (low : Int), HiV high] [] (BoolV true) := by
  have X := Z.w.told
  refine ⟨let ⟨o, fd, h1, h2, _⟩ := X.ex; ⟨o, fd, h1, h2⟩, ?_⟩
  rintro h' vs ks e (_ | ⟨p1, (_ | ⟨p2, (_ | ⟨p3, (_ | ⟨p4, (_ | ⟨p5, (_ | _)⟩)⟩)⟩)⟩)⟩) (_ | _) s E ex od
  refine wpAny_call (call_enter ["book", "sums", "pairs", "low", "high"] (X.ext (e.trans ex)) (Z.w.gc.lim.keeps (e.trans ex)) rm.dep (.cons (VP.ext _ ex p1) (.cons (VP.ext _ ex p2) (.cons (VP.ext _ ex p3) (.cons (VP.ext _ ex p4) (.cons (VP.ext _ ex p5) .nil))))) fun cd s₁ F => ?_)
  have hz : (100000 : Nat) ≤ sizeLine := by decide
  have := K.w1
  have := K.c1
  have := K.s1
  have := K.p1
  have rd := rm.deeper (envK (scopeOf (stmtAt 15)) (nameOf (stmtAt 15) ++ ".<locals>.") s.heap.objs.size T.told cd)
  refine xs_unpack (names := ["ways", "counts", "sure", "most", "mean"]) F (okE rfl) rm.h (by walk_at "nm") (by walk_at "sto") (.cons storesTo_assign (.cons storesTo_assign (.cons storesTo_assign (.cons storesTo_assign (.cons storesTo_assign .nil))))) fun s₂ F => ?_
  have Z₂ := Z.ext ((e.trans ex).trans F.ext0)
  have W₂ := Z₂.w
  have gF : ∀ {Γ : List (Str × VP)} {s' : Shared}, FS (envK (scopeOf (stmtAt 15)) (nameOf (stmtAt 15) ++ ".<locals>.") s.heap.objs.size T.told cd) s [] s₁.heap s' Γ → Wz mg mb T s'.heap := fun F => Z.ext ((e.trans ex).trans F.ext0)
  refine xs_tuple_swapped (names := ["thrice", "others"]) F (okE rfl) rm.h (by rfl)
    (Lv.cons (Ev.compM (fun n => 3 * n) (src_list rm.h (by walk_at "nm")) (by omega) fun n C h₂ m ex own => Ev.bin (op_mul (mulL (by decide))) Ev.cint (own _))
    (Lv.cons (Ev.binR (Ev.compM (fun n => 3 * n - 6) (src_rangeL rm.h (range2 (n := counts.length - 1) (by walk_at "nm") Ev.cint (Ev.lenI (by walk_at "nm") (by walk_at "nm") (by omega)) (by omega) (by omega) (by decide) (by decide) (by omega))) (by rw [rangeL_len]; omega)
      fun n C h₂ m ex own => Ev.bin op_sub (Ev.bin (op_mul (mulL (by decide))) Ev.cint (own _)) Ev.cint) (Ev.list (Nat.le_of_ble_eq_true rfl) (Lv.cons (Ev.neg Ev.cint) Lv.nil)) (op_catI (b := [-6]) (by simp only [List.length_map, rangeL_len, List.length_cons, List.length_nil]; omega)))
    Lv.nil)) (by walk_at "sto") fun s₃ F => ?_
  replace F := F.pick [("ways", IntsV ways), ("counts", IntsV counts), ("sure", IntV (sure : Int)), ("most", IntV (most : Int)), ("mean", IntV mean), ("sums", IntsV sums), ("pairs", PairsV pairs), ("low", IntV (low : Int)), ("high", HiV high),
    ("thrice", IntsV (thriceL ways)), ("others", IntsV (othersL counts))] (by walk_at "sub")
  have W₃ := (gF F).w
  have lo : (othersL counts).length ≤ 1000 := by simp only [othersL, List.length_append, List.length_map, rangeL_len, List.length_cons, List.length_nil]; omega
  have lt : (thriceL ways).length ≤ 1000 := by simp only [thriceL, List.length_map]; omega
  have lw : (weightsL counts).length ≤ 1000 := by rw [← others_len _ K.c0]; exact lo
  refine xs_tuple_swapped (names := ["size", "weights"]) F (okE rfl) rm.h (by rfl)
    (Lv.cons (Ev.lenI (by walk_at "nm") (by walk_at "nm") (by omega))
    (Lv.cons (Sv.cast (Q := IntsV (weightsL counts)) (Ev.binR (Ev.sliceI (by walk_at "nm") (by omega) (EvPart.some Ev.cint) EvPart.none) (Ev.sliceI (by walk_at "nm") (by omega) EvPart.none (EvPart.some Ev.cint)) (op_catI (by rw [pick_tail _ K.c0, pick_head]; simp only [List.length_drop, List.length_take]; omega))) (by rw [pick_tail _ K.c0, pick_head]; rfl))
    Lv.nil)) (by walk_at "sto") fun s₄ F => ?_
  replace F := F.pick [("ways", IntsV ways), ("counts", IntsV counts), ("sure", IntV (sure : Int)), ("most", IntV (most : Int)), ("mean", IntV mean), ("sums", IntsV sums), ("pairs", PairsV pairs), ("low", IntV (low : Int)), ("high", HiV high),
    ("thrice", IntsV (thriceL ways)), ("others", IntsV (othersL counts)), ("size", IntV (ways.length : Int)), ("weights", IntsV (weightsL counts))] (by walk_at "sub")
  have W₄ := (gF F).w
  refine xs_tuple_swapped (names := ["kept", "middle"]) F (okE rfl) rm.h (by rfl)
    (Lv.cons (Ev.list (Nat.le_of_ble_eq_true rfl) (Lv.cons (Sv.cast (Q := IntsV ways) (Ev.sliceI (by walk_at "nm") (by omega) EvPart.none EvPart.none) (by rw [pick_all])) (Lv.cons (Sv.cast (Q := IntsV (thriceL ways)) (Ev.sliceI (by walk_at "nm") (by omega) EvPart.none EvPart.none) (by rw [pick_all]))
        (Lv.cons (Sv.cast (Q := IntsV (othersL counts)) (Ev.sliceI (by walk_at "nm") (by omega) EvPart.none EvPart.none) (by rw [pick_all])) (Lv.cons (Sv.cast (Q := IntsV (weightsL counts)) (Ev.sliceI (by walk_at "nm") (by omega) EvPart.none EvPart.none) (by rw [pick_all])) Lv.nil)))))
    (Lv.cons (Ev.list (Ps := [IntV (medLow ways), IntV (medHigh ways)]) (Nat.le_of_ble_eq_true rfl) (Lv.cons (Ev.callF (Ev.glob W₄.gc W₄.nLow rfl rfl rfl) (Lv.cons (by walk_at "nm") Lv.nil) (median_low W₄ (rd.less (by decide)) ways K.w0 K.w1))
      (Lv.cons (Ev.callF (Ev.glob W₄.gc W₄.nHigh rfl rfl rfl) (Lv.cons (by walk_at "nm") Lv.nil) (median_high W₄ (rd.less (by decide)) ways K.w0 K.w1)) Lv.nil)))
    Lv.nil)) (by walk_at "sto") fun s₅ F => ?_
  replace F := F.pick [("ways", IntsV ways), ("counts", IntsV counts), ("sure", IntV (sure : Int)), ("most", IntV (most : Int)), ("mean", IntV mean), ("sums", IntsV sums), ("pairs", PairsV pairs), ("low", IntV (low : Int)), ("high", HiV high),
    ("thrice", IntsV (thriceL ways)), ("others", IntsV (othersL counts)), ("size", IntV (ways.length : Int)), ("weights", IntsV (weightsL counts)), ("kept", ListV [IntsV ways, IntsV (thriceL ways), IntsV (othersL counts), IntsV (weightsL counts)]), ("middle", IntsV [medLow ways, medHigh ways])] (by walk_at "sub")
  refine xs_compM (fun n => n + 2) F (okE rfl) (.inl rfl) (src_list rm.h (by walk_at "nm")) (Nat.le_of_ble_eq_true rfl) (fun n C h₂ m ex own => Ev.bin op_add (own _) Ev.cint) fun s₆ F => ?_
  have Z₆ := gF F
  have W₆ := Z₆.w
  obtain ⟨dl, kl, Xl, Dl⟩ := Z₆.l
  refine xs_assign F (okE rfl) (.inl rfl) (Sv.cast (Q := IntV (firstL pairs low sure most)) (Ev.bin op_sub (Ev.callK (Ev.glob W₆.gc W₆.nLeft rfl rfl rfl) (Lv.cons (by walk_at "nm") (Lv.cons Ev.cint (Lv.cons (Sv.cast (Q := IntV ((low + sure : Nat) : Int)) (Ev.bin op_add (by walk_at "nm") (by walk_at "nm")) (by push_cast; rfl))
      (Lv.cons (Sv.cast (Q := IntV ((low + most : Nat) : Int)) (Ev.bin op_add (by walk_at "nm") (by walk_at "nm")) (by push_cast; rfl)) Lv.nil)))) (Ev.glob W₆.gc W₆.nFall rfl rfl rfl) (bisect_left_key Xl Dl W₆ rd pairs (by omega) 0 (low + sure) (low + most) K.mo)) (by walk_at "nm")) rfl) fun s₇ F => ?_
  have Z₇ := gF F
  have W₇ := Z₇.w
  obtain ⟨dr, kr, Xr, Dr⟩ := Z₇.r
  refine xs_assign F (okE rfl) (.inl rfl) (Sv.cast (Q := IntV (lastL pairs low sure most)) (Ev.bin op_sub (Ev.callK (Ev.glob W₇.gc W₇.nRight rfl rfl rfl) (Lv.cons (by walk_at "nm") (Lv.cons Ev.cint (Lv.cons (Sv.cast (Q := IntV ((low + sure : Nat) : Int)) (Ev.bin op_add (by walk_at "nm") (by walk_at "nm")) (by push_cast; rfl))
      (Lv.cons (Sv.cast (Q := IntV ((low + most : Nat) : Int)) (Ev.bin op_add (by walk_at "nm") (by walk_at "nm")) (by push_cast; rfl)) Lv.nil)))) (Ev.glob W₇.gc W₇.nFall rfl rfl rfl) (bisect_right_key Xr Dr W₇ rd pairs (by omega) 0 (low + sure) (low + most) K.mo)) (by walk_at "nm")) rfl) fun s₈ F => ?_
  replace F := F.pick [("ways", IntsV ways), ("counts", IntsV counts), ("mean", IntV mean), ("sums", IntsV sums), ("low", IntV (low : Int)), ("high", HiV high),
    ("thrice", IntsV (thriceL ways)), ("others", IntsV (othersL counts)), ("size", IntV (ways.length : Int)), ("weights", IntsV (weightsL counts)), ("kept", ListV [IntsV ways, IntsV (thriceL ways), IntsV (othersL counts), IntsV (weightsL counts)]), ("middle", IntsV [medLow ways, medHigh ways]),
    ("taken", IntsV [medLow ways + 2, medHigh ways + 2]), ("first", IntV (firstL pairs low sure most)), ("last", IntV (lastL pairs low sure most))] (by walk_at "sub")
  have W₈ := (gF F).w
  refine xs_if_skip F (Tv.cast (Et.not (Et.val (tr_bool _) (Ev.callF (Ev.glob W₈.gc W₈.nNear rfl rfl rfl) (Lv.cons (by walk_at "nm") (Lv.cons (Ev.list (Ps := [IntV (firstL pairs low sure most), IntV (lastL pairs low sure most)]) (Nat.le_of_ble_eq_true rfl) (Lv.cons (by walk_at "nm") (Lv.cons (by walk_at "nm") Lv.nil)))
    (Lv.cons (by walk_at "nm") (Lv.cons (Ev.bin op_sub (Ev.lenI (by walk_at "nm") (by walk_at "nm") (by omega)) Ev.cint) Lv.nil))))
    (near W₈ (rd.less (by decide)) [medLow ways + 2, medHigh ways + 2] [firstL pairs low sure most, lastL pairs low sure most] (by simp) (Nat.le_of_ble_eq_true rfl) (Nat.le_of_ble_eq_true rfl) mean ((counts.length : Int) - 1))))) (by rw [K.near]; rfl)) fun s₉ F => ?_
  have W₉ := (gF F).w
  have hne : counts ≠ [] := fun z => by have := K.c0; rw [z] at this; exact absurd this (by decide)
  obtain ⟨fb1, fb2, fb3, fb4⟩ := K.fb
  refine xs_if_skip F (Tv.cast (Et.cmpR (Ev.compP (fun k => counts.getD k.toNat 0 == lmax counts) (src_rangeL rm.h (range1 (n := counts.length) (by walk_at "nm") (Ev.lenI (by walk_at "nm") (by walk_at "nm") (by omega)) (by omega))) (by rw [rangeL_len]; omega)
      fun n C h₂ m ex' own => by
        have := mem_rangeL m
        have W' := W₉.ext ex'
        exact Et.cmp op_eq (Ev.itemI (by exact FS.seenAt F ex' rfl rfl rfl rfl rfl) (own _) (by omega) (by omega) (by omega)) (Ev.callB (Wd.built W' (by decide) boot_max rfl rfl rfl rfl) (Lv.cons (by exact FS.seenAt F ex' rfl rfl rfl rfl rfl) Lv.nil) (cb_max rm.h hne)))
    (Ev.listRange (n := (lastL pairs low sure most + 1 - firstL pairs low sure most).toNat) rm.h (by walk_at "nm") (range2 (by walk_at "nm") (by walk_at "nm") (Ev.bin op_add (by walk_at "nm") Ev.cint) rfl (by omega) (by omega) (by omega) (by omega)) (by omega))
    (op_ne_ints (b := rangeL (firstL pairs low sure most) (lastL pairs low sure most + 1 - firstL pairs low sure most).toNat) (rm.u64 _))) (by rw [K.modes]; simp)) fun s₁₀ F => ?_
  have W₁₀ := (gF F).w
  refine xs_assign F (okE rfl) (.inl rfl) (Sv.cast (Q := IntsV ((isort ways).map (· + 2) ++ [(counts.length : Int)])) (Ev.binR (Ev.compM (fun n => n + 2) (src_list rm.h (Ev.callB (by walk_at "nm") (Lv.cons (by walk_at "nm") Lv.nil) (cb_sorted K.w1))) (by rw [isort_len]; omega) fun n C h₂ m ex own => Ev.bin op_add (own _) Ev.cint)
    (Ev.list (Ps := [IntV (counts.length : Int)]) (Nat.le_of_ble_eq_true rfl) (Lv.cons (Ev.lenI (by walk_at "nm") (by walk_at "nm") (by omega)) Lv.nil)) (op_catI (b := [(counts.length : Int)]) (by simp only [List.length_map, isort_len, List.length_cons, List.length_nil]; omega))) rfl) fun s₁₁ F => ?_
  have Z₁₁ := gF F
  have W₁₁ := Z₁₁.w
  refine xs_if_skip F (Tv.cast (Et.cmpR (Ev.compM (fun t => leftL sums low high (t + 1)) (src_rangeL rm.h (range1 (n := ways.length + 1) (by walk_at "nm") (Sv.cast (Q := IntV ((ways.length + 1 : Nat) : Int)) (Ev.bin op_add (by walk_at "nm") Ev.cint) (by push_cast; rfl)) (by omega))) (by rw [rangeL_len]; omega)
      fun n C h₂ m ex' own => by
        have Z' := Z₁₁.ext ex'
        have W' := Z'.w
        obtain ⟨dl, kl, Xl, Dl⟩ := Z'.l
        exact Ev.bin op_sub (Ev.callF (Ev.glob W'.gc W'.nLeft rfl rfl rfl) (Lv.cons (by exact FS.seenAt F ex' rfl rfl rfl rfl rfl) (Lv.cons (Ev.bin op_add (own _) Ev.cint) (Lv.cons (by exact FS.seenAt F ex' rfl rfl rfl rfl rfl) (Lv.cons (by exact FS.seenAt F ex' rfl rfl rfl rfl rfl) Lv.nil)))) (bisect_left_int Xl Dl W' (rd.less (by decide)) sums (by omega) (n + 1) low high K.hi)) (by exact FS.seenAt F ex' rfl rfl rfl rfl rfl))
    (by walk_at "nm") (op_ne_ints (rm.u64 _))) (by rw [K.ordL]; simp)) fun s₁₂ F => ?_
  have Z₁₂ := gF F
  have W₁₂ := Z₁₂.w
  refine xs_if_skip F (Tv.cast (Et.cmpR (Ev.compM (fun t => rightL sums low high t) (src_rangeL rm.h (range1 (n := ways.length + 1) (by walk_at "nm") (Sv.cast (Q := IntV ((ways.length + 1 : Nat) : Int)) (Ev.bin op_add (by walk_at "nm") Ev.cint) (by push_cast; rfl)) (by omega))) (by rw [rangeL_len]; omega)
      fun n C h₂ m ex' own => by
        have Z' := Z₁₂.ext ex'
        have W' := Z'.w
        obtain ⟨dl, kl, Xl, Dl⟩ := Z'.r
        exact Ev.bin op_sub (Ev.callF (Ev.glob W'.gc W'.nRight rfl rfl rfl) (Lv.cons (by exact FS.seenAt F ex' rfl rfl rfl rfl rfl) (Lv.cons (own _) (Lv.cons (by exact FS.seenAt F ex' rfl rfl rfl rfl rfl) (Lv.cons (by exact FS.seenAt F ex' rfl rfl rfl rfl rfl) Lv.nil)))) (bisect_right_int Xl Dl W' (rd.less (by decide)) sums (by omega) n low high K.hi)) (by exact FS.seenAt F ex' rfl rfl rfl rfl rfl))
    (by walk_at "nm") (op_ne_ints (rm.u64 _))) (by rw [K.ordR]; simp)) fun s₁₃ F => ?_
  have Z₁₃ := gF F
  have W₁₃ := Z₁₃.w
  obtain ⟨dl', kl', Xl', Dl'⟩ := Z₁₃.l
  obtain ⟨dr', kr', Xr', Dr'⟩ := Z₁₃.r
  refine xs_if_skip F (Tv.cast (Et.cmpR (by walk_at "nm") (Ev.list (Ps := [IntV (leftL sums low high (((ways.length + 1) / 2 : Nat) : Int)), IntV (rightL sums low high ((ways.length / 2 : Nat) : Int))]) (Nat.le_of_ble_eq_true rfl) (Lv.cons (Ev.bin op_sub (Ev.callF (Ev.glob W₁₃.gc W₁₃.nLeft rfl rfl rfl) (Lv.cons (by walk_at "nm") (Lv.cons (Sv.cast (Q := IntV (((ways.length + 1) / 2 : Nat) : Int)) (Ev.bin (op_fdiv (by decide) (by decide)) (Ev.bin op_add (by walk_at "nm") Ev.cint) Ev.cint) (by rw [← fdiv2]; push_cast; rfl)) (Lv.cons (by walk_at "nm") (Lv.cons (by walk_at "nm") Lv.nil)))) (bisect_left_int Xl' Dl' W₁₃ (rd.less (by decide)) sums (by omega) _ low high K.hi)) (by walk_at "nm"))
    (Lv.cons (Ev.bin op_sub (Ev.callF (Ev.glob W₁₃.gc W₁₃.nRight rfl rfl rfl) (Lv.cons (by walk_at "nm") (Lv.cons (Sv.cast (Q := IntV ((ways.length / 2 : Nat) : Int)) (Ev.bin (op_fdiv (by decide) (by decide)) (by walk_at "nm") Ev.cint) (by rw [← fdiv2])) (Lv.cons (by walk_at "nm") (Lv.cons (by walk_at "nm") Lv.nil)))) (bisect_right_int Xr' Dr' W₁₃ (rd.less (by decide)) sums (by omega) _ low high K.hi)) (by walk_at "nm")) Lv.nil)))
    (op_ne_ints (a := [medLow ways + 2, medHigh ways + 2]) (b := [leftL sums low high (((ways.length + 1) / 2 : Nat) : Int), rightL sums low high ((ways.length / 2 : Nat) : Int)]) (rm.u64 _))) (by rw [← K.tk]; simp)) fun s₁₄ F => ?_
  replace F := F.pick [("ways", IntsV ways), ("mean", IntV mean), ("thrice", IntsV (thriceL ways)), ("others", IntsV (othersL counts)), ("size", IntV (ways.length : Int)), ("weights", IntsV (weightsL counts)), ("kept", ListV [IntsV ways, IntsV (thriceL ways), IntsV (othersL counts), IntsV (weightsL counts)]), ("middle", IntsV [medLow ways, medHigh ways])] (by walk_at "sub")
  have Z₁₄ := gF F
  have W₁₄ := Z₁₄.w
  obtain ⟨df, Xf, Df⟩ := Z₁₄.f
  refine xs_tuple_swapped (names := ["halfway", "means"]) F (okE rfl) rm.h (by rfl)
    (Lv.cons (Ev.callF (Ev.glob W₁₄.gc W₁₄.nMedian rfl rfl rfl) (Lv.cons (by walk_at "nm") Lv.nil) (median_ W₁₄ (rd.less (by decide)) ways K.w0 K.w1 K.ms))
    (Lv.cons (Ev.list (Ps := [FltV (mean1 ways), FltV (mean2 counts)]) (Nat.le_of_ble_eq_true rfl) (Lv.cons (Ev.callF (Ev.glob W₁₄.gc W₁₄.nFmean rfl rfl rfl) (Lv.cons (by walk_at "nm") Lv.nil) (fmean1 Xf Df W₁₄ (rd.less (by decide)) (thriceL ways) (by simpa [thriceL] using K.w0) lt K.f1))
      (Lv.cons (Ev.callF (Ev.glob W₁₄.gc W₁₄.nFmean rfl rfl rfl) (Lv.cons (by walk_at "nm") (Lv.cons (by walk_at "nm") Lv.nil)) (fmean2 Xf Df W₁₄ (rd.less (by decide)) (othersL counts) (weightsL counts) (others_len _ K.c0) lo K.sp K.f2 K.ss K.w2)) Lv.nil)))
    Lv.nil)) (by walk_at "sto") fun s₁₅ F => ?_
  replace F := F.pick [("ways", IntsV ways), ("mean", IntV mean), ("thrice", IntsV (thriceL ways)), ("others", IntsV (othersL counts)), ("size", IntV (ways.length : Int)), ("weights", IntsV (weightsL counts)), ("kept", ListV [IntsV ways, IntsV (thriceL ways), IntsV (othersL counts), IntsV (weightsL counts)]), ("middle", IntsV [medLow ways, medHigh ways]),
    ("halfway", MedV ways), ("means", ListV [FltV (mean1 ways), FltV (mean2 counts)])] (by walk_at "sub")
  have W₁₅ := (gF F).w
  have hu : (A.deeper (envK (scopeOf (stmtAt 15)) (nameOf (stmtAt 15) ++ ".<locals>.") s.heap.objs.size T.told cd)).units + 64 < cLine := rm.u64 _
  have hu1 : (A.deeper (envK (scopeOf (stmtAt 15)) (nameOf (stmtAt 15) ++ ".<locals>.") s.heap.objs.size T.told cd)).units < cLine := by omega
  have hu2 : (A.deeper (envK (scopeOf (stmtAt 15)) (nameOf (stmtAt 15) ++ ".<locals>.") s.heap.objs.size T.told cd)).in1.units < cLine := by show _ + 1 < _; omega
  have hfm := fmod2 ways.length
  refine xs_if_skip F (Et.cmpR (P := ListV [BoolV false, BoolV false, BoolV true, BoolV true, BoolV (((ways.length : Int).fmod 2) == 0)]) (Q := ListV [BoolV false, BoolV false, BoolV true, BoolV true, BoolV (((ways.length : Int).fmod 2) == 0)])
    (Sv.cast (Ev.comp (cl := []) (Ps := [IntV (medLow ways), IntV (medHigh ways), FltV (mean1 ways), FltV (mean2 counts), MedV ways]) (fun _ => true) (fun i => BoolV ([false, false, true, true, ((ways.length : Int).fmod 2) == 0].getD i false))
      (src_list rm.h (Sv.cast (Ev.binR (Ev.binR (P := ListV [IntV (medLow ways), IntV (medHigh ways)]) (Q := ListV [FltV (mean1 ways), FltV (mean2 counts)]) (by walk_at "nm") (by walk_at "nm") (op_cat (by exact Nat.le_of_ble_eq_true rfl))) (Ev.list (Ps := [MedV ways]) (Nat.le_of_ble_eq_true rfl) (Lv.cons (by walk_at "nm") Lv.nil)) (op_cat (by exact Nat.le_of_ble_eq_true rfl))) rfl))
      (fun i => scal_bool _) (by exact Nat.le_of_ble_eq_true rfl) (by rfl) (by decide +kernel) rfl (by decide +kernel) rfl (fun i Pi C h₂ _ _ _ => tests_nil) fun i Pi C h₂ a _ ex' own => by
        have W' := W₁₅.ext ex'
        rcases i with _ | _ | _ | _ | _ | i
        · cases a; exact Ev.callB (Wd.built W' (by decide) boot_isinstance rfl rfl rfl rfl) (Lv.cons (own _) (Lv.cons (Wd.built W' (by decide) boot_float rfl rfl rfl rfl) Lv.nil)) cb_isFloat_int
        · cases a; exact Ev.callB (Wd.built W' (by decide) boot_isinstance rfl rfl rfl rfl) (Lv.cons (own _) (Lv.cons (Wd.built W' (by decide) boot_float rfl rfl rfl rfl) Lv.nil)) cb_isFloat_int
        · cases a; exact Ev.callB (Wd.built W' (by decide) boot_isinstance rfl rfl rfl rfl) (Lv.cons (own _) (Lv.cons (Wd.built W' (by decide) boot_float rfl rfl rfl rfl) Lv.nil)) cb_isFloat_flt
        · cases a; exact Ev.callB (Wd.built W' (by decide) boot_isinstance rfl rfl rfl rfl) (Lv.cons (own _) (Lv.cons (Wd.built W' (by decide) boot_float rfl rfl rfl rfl) Lv.nil)) cb_isFloat_flt
        · have a : MedV ways = Pi := by injection a
          subst a
          by_cases hp : ways.length % 2 = 1
          · have hb : (((ways.length : Int).fmod 2) == 0) = false := by rw [hfm, hp]; rfl
            simp only [hb]
            have own' : ∀ pos, Ev prog w _ _ [] h₂ (.Name _ pos) (IntV (medHigh ways)) := fun pos => by have := own pos; rw [MedV, if_pos hp] at this; exact this
            exact Ev.callB (Wd.built W' (by decide) boot_isinstance rfl rfl rfl rfl) (Lv.cons (own' _) (Lv.cons (Wd.built W' (by decide) boot_float rfl rfl rfl rfl) Lv.nil)) cb_isFloat_int
          · have hb : (((ways.length : Int).fmod 2) == 0) = true := by rw [hfm, show ways.length % 2 = 0 by omega]; rfl
            simp only [hb]
            have own' : ∀ pos, Ev prog w _ _ [] h₂ (.Name _ pos) (FltV (divI (medSum ways) 2)) := fun pos => by have := own pos; rw [MedV, if_neg hp] at this; exact this
            exact Ev.callB (Wd.built W' (by decide) boot_isinstance rfl rfl rfl rfl) (Lv.cons (own' _) (Lv.cons (Wd.built W' (by decide) boot_float rfl rfl rfl rfl) Lv.nil)) cb_isFloat_flt
        · cases a) rfl)
    (Ev.list (Nat.le_of_ble_eq_true rfl) (Lv.cons Ev.cbool (Lv.cons Ev.cbool (Lv.cons Ev.cbool (Lv.cons Ev.cbool (Lv.cons (Ev.cmp op_eq (Ev.bin (op_fmod (by decide)) (by walk_at "nm") Ev.cint) Ev.cint) Lv.nil))))))
    (op_ne_lists hu1 (.cons (eqp_bool.cast rfl) (.cons (eqp_bool.cast rfl) (.cons (eqp_bool.cast rfl) (.cons (eqp_bool.cast rfl) (.cons (eqp_bool.cast (by simp)) .nil))))))) fun s₁₆ F => ?_
  have W₁₆ := (gF F).w
  have hq1 : Float64.cmpInt (Float64.mul (Float64.ofInt 4) (mean1 ways)) (mean - 24) == some Ordering.eq := K.m1
  have hq2 : Float64.cmpInt (Float64.mul (Float64.ofInt 4) (mean2 counts)) (mean - 24) == some Ordering.eq := K.m2
  refine xs_if_skip F (Et.or2 (c := false) (d := false) (Et.cmpR (P := ListV [FltV (Float64.mul (Float64.ofInt 4) (mean1 ways)), FltV (Float64.mul (Float64.ofInt 4) (mean2 counts))]) (Q := ListV [IntV (mean - 24), IntV (mean - 24)])
    (Sv.cast (Ev.comp (cl := []) (Ps := [FltV (mean1 ways), FltV (mean2 counts)]) (fun _ => true) (fun i => FltV ([Float64.mul (Float64.ofInt 4) (mean1 ways), Float64.mul (Float64.ofInt 4) (mean2 counts)].getD i 0)) (src_list rm.h (by walk_at "nm"))
      (fun i => scal_flt _) (by exact Nat.le_of_ble_eq_true rfl) (by rfl) (by decide +kernel) rfl (by decide +kernel) rfl (fun i Pi C h₂ _ _ _ => tests_nil) fun i Pi C h₂ a _ ex' own => by
        rcases i with _ | _ | i
        · cases a; exact Ev.bin (op_mul_if (by decide)) Ev.cint (own _)
        · cases a; exact Ev.bin (op_mul_if (by decide)) Ev.cint (own _)
        · cases a) rfl)
    (Ev.list (Nat.le_of_ble_eq_true rfl) (Lv.cons (Ev.bin op_sub (by walk_at "nm") Ev.cint) (Lv.cons (Ev.bin op_sub (by walk_at "nm") Ev.cint) Lv.nil)))
    (op_ne_lists hu1 (.cons (eqp_fi.cast hq1) (.cons (eqp_fi.cast hq2) .nil)))) fun _ => ?_) fun s₁₇ F => ?_
  · have hk := K.half
    by_cases hp : ways.length % 2 = 1
    · rw [halfOk, if_pos hp] at hk
      rw [MedV, if_pos hp] at F
      refine Tv.cast (Et.cmpR (Ev.bin (op_mul (mulL (by decide))) Ev.cint (by walk_at "nm")) (Ev.callB (by walk_at "nm") (Lv.cons (by walk_at "nm") Lv.nil) (cb_sum (ns := [medLow ways, medHigh ways]) rm.h)) op_ne) ?_
      simp only [List.sum_cons, List.sum_nil, Int.add_zero, bne_eq_false_iff_eq]
      exact eq_of_beq hk
    · rw [halfOk, if_neg hp] at hk
      rw [MedV, if_neg hp] at F
      refine Tv.cast (Et.cmpR (Ev.bin (op_mul_if (by decide)) Ev.cint (by walk_at "nm")) (Ev.callB (by walk_at "nm") (Lv.cons (by walk_at "nm") Lv.nil) (cb_sum (ns := [medLow ways, medHigh ways]) rm.h)) op_ne_fi) ?_
      simp only [List.sum_cons, List.sum_nil, Int.add_zero]
      exact bne_eq_false_iff_eq.mpr (eq_of_beq hk)
  exact xs_return F (Ev.cmpR (Ev.list (Ps := [IntsV ways, IntsV (thriceL ways), IntsV (othersL counts), IntsV (weightsL counts)]) (Nat.le_of_ble_eq_true rfl) (Lv.cons (by walk_at "nm") (Lv.cons (by walk_at "nm") (Lv.cons (by walk_at "nm") (Lv.cons (by walk_at "nm") Lv.nil))))) (by exact FS.ev F rfl rfl)
    (op_eq_lists hu1 (.cons (eqp_ints hu2) (.cons (eqp_ints hu2) (.cons (eqp_ints hu2) (.cons (eqp_ints hu2) .nil)))))) fun v s₁₈ p F => ⟨p, F.keeps0⟩
end
end Mine
end

section
open PySem PySem.Calls PyProof.Rows
set_option maxRecDepth 100000
set_option linter.unusedVariables false
namespace Mine

/-- the lists written to: the frame's own, none twice -/
structure HOk (env : Env) (s₀ : Shared) (hs : List Addr) : Prop extends EnvOk env hs where
  nd : hs.Nodup
  fr : ∀ a ∈ hs, s₀.heap.get? a = none

section
variable {prog : Program} {w : World} {A : Around} {env : Env} {s₀ s s' : Shared} {hr : Heap} {M : List (Addr × List VP)} {Γ : List (Str × VP)} {E : Value → Shared → Prop} {Q : Flow → Shared → Prop}

theorem HOk.nil (hk : env.scope.kind = .function) : HOk env s₀ [] := ⟨⟨hk, by simp, by simp⟩, List.nodup_nil, by simp⟩

/-- a list just made is from now on one that is written to -/
theorem FS.thaw {s₁ : Shared} {a : Addr} {items : Array Value} {Ps : List VP} (F : FS env s₀ M hr s Γ) (H : HOk env s₀ (hsOf M)) (k : Keeps s s₁) (hf : s₁.heap.get? a = none) (k' : Keeps s₁ s') (hp : s'.heap.PlainList a items)
    (p : Paired (fun (P : VP) v => P.p (LV (hsOf M) s₁.heap) v) Ps items.toList) : FS env s₀ ((a, Ps) :: M) hr s' Γ ∧ HOk env s₀ (hsOf ((a, Ps) :: M)) := by
  have F₁ := F.kp k
  have lv : ∀ b it, LV (hsOf M) s₁.heap b it → LV (hsOf ((a, Ps) :: M)) s'.heap b it := fun b it l => by
    have hb : b ≠ a := fun z => by obtain ⟨o, e, _⟩ := l.2; rw [z, hf] at e; cases e
    exact ⟨by simp only [List.map_cons, List.mem_cons, not_or]; exact ⟨hb, l.1⟩, (LV.ext (kpExt k') _ _ l).2⟩
  have F₂ := F₁.kp k'
  obtain ⟨⟨a1, a2, a3⟩, c0, cr⟩ := F₁.fresh hf
  refine ⟨⟨?_, fun b o h1 h2 h3 e => F₂.stays b o h1 h2 (fun z => h3 (List.mem_cons_of_mem _ z)) e, fun q hq => ?_⟩, ⟨⟨H.k, ?_, ?_⟩, ?_, ?_⟩⟩
  · obtain ⟨m, cm, I, hΓ⟩ := F₁.inn
    have e := kpExt k'
    obtain ⟨h, t, rfl, _⟩ := k'
    refine ⟨m, cm, ⟨⟨?_, I.toInCall.ns.keeps e, fun b o x => e _ _ (I.toInCall.keep b o x), I.toInCall.fresh⟩, fun n c x => (I.cell n c x).keeps e, I.apart, I.above⟩, fun x P q => ?_⟩
    · obtain ⟨h₁, t₁, r⟩ := I.toInCall.same
      exact ⟨h, t, by rw [r]⟩
    · rcases hΓ x P q with ⟨a, v, b, c⟩ | ⟨a, c, v, b, d, f⟩
      · exact .inl ⟨a, v, b, P.mono lv c⟩
      · exact .inr ⟨a, c, v, b, d, P.mono lv f⟩
  · rcases List.mem_cons.mp hq with rfl | hq
    · exact ⟨items, hp, Paired.imp (fun P _ z => P.mono lv z) p⟩
    · obtain ⟨its, x, y⟩ := F₁.mu q hq
      exact ⟨its, x.at fun o e => kpExt k' _ _ e, Paired.imp (fun P _ z => P.mono lv z) y⟩
  · simp only [List.map_cons, List.mem_cons, not_or]; exact ⟨Ne.symm a1, H.L⟩
  · intro n c hc
    simp only [List.map_cons, List.mem_cons, not_or]; exact ⟨Ne.symm (a2 n c hc), H.C n c hc⟩
  · simp only [List.map_cons, List.nodup_cons]; exact ⟨a3, H.nd⟩
  · intro b hb
    rcases List.mem_cons.mp hb with rfl | hb
    · exact c0
    · exact H.fr b hb

/-- x.append(e) as a statement -/
theorem xs_append {x : Str} {np apos pos spos : Pos} {elt : Expr} {rest : List Stmt} {a : Addr} {Ps : List VP} {P : VP} {M₁ M₂ : List (Addr × List VP)} (F : FS env s₀ (M₁ ++ (a, Ps) :: M₂) hr s Γ) (H : HOk env s₀ (hsOf (M₁ ++ (a, Ps) :: M₂)))
    (hx : Γ.lookup x = some (IsV (.ref a))) (ev : Ev prog w A env (hsOf (M₁ ++ (a, Ps) :: M₂)) s.heap elt P) (hz : Ps.length ≤ 100000)
    (next : ∀ s', FS env s₀ (M₁ ++ (a, Ps ++ [P]) :: M₂) hr s' Γ → wpAny (model prog w) A (execs rest env) Q E s')
    (hbase : attributeBase (.Name x np) "append" env (eval (.Name x np) env) = eval (.Name x np) env := by rfl)
    (hfew : ((backTo pos (starEach [elt] env)).all (fun x => !x.1) && (backToKw pos (keywordEach [] env)).all (fun x => x.1.isSome)
      && decide (([elt] : List Expr).length + ([] : List Keyword).length + (if ([] : List Keyword).isEmpty then 0 else 1) < 30)) = true := by rfl)
    (hline : (apos.endLine == pos.line) = true := by rfl)
    (htrees : backTo pos (starEach [elt] env) = [(false, eval elt env)] := by rfl)
    (hi : interactive env = false := by rfl) (hs : swapsWith (.Call (.Attribute (.Name x np) "append" apos) [elt] [] pos) none spos.line env = pure false := by rfl) (hd : (x == ("__debug__" : Str)) = false := by decide) :
    wpAny (model prog w) A (execs (.Expr (.Call (.Attribute (.Name x np) "append" apos) [elt] [] pos) spos :: rest) env) Q E s := by
  refine wpAny_execs_cons (wpAny_Expr (wpAny_Call_append hbase hfew hline htrees ?_) hi hs)
  refine Sv.go (F.ev hx H.k hd) F.old fun v s₁ p k => ?_
  obtain rfl : v = _ := p
  have F₁ := F.kp k
  have hmem : (a, Ps) ∈ M₁ ++ (a, Ps) :: M₂ := List.mem_append_right _ List.mem_cons_self
  obtain ⟨its, ⟨n, e₁⟩, _⟩ := F₁.mu _ hmem
  refine ⟨a, its, rfl, ⟨_, n, e₁, rfl, rfl, rfl⟩, ?_⟩
  refine Sv.go (ev.at (kpExt k)) F₁.old fun y s₂ q k₂ => ?_
  have F₂ := F₁.kp k₂
  obtain ⟨its₂, pl₂, pp₂⟩ := F₂.mu _ hmem
  refine wpAny_list_append_plain pl₂ (fun h' pl' hs' => ?_) (by rw [← Array.length_toList, ← pp₂.length]; exact Nat.le_trans hz (by decide))
  have ham : a ∈ hsOf (M₁ ++ (a, Ps) :: M₂) := List.mem_map_of_mem hmem
  have kk : ∀ b o, b ≠ a → s₂.heap.get? b = some o → h'.get? b = some o := fun b o hb e => hs'.extBut b o hb e
  have hsE : hsOf (M₁ ++ (a, Ps ++ [P]) :: M₂) = hsOf (M₁ ++ (a, Ps) :: M₂) := by simp [hsOf]
  have lv : ∀ b it, LV (hsOf (M₁ ++ (a, Ps) :: M₂)) s₂.heap b it → LV (hsOf (M₁ ++ (a, Ps ++ [P]) :: M₂)) h' b it := fun b it l => by
    rw [hsE]
    exact ⟨l.1, let ⟨o, e, r⟩ := l.2; ⟨o, kk b o (fun z => l.1 (z ▸ ham)) e, r⟩⟩
  show wpAny (model prog w) A (execs rest env) Q E _
  refine next _ ⟨?_, fun b o h1 h2 h3 e => ?_, fun r hr' => ?_⟩
  · obtain ⟨m, cm, I, hΓ⟩ := F₂.inn
    refine ⟨m, cm, ⟨⟨?_, I.toInCall.ns.at' fun o e => kk _ o (fun z => H.L (z ▸ ham)) e, fun b o e => kk b o (fun z => by rw [z, H.fr a ham] at e; cases e) (I.toInCall.keep b o e), I.toInCall.fresh⟩, fun n c hc => let ⟨o, e, d⟩ := I.cell n c hc; ⟨o, kk c o (fun z => H.C n c hc (z ▸ ham)) e, d⟩, I.apart, I.above⟩, fun x P q => ?_⟩
    · obtain ⟨h₁, t₁, r⟩ := I.toInCall.same
      exact ⟨h', s₂.toks, by rw [r]⟩
    · rcases hΓ x P q with ⟨a, v, b, c⟩ | ⟨a, c, v, b, d, f⟩
      · exact .inl ⟨a, v, b, P.mono lv c⟩
      · exact .inr ⟨a, c, v, b, d, P.mono lv f⟩
  · rw [hsE] at h3
    exact kk b o (fun z => h3 (z ▸ ham)) (F₂.stays b o h1 h2 h3 e)
  · have old : ∀ r ∈ M₁ ++ M₂, ∃ items, h'.PlainList r.1 items ∧ Paired (fun (Z : VP) v => Z.p (LV (hsOf (M₁ ++ (a, Ps ++ [P]) :: M₂)) h') v) r.2 items.toList := fun r hr' => by
      have hm : r ∈ M₁ ++ (a, Ps) :: M₂ := by
        rcases List.mem_append.mp hr' with h | h
        · exact List.mem_append_left _ h
        · exact List.mem_append_right _ (List.mem_cons_of_mem _ h)
      have hne : r.1 ≠ a := fun z => by
        have nd := H.nd
        rw [show hsOf (M₁ ++ (a, Ps) :: M₂) = M₁.map (·.1) ++ a :: M₂.map (·.1) by simp [hsOf]] at nd
        have := (List.nodup_cons.mp (List.perm_middle.nodup_iff.mp nd)).1
        exact this (by rw [← List.map_append, ← z]; exact List.mem_map_of_mem hr')
      obtain ⟨items, x, y⟩ := F₂.mu r hm
      exact ⟨items, x.at fun o e => kk _ o hne e, Paired.imp (fun P _ z => P.mono lv z) y⟩
    rcases List.mem_append.mp hr' with h | h
    · exact old r (List.mem_append_left _ h)
    · rcases List.mem_cons.mp h with rfl | h
      · refine ⟨its₂.push y, pl', ?_⟩
        rw [Array.toList_push]
        exact Paired.app (Paired.imp (fun P _ z => P.mono lv z) pp₂) (.cons (P.mono lv q) .nil)
      · exact old r (List.mem_append_right _ h)

theorem FS.lenM {x f : Str} {np fp pos : Pos} {a : Addr} {Ps : List VP} (F : FS env s₀ M hr s Γ) (hk : env.scope.kind = .function) (hx : Γ.lookup x = some (IsV (.ref a))) (hm : (a, Ps) ∈ M) (hz : Ps.length ≤ 100000) (hf : Ev prog w A env (hsOf M) s.heap (.Name f fp) (IsV (.builtin "len")))
    (he : starEach [.Name x np] env = [(false, eval (.Name x np) env)] := by rfl) (hd : (x == ("__debug__" : Str)) = false := by decide) :
    Ev prog w A env (hsOf M) s.heap (.Call (.Name f fp) [.Name x np] [] pos) (IntV (Ps.length : Int)) := fun s₁ E ex od => by
  refine Call_ (Sv.go (hf.at ex) od fun v s₂ p k => ?_)
  obtain rfl : v = _ := p
  refine callWith_builtin1 (args_cons (Sv.go ((F.ev hx hk hd).at (ex.trans (kpExt k))) (od.kp k) fun v s₃ q k₂ => args_nil ?_) he) he rfl
  obtain rfl : v = _ := q
  obtain ⟨items, pl, pp⟩ := F.mu _ hm
  have L : s₃.heap.IsList a items := (pl.at fun o e => kpExt (kpTrans k k₂) _ _ (ex _ _ e)).isList
  have hn : items.size = Ps.length := by rw [pp.length, Array.length_toList]
  have hs24 : sizeLine = 2 ^ 24 := rfl
  exact Calls.call_len_list L (by rw [hn]; omega) ⟨⟨_, by rw [hn]⟩, kpTrans (kpTrans k k₂) (kpOf (Ext.refl _))⟩
theorem FS.itemM {x : Str} {np pos : Pos} {i : Expr} {a : Addr} {Ps : List VP} {P : VP} {n : Int} (F : FS env s₀ M hr s Γ) (hk : env.scope.kind = .function) (hx : Γ.lookup x = some (IsV (.ref a))) (hm : (a, Ps) ∈ M) (y : Ev prog w A env (hsOf M) s.heap i (IntV n)) (h0 : 0 ≤ n) (h1 : n < 2 ^ 63) (hP : Ps[n.toNat]? = some P)
    (hsub : ∀ o (j : Int) t, subscripted i false (.ref o) (.int j t) = operate [.ref o, .int j t] (getItem (.ref o) (.int j t)) := by intro _ _ _; with_unfolding_all rfl) (hd : (x == ("__debug__" : Str)) = false := by decide) :
    Ev prog w A env (hsOf M) s.heap (.Subscript (.Name x np) i pos) P := fun s₁ E ex od => by
  refine Subscript_ (Sv.go ((F.ev hx hk hd).at ex) od fun v s₂ p k₁ => Sv.go (y.at (ex.trans (kpExt k₁))) (od.kp k₁) fun u s₃ q k₂ => ?_)
  obtain rfl : v = _ := p
  obtain ⟨t, rfl⟩ := q
  obtain ⟨items, pl, pp⟩ := F.mu _ hm
  have e₃ : Ext s.heap s₃.heap := ex.trans (kpExt (kpTrans k₁ k₂))
  have L : s₃.heap.IsList a items := (pl.at fun o e => e₃ _ _ e).isList
  obtain ⟨v, hv, hp⟩ := Paired.get pp _ hP
  exact tail_any L.typeIs slot_list_getitem.lookup (wpAny_getItem_list L h0 h1 (by simpa using hv) ⟨P.ext e₃ hp, kpTrans k₁ k₂⟩) (hsub _ _ _)

theorem FS.freezeAll (F : FS env s₀ M hr s Γ) (Δ : List (Str × VP)) (hΔ : ∀ p ∈ Δ, Γ.lookup p.1 = some p.2 ∨ ∃ a Ps, (a, Ps) ∈ M ∧ Γ.lookup p.1 = some (IsV (.ref a)) ∧ p.2 = ListV Ps) : FS env s₀ [] s.heap s Δ := by
  refine ⟨?_, fun _ _ _ _ _ e => e, fun p hp => nomatch hp⟩
  obtain ⟨m, cm, I, hΓ⟩ := F.inn
  have fz : ∀ (P : VP) v, P.p (LV (hsOf M) s.heap) v → P.p (LV [] s.heap) v := fun P v h => P.mono (fun a i l => l.sub) h
  refine ⟨m, cm, I, fun x P q => ?_⟩
  rcases hΔ (x, P) (mem_of_lookup q) with h | ⟨a, Ps, hm, h, rfl⟩
  · rcases hΓ x P h with ⟨a, v, b, c⟩ | ⟨a, c, v, b, d, f⟩
    · exact .inl ⟨a, v, b, fz _ _ c⟩
    · exact .inr ⟨a, c, v, b, d, fz _ _ f⟩
  · obtain ⟨items, pl, pp⟩ := F.mu _ hm
    have hl : (ListV Ps).p (LV [] s.heap) (.ref a) := ⟨a, items, rfl, ⟨by simp, pl.isList⟩, Paired.imp (fun P _ z => fz _ _ z) pp⟩
    rcases hΓ x _ h with ⟨a', v, b, c⟩ | ⟨a', c, v, b, d, f⟩
    · obtain rfl : v = _ := c
      exact .inl ⟨a', _, b, hl⟩
    · obtain rfl : v = _ := f
      exact .inr ⟨a', c, _, b, d, hl⟩
theorem FS.castM {M' : List (Addr × List VP)} (F : FS env s₀ M hr s Γ) (e : M = M') : FS env s₀ M' hr s Γ := e ▸ F
end
end Mine
end

section
open PySem PySem.Calls PyProof.Rows
set_option maxRecDepth 100000
set_option linter.unusedVariables false
namespace Mine

local macro_rules | `(tactic| walk_at "nm") => `(tactic| first
  | exact FS.ev (by with_reducible assumption) rfl rfl
  | exact Wd.built (by with_reducible assumption) (by decide) (by first | exact boot_len | exact boot_sorted | exact boot_range | exact boot_max | exact boot_min | exact boot_sum | exact boot_list | exact boot_isinstance | exact boot_float | exact boot_tuple) rfl rfl rfl rfl)
local macro_rules | `(tactic| walk_at "sub") => `(tactic| repeat (first | exact List.forall_mem_nil _ | refine List.forall_mem_cons.mpr ⟨rfl, ?_⟩))
local macro_rules | `(tactic| walk_at "sto") => `(tactic| repeat (first | exact List.forall_mem_nil _ | refine List.forall_mem_cons.mpr ⟨by first | exact Or.inl rfl | exact Or.inr ⟨rfl, rfl⟩, ?_⟩))

structure Book where
  ways : List Int
  counts : List Int
  sure : Nat
  most : Nat
  mean : Int
abbrev Book.V (b : Book) : VP := BookV b.ways b.counts b.sure b.most b.mean

/-- the running sums -/
def accL : Int → List Int → List Int
  | _, [] => []
  | t, c :: r => (t + c) :: accL (t + c) r
def pairL (c : List Int) : List (Int × Int) := (List.range c.length).map fun k => (c.getD k 0, (c ++ [0]).getD (k + 1) 0)
def sumsL (bs : List Book) : List Int := bs.flatMap fun b => accL 0 b.counts
def pairsL (bs : List Book) : List (Int × Int) := bs.flatMap fun b => pairL b.counts
def begL (bs : List Book) (n : Nat) : List Int := (List.range n).map fun j => ((sumsL (bs.take j)).length : Int)
theorem begL_succ (bs : List Book) (n : Nat) : begL bs (n + 1) = begL bs n ++ [((sumsL (bs.take n)).length : Int)] := by simp [begL, List.range_succ]
theorem begL_len (bs : List Book) (n : Nat) : (begL bs n).length = n := by simp [begL]
theorem accL_len : ∀ (t : Int) (c : List Int), (accL t c).length = c.length
  | _, [] => rfl
  | t, c :: r => by simp [accL, accL_len (t + c) r]
theorem accL_get : ∀ (c : List Int) (t : Int) (k : Nat), k < c.length → (accL t c)[k]? = some (t + (c.take (k + 1)).sum)
  | [], _, _, h => absurd h (Nat.not_lt_zero _)
  | c :: r, t, 0, _ => by simp [accL]
  | c :: r, t, k + 1, h => by
    simp only [accL, List.getElem?_cons_succ, List.take_succ_cons, List.sum_cons]
    rw [accL_get r (t + c) k (by simpa using h), Int.add_assoc]
theorem take_snoc {α : Type} {l : List α} {k : Nat} {x : α} (h : l[k]? = some x) : l.take (k + 1) = l.take k ++ [x] := by rw [List.take_add_one, h]; rfl
theorem sum_snoc {c : List Int} {k : Nat} (h : k < c.length) : (c.take (k + 1)).sum = (c.take k).sum + c.getD k 0 := by
  have e : c[k]? = some (c.getD k 0) := by rw [List.getD_eq_getElem?_getD, List.getElem?_eq_getElem h]; rfl
  rw [take_snoc e, List.sum_append, List.sum_cons, List.sum_nil, Int.add_zero]
theorem pairL_len (c : List Int) : (pairL c).length = c.length := by simp [pairL]
theorem pairL_get {c : List Int} {k : Nat} (h : k < c.length) : (pairL c)[k]? = some (c.getD k 0, (c ++ [0]).getD (k + 1) 0) := by
  simp [pairL, h]
theorem sumsL_len {bs : List Book} (hc : ∀ b ∈ bs, b.counts.length ≤ 100) : (sumsL bs).length ≤ 100 * bs.length := by
  induction bs with
  | nil => simp [sumsL]
  | cons b r ih =>
    have h1 := hc b List.mem_cons_self
    have h2 := ih fun b hb => hc b (List.mem_cons_of_mem _ hb)
    simp only [sumsL, List.flatMap_cons, List.length_append, accL_len, List.length_cons] at h2 ⊢
    omega
theorem pairsL_len (bs : List Book) : (pairsL bs).length = (sumsL bs).length := by
  induction bs with
  | nil => rfl
  | cons b r ih =>
    simp only [sumsL, pairsL, List.flatMap_cons, List.length_append, accL_len, pairL_len] at ih ⊢
    omega
theorem sumsL_succ {bs : List Book} {i : Nat} {b : Book} (h : bs[i]? = some b) : sumsL (bs.take (i + 1)) = sumsL (bs.take i) ++ accL 0 b.counts := by
  rw [take_snoc h]; simp [sumsL]
theorem pairsL_succ {bs : List Book} {i : Nat} {b : Book} (h : bs[i]? = some b) : pairsL (bs.take (i + 1)) = pairsL (bs.take i) ++ pairL b.counts := by
  rw [take_snoc h]; simp [pairsL]

section
variable {prog : Program} {w : World} {A : Around} {env : Env} {s₀ s s' : Shared} {hr h : Heap} {M : List (Addr × List VP)} {Γ : List (Str × VP)} {E : Value → Shared → Prop} {mg mb : Str → Option Value} {T : Tab}

theorem FS.display {es : List Expr} {pos : Pos} {Ps : List VP} {Q : Value → Shared → Prop} (F : FS env s₀ M hr s Γ) (H : HOk env s₀ (hsOf M)) (lv : Lv prog w A (hsOf M) s.heap (spliced (backTo pos (starEach es env))) Ps) (hz : Ps.length ≤ 100)
    (next : ∀ a s', FS env s₀ ((a, Ps) :: M) hr s' Γ → HOk env s₀ (hsOf ((a, Ps) :: M)) → Q (.ref a) s') : wpAny (model prog w) A (eval (.List es pos) env) Q E s := by
  refine wpAny_List (Lv.go lv F.old fun vs s₁ q k => ?_)
  refine ⟨by rw [← q.length]; exact Nat.le_trans hz (by decide), ?_⟩
  have hf : s₁.heap.get? s₁.heap.objs.size = none := by
    cases e : s₁.heap.get? s₁.heap.objs.size with
    | none => rfl
    | some o => exact absurd (Heap.lt_size e) (Nat.lt_irrefl _)
  have := F.thaw (s' := { s₁ with heap := s₁.heap.push { cls := .type "list", data := .seq vs.toArray } }) (items := vs.toArray) H k hf (kpOf (Ext.push _ _)) ⟨0, Heap.get?_push_size _ rfl⟩ (by simpa using q)
  exact next _ _ this.1 this.2

theorem xs_tuple_gen {ts vs : List Expr} {k k2 : Nat} {tpos vpos pos : Pos} {names : List Str} {rest : List Stmt} {Q : Flow → Shared → Prop} (hh : A.handled = none)
    (hw : swappedStores [.Tuple ts k tpos] (.Tuple vs k2 vpos) env = pure (some names))
    (ev : wpAny (model prog w) A (spliced (backTo vpos (starEach vs env))) (fun vals s₁ => ∃ M Ps, FS env s₀ M hr s₁ Γ ∧ EnvOk env (hsOf M) ∧ Paired (fun (P : VP) v => P.p (LV (hsOf M) s₁.heap) v) Ps vals ∧ names.length = Ps.length ∧ names.length ≤ 100 ∧
      ∀ s', FS env s₀ M hr s' (push names.reverse Ps.reverse Γ) → wpAny (model prog w) A (execs rest env) Q E s') E s)
    (hx : ∀ x ∈ names, Sto env x)
    (hs : swapsWithSole [.Tuple ts k tpos] (.Tuple vs k2 vpos) pos.line env = pure false := by rfl) :
    wpAny (model prog w) A (execs (.Assign [.Tuple ts k tpos] (.Tuple vs k2 vpos) pos :: rest) env) Q E s := by
  refine wpAny_execs_cons (Assign_Tuple_swapped (wpAny_Tuple (wpAny_mono ev (fun vals s₁ ⟨M, Ps, F, ok, p, hl, hz, next⟩ => ?_) fun _ _ z => z)) hs hw)
  refine ⟨by rw [← p.length, ← hl]; exact Nat.le_trans hz (by decide), ?_⟩
  have kp : Keeps s₁ { s₁ with heap := s₁.heap.push { cls := .type "tuple", data := .seq vals.toArray } } := kpOf (Ext.push _ _)
  rw [show names.length = vals.toArray.size by rw [hl, List.size_toArray, p.length]]
  refine wpAny_unpackItems_tuple hh ⟨_, Heap.get?_push_size _ rfl, rfl, 0, rfl⟩ fun h' he => ?_
  have kk : Keeps s₁ { s₁ with heap := h' } := kpTrans kp (kpOf (ext_of_extBut he))
  have hf : ∀ l : List Str, Paired (StoresTo env) (l.map fun n => fun v => bindName env n v) l := fun l => by
    induction l with
    | nil => exact .nil
    | cons x r ih => exact .cons storesTo_bind ih
  exact stores ok (hf names.reverse) (Paired.rev (Paired.kp kk p)) (fun x hm => hx x (List.mem_reverse.mp hm)) (by rw [List.length_reverse, List.length_reverse, hl]) (F.kp kk) next

set_option maxHeartbeats 4000000 in
theorem laid (W : Wd mg mb T h) (rm : Room 1 A) (bs : List Book) (hb : bs.length ≤ 100) (hc : ∀ b ∈ bs, b.counts.length ≤ 100) :
    CallF prog w A [] h T.laid [ListV (bs.map Book.V)] [] (ListV [IntsV (sumsL bs), PairsV (pairsL bs), ListV ((begL bs bs.length).map IntV ++ [NoneV])]) := by
  have X := W.laid
  refine ⟨let ⟨o, fd, h1, h2, _⟩ := X.ex; ⟨o, fd, h1, h2⟩, ?_⟩
  rintro h' vs ks e (_ | ⟨p, (_ | _)⟩) (_ | _) s E ex od
  rename_i v
  refine wpAny_call (call_enter ["books"] (X.ext (e.trans ex)) (W.gc.lim.keeps (e.trans ex)) rm.dep (.cons (VP.ext _ ex p) .nil) fun cd s₁ F => ?_)
  have H : HOk (envK (scopeOf (stmtAt 13)) (nameOf (stmtAt 13) ++ ".<locals>.") s.heap.objs.size T.laid cd) s (hsOf []) := HOk.nil rfl
  refine xs_tuple_gen (s₀ := s) (Γ := [("books", ListV (bs.map Book.V))]) (names := ["sums", "pairs", "begins"]) (hr := s₁.heap) rm.h (by rfl) ?_ (by walk_at "sto")
  refine wpAny_items_cons (F.display H Lv.nil (by decide) fun a1 s₂ F H => ?_)
  refine wpAny_items_cons (F.display H Lv.nil (by decide) fun a2 s₃ F H => ?_)
  refine wpAny_items_cons (F.display H (Lv.cons Ev.cint Lv.nil) (by exact Nat.le_of_ble_eq_true rfl) fun a3 s₄ F H => wpAny_items_nil ⟨_, [IsV (.ref a1), IsV (.ref a2), IsV (.ref a3)], F, H.toEnvOk, .cons rfl (.cons rfl (.cons rfl .nil)), rfl, by decide, fun s₅ F => ?_⟩)
  replace H : HOk (envK (scopeOf (stmtAt 13)) (nameOf (stmtAt 13) ++ ".<locals>.") s.heap.objs.size T.laid cd) s [a3, a2, a1] := H
  let PV : Int × Int → VP := fun p => ListV [IntV p.1, IntV p.2]
  let M : Nat → List (Addr × List VP) := fun i => [(a3, (begL bs (i + 1)).map IntV), (a2, (pairsL (bs.take i)).map PV), (a1, (sumsL (bs.take i)).map IntV)]
  let Γ : Nat → List (Str × VP) := fun i => [("books", ListV (bs.map Book.V)), ("sums", IsV (.ref a1)), ("pairs", IsV (.ref a2)), ("begins", IsV (.ref a3))]
  have hl : (bs.map Book.V).length = bs.length := List.length_map _
  have bnd : ∀ i, (sumsL (bs.take i)).length ≤ 10000 := fun i => by
    have := sumsL_len (bs := bs.take i) fun b hb => hc b (List.mem_of_mem_take hb)
    rw [List.length_take] at this
    omega
  refine xs_for Γ M (FS.pick F _ (by walk_at "sub")) H.toEnvOk (fun _ => rfl) (src_list rm.h (by exact FS.ev (FS.pick F [("books", ListV (bs.map Book.V))] (by walk_at "sub")) rfl rfl)) (.inl rfl) (fun i Pi s₆ hr' E' hPi F => ?_) (fun s₆ F => ?_)
  · rw [List.getElem?_map] at hPi
    cases hbi : bs[i]? with
    | none => rw [hbi] at hPi; cases hPi
    | some b =>
    rw [hbi] at hPi
    obtain rfl : b.V = Pi := by simpa using hPi
    have hbc := hc b (List.mem_of_getElem? hbi)
    refine xs_tuple_swapped (names := ["counts", "total"]) F H.toEnvOk rm.h (by rfl) (Lv.cons (Ev.item (P := IntsV b.counts) (by walk_at "nm") Ev.cint (by decide) (by decide) rfl) (Lv.cons Ev.cint Lv.nil)) (by walk_at "sto") fun s₇ F => ?_
    let M' : Nat → List (Addr × List VP) := fun k => [(a3, (begL bs (i + 1)).map IntV), (a2, (pairsL (bs.take i)).map PV ++ ((pairL b.counts).take k).map PV), (a1, (sumsL (bs.take i)).map IntV ++ ((accL 0 b.counts).take k).map IntV)]
    let Γ' : Nat → List (Str × VP) := fun k => [("counts", IntsV b.counts), ("total", IntV (b.counts.take k).sum), ("books", ListV (bs.map Book.V)), ("sums", IsV (.ref a1)), ("pairs", IsV (.ref a2)), ("begins", IsV (.ref a3))]
    have W₇ := W.ext ((e.trans ex).trans F.ext0)
    have F' : FS _ s (M' 0) hr' s₇ (Γ' 0) := FS.castM (FS.pick F (Γ' 0) (by walk_at "sub")) (by simp [M, M'])
    have hlr : ((rangeL 0 b.counts.length).map IntV).length = b.counts.length := by rw [List.length_map, rangeL_len]
    refine xs_for Γ' M' F' H.toEnvOk (fun _ => rfl) (src_rangeL rm.h (range1 (n := b.counts.length) (by walk_at "nm") (Ev.lenI (by walk_at "nm") (by exact FS.ev F' rfl rfl) (by omega)) (by have : sizeLine = 2 ^ 24 := rfl; omega))) (.inl rfl) (fun k Pk s₈ hr'' E'' hPk F => ?_) (fun s₈ F => ?_)
    · obtain ⟨rfl, hm⟩ := at_map hPk
      have hk : k < b.counts.length := by
        obtain ⟨h, _⟩ := List.getElem?_eq_some_iff.mp hPk
        rw [hlr] at h; exact h
      have hkk : (rangeL 0 b.counts.length).getD k 0 = (k : Int) := by simp [rangeL, List.getD_eq_getElem?_getD, hk]
      rw [hkk] at F
      have bi := bnd i
      refine xs_assign F H.toEnvOk (.inl rfl) (Sv.cast (Q := IntV (b.counts.take (k + 1)).sum) (Ev.bin op_add (by exact FS.ev F rfl rfl) (Ev.itemI (by exact FS.ev F rfl rfl) (by exact FS.ev F rfl rfl) (by omega) (by omega) (by have : sizeLine = 2 ^ 24 := rfl; omega))) (by rw [sum_snoc hk]; rfl)) fun s₉ F => ?_
      refine xs_append (M₁ := [(a3, (begL bs (i + 1)).map IntV), (a2, (pairsL (bs.take i)).map PV ++ ((pairL b.counts).take k).map PV)]) (M₂ := []) F H rfl (by exact FS.ev F rfl rfl) (by simp only [List.length_append, List.length_map, List.length_take, accL_len]; omega) fun s₁₀ F => ?_
      refine xs_append (M₁ := [(a3, (begL bs (i + 1)).map IntV)]) (M₂ := [(a1, ((sumsL (bs.take i)).map IntV ++ ((accL 0 b.counts).take k).map IntV) ++ [IntV (b.counts.take (k + 1)).sum])]) F H rfl
        (by
          have F : FS _ s [(a3, _), (a2, _), (a1, _)] hr'' s₁₀ _ := F
          show Ev _ _ _ _ [a3, a2, a1] _ _ _
          refine Ev.list (Ps := [IntV (b.counts.getD k 0), IntV ((b.counts ++ [0]).getD (k + 1) 0)]) (Nat.le_of_ble_eq_true rfl) ?_
          refine Lv.cons ?_ ?_
          · refine Sv.cast (Q := IntV (b.counts.getD k 0)) (Ev.itemI (l := b.counts) (k := (k : Int)) ?_ ?_ (by omega) (by omega) (by have : sizeLine = 2 ^ 24 := rfl; omega)) rfl
            · exact FS.ev F rfl rfl
            · exact FS.ev F rfl rfl
          · refine Lv.cons ?_ Lv.nil
            refine Sv.cast (P := IntV ((b.counts ++ [0]).getD ((k : Int) + 1).toNat 0)) (Q := IntV ((b.counts ++ [0]).getD (k + 1) 0)) ?_ rfl
            refine Ev.itemI (l := b.counts ++ [0]) (k := (k : Int) + 1) ?_ ?_ (by omega) (by simp only [List.length_append, List.length_cons, List.length_nil]; omega) (by have : sizeLine = 2 ^ 24 := rfl; simp only [List.length_append, List.length_cons, List.length_nil]; omega)
            · refine Ev.bin (op_catI (b := [0]) (by have : sizeLine = 2 ^ 24 := rfl; simp only [List.length_cons, List.length_nil]; omega)) ?_ (Ev.list (Nat.le_of_ble_eq_true rfl) (Lv.cons Ev.cint Lv.nil))
              exact FS.ev F rfl rfl
            · refine Ev.bin op_add ?_ Ev.cint
              exact FS.ev F rfl rfl)
        (by simp only [List.length_append, List.length_map, List.length_take, pairL_len, pairsL_len]; omega) fun s₁₁ F => xs_nil ⟨rfl, FS.castM (FS.pick F (Γ' (k + 1)) (by walk_at "sub")) ?_⟩
      simp only [M']
      rw [take_snoc (pairL_get hk), take_snoc (accL_get _ 0 k hk)]
      simp [PV]
    · rw [hlr] at F
      have eM : M' b.counts.length = [(a3, (begL bs (i + 1)).map IntV), (a2, (pairsL (bs.take (i + 1))).map PV), (a1, (sumsL (bs.take (i + 1))).map IntV)] := by
        simp only [M']
        rw [pairsL_succ hbi, sumsL_succ hbi, List.take_of_length_le (l := pairL b.counts) (by rw [pairL_len]; exact Nat.le_refl _), List.take_of_length_le (l := accL 0 b.counts) (by rw [accL_len]; exact Nat.le_refl _), List.map_append, List.map_append]
      have F := F.castM eM
      have W₈ := W.ext ((e.trans ex).trans F.ext0)
      have bi := bnd (i + 1)
      refine xs_append (M₁ := []) (M₂ := [(a2, (pairsL (bs.take (i + 1))).map PV), (a1, (sumsL (bs.take (i + 1))).map IntV)]) F H rfl (Sv.cast (Q := IntV ((sumsL (bs.take (i + 1))).length : Int)) (FS.lenM F rfl rfl (List.mem_cons_of_mem _ (List.mem_cons_of_mem _ List.mem_cons_self)) (by rw [List.length_map]; omega) (by walk_at "nm")) (by rw [List.length_map]))
        (by rw [List.length_map, begL_len]; have := (List.getElem?_eq_some_iff.mp hbi).1; omega) fun s₉ F => xs_nil ⟨rfl, FS.castM (FS.pick F (Γ (i + 1)) (by walk_at "sub")) ?_⟩
      simp only [M]
      rw [begL_succ bs (i + 1), List.map_append]; rfl
  · rw [hl] at F
    have F := F.freezeAll [("sums", IntsV (sumsL bs)), ("pairs", PairsV (pairsL bs)), ("begins", IntsV (begL bs (bs.length + 1)))] (by
      have et : bs.take bs.length = bs := List.take_length
      intro p hp
      refine .inr ?_
      rcases List.mem_cons.mp hp with rfl | hp
      · exact ⟨a1, _, List.mem_cons_of_mem _ (List.mem_cons_of_mem _ List.mem_cons_self), rfl, by rw [et]⟩
      rcases List.mem_cons.mp hp with rfl | hp
      · exact ⟨a2, _, List.mem_cons_of_mem _ List.mem_cons_self, rfl, by rw [et]⟩
      rcases List.mem_cons.mp hp with rfl | hp
      · exact ⟨a3, _, List.mem_cons_self, rfl, rfl⟩
      cases hp)
    refine xs_return F (Ev.list (Ps := [IntsV (sumsL bs), PairsV (pairsL bs), ListV ((begL bs bs.length).map IntV ++ [NoneV])]) (Nat.le_of_ble_eq_true rfl) (Lv.cons (by walk_at "nm") (Lv.cons (by walk_at "nm") (Lv.cons (Ev.binR
      (Sv.cast (Q := IntsV (begL bs bs.length)) (Ev.sliceI (by walk_at "nm") (by have : sizeLine = 2 ^ 24 := rfl; rw [begL_len]; omega) EvPart.none (EvPart.some (Ev.neg Ev.cint))) (by rw [show (-1 : Int) = -1 from rfl, pick_init, begL_len, begL_succ]; congr 2; rw [List.take_append_of_le_length (by rw [begL_len]; omega), List.take_of_length_le (by rw [begL_len]; omega)]))
      (Ev.list (Ps := [NoneV]) (Nat.le_of_ble_eq_true rfl) (Lv.cons Ev.cnone Lv.nil)) (op_cat (by have : sizeLine = 2 ^ 24 := rfl; simp only [List.length_map, begL_len, List.length_cons, List.length_nil]; omega))) Lv.nil)))) fun v s₇ p F => ⟨p, F.keeps0⟩
end
end Mine
end

section
open PySem PySem.Calls PyProof.Rows
set_option maxRecDepth 100000
set_option linter.unusedVariables false
namespace Mine

theorem compTurn_outer (elt t1 i1 t2 i2 : Expr) (scope : Scope) (pos : Pos) (it acc : Value) (env : Env) :
    compTurn (.ListComp elt [⟨t1, i1, [], 0⟩, ⟨t2, i2, [], 0⟩] scope pos) 0 it acc env = (standAt i1.pos >>= fun _ => pyNext it >>= fun r => match r with
      | none => pure (.done .next)
      | some v => letOwnedTupleGo t1 it v >>= fun _ => assign t1 env v >>= fun _ =>
        eval i2 env >>= fun x => standAt i2.pos >>= fun _ => foldedSetIterable i2 env x >>= fun x => holding [x] (pyIter x) >>= fun it2 =>
          runOwn (.compStart (.ListComp elt [⟨t1, i1, [], 0⟩, ⟨t2, i2, [], 0⟩] scope pos) 1 it2 acc env) env >>= fun _ =>
          again (.compLoop (.ListComp elt [⟨t1, i1, [], 0⟩, ⟨t2, i2, [], 0⟩] scope pos) 0 it acc env)) := by rfl
theorem compTurn_inner (elt t1 i1 t2 i2 : Expr) (scope : Scope) (pos : Pos) (it acc : Value) (env : Env) :
    compTurn (.ListComp elt [⟨t1, i1, [], 0⟩, ⟨t2, i2, [], 0⟩] scope pos) 1 it acc env = (standAt i2.pos >>= fun _ => pyNext it >>= fun r => match r with
      | none => pure (.done .next)
      | some v => letOwnedTupleGo t2 it v >>= fun _ => assign t2 env v >>= fun _ =>
        (eval elt env >>= fun x => call (.builtin "list.append") [acc, x] >>= fun _ => pure ()) >>= fun _ =>
          again (.compLoop (.ListComp elt [⟨t1, i1, [], 0⟩, ⟨t2, i2, [], 0⟩] scope pos) 1 it acc env)) := by rfl

section
variable {prog : Program} {w : World} {A : Around} {hs : List Addr} {h : Heap} {env : Env}

theorem mark_none (A : Around) : A.mark none = A := rfl

theorem compStart_inner {elt t1 i1 t2 i2 : Expr} {scope : Scope} {pos : Pos} {it acc : Value} {R : Result → Shared → Prop} {s : Shared}
    (h0 : codeAny (model prog w) A (.compLoop (.ListComp elt [⟨t1, i1, [], 0⟩, ⟨t2, i2, [], 0⟩] scope pos) 1 it acc env) R s)
    (h : wpAny (model prog w) A (pyIter it) (fun it' s' => codeAny (model prog w) A (.compLoop (.ListComp elt [⟨t1, i1, [], 0⟩, ⟨t2, i2, [], 0⟩] scope pos) 1 it' acc env) R s')
      (notedBy (model prog w) A env fun x s' => R (.error x) s') s) :
    codeAny (model prog w) A (.compStart (.ListComp elt [⟨t1, i1, [], 0⟩, ⟨t2, i2, [], 0⟩] scope pos) 1 it acc env) R s := by
  refine codeAny_of_tree ?_
  show wpAny _ _ ((compStart (.ListComp elt [⟨t1, i1, [], 0⟩, ⟨t2, i2, [], 0⟩] scope pos) 1 it acc env).onRaise (fun x => do noteFrame x env; standAt theWindowsPlace)) _ _ s
  refine wpAny_notedAt ?_
  unfold compStart
  show wpAny _ _ (ask >>= _) _ _ s
  refine wpAny_bind (wpAny_askSetting (wpAny_ite ?_))
  split
  · exact wpAny_bind (wpAny_pure (wpAny_pure (And.intro rfl h0)))
  · exact wpAny_bind (wpAny_rule (wpAny_bind (wpAny_standAt (wpAny_bind (wpAny_mono h (fun it' s' h' => wpAny_pure (And.intro rfl h')) fun _ _ x => x)))))

def flatR (R : Nat → VP) (n i : Nat) : List VP := (List.range i).flatMap fun j => List.replicate n (R j)
theorem flatR_succ (R : Nat → VP) (n i : Nat) : flatR R n (i + 1) = flatR R n i ++ List.replicate n (R i) := by simp [flatR, List.range_succ]
theorem flatR_len (R : Nat → VP) (n i : Nat) : (flatR R n i).length = i * n := by
  induction i with
  | zero => simp [flatR]
  | succ i ih => rw [flatR_succ, List.length_append, List.length_replicate, ih, Nat.succ_mul]

theorem comp_block2 {elt i1 i2 : Expr} {x x2 : Str} {px px2 : Pos} {scope : Scope} {cl : List (Str × Addr)} {pos : Pos} {Ps : List VP} {a : Int} {n : Nat} {s₂ : Shared} {I : Addr} {fp : List Addr} {P : Nat → Value → Prop} {St : Nat → Heap → Prop}
    {E : Value → Shared → Prop} {RR : Value → Addr → Result → Shared → Prop} (R : Nat → VP) (hR : ∀ i, Scal (R i)) (hsz : (Ps.length + 1) * n ≤ sizeLine) (hh : A.handled = none)
    (hcell : ∀ y ∈ scope.names, y.2 ≠ .cell) (hkind : scope.kind = .function) (hx : scope.names.lookup x = some .local) (hx2 : scope.names.lookup x2 = some .local) (hne : x ≠ x2)
    (W : Walks prog w A I fp [I] Ps.length P St) (hst : St 0 s₂.heap) (hfp : ∀ b ∈ fp, b ∉ hs ∧ ∃ o, s₂.heap.get? b = some o ∧ Still o)
    (hI : ∃ o, s₂.heap.get? I = some o) (hIL' : ∀ i h' it, St i h' → ¬ h'.IsList I it) (hIe : ∀ i h', St i h' → ∃ o, h'.get? I = some o)
    (hP : ∀ i v Pi h', P i v → Ps[i]? = some Pi → (∀ a it, LV hs s₂.heap a it → LV hs h' a it) → Pi.p (LV hs h') v) (he : Ext h s₂.heap) (hI0 : h.get? I = none) (od : Old hs h)
    (rng : ∀ (i : Nat) Pi C (h₂ : Heap), Ps[i]? = some Pi → Ext h h₂ → (∀ pos, Ev prog w A (compEnvC scope cl C env) hs h₂ (.Name x pos) Pi) → EvRange prog w A (compEnvC scope cl C env) hs h₂ i2 a n)
    (body : ∀ (i : Nat) Pi C (h₂ : Heap), Ps[i]? = some Pi → Ext h h₂ → (∀ pos, Ev prog w A (compEnvC scope cl C env) hs h₂ (.Name x pos) Pi) → Ev prog w A (compEnvC scope cl C env) hs h₂ elt (R i))
    (hs2 : ∀ C v, foldedSetIterable i2 (compEnvC scope cl C env) v = pure v) (hd : (x == ("__debug__" : Str)) = false)
    (hRR : ∀ D C h' tk m', (∀ b o, b ≠ I → s₂.heap.get? b = some o → h'.get? b = some o) → s₂.heap.get? D = none → s₂.heap.get? C = none → D ≠ C → h'.Ns C m' →
      (∃ items, h'.PlainList D items ∧ Paired (fun (P : VP) v => P.p (fun _ _ => False) v) (flatR R n Ps.length) items.toList) → RR (.ref D) C (.ok .next) { s₂ with heap := h', toks := tk }) :
    wpAny (model prog w) A (newList []) (fun acc s₃ => wpAny (model prog w) A (newFunctionEnv scope env.globals cl [] env.qual none .none (some env)) (fun cenv s₄ =>
      codeAny (model prog w) A (.compStart (.ListComp elt [⟨.Name x px, i1, [], 0⟩, ⟨.Name x2 px2, i2, [], 0⟩] scope pos) 0 (.ref I) acc { cenv with scope := relabel scope env }) (RR acc cenv.locals) s₄) E s₃) E s₂ := by
  have hIL : ∀ a it, LV hs s₂.heap a it → a ≠ I := fun a it l z => hIL' 0 _ it hst (z ▸ l.2)
  refine wpAny_newObj_type (wpAny_newFunctionEnv hcell (by intro y hy; simp at hy) (fun h₁ hns₁ hsb₁ => ?_) hkind)
  dsimp only at hns₁ hsb₁ ⊢
  generalize hH2 : s₂.heap.push { cls := .type "list", dict := none, data := .seq ([] : List Value).toArray } = H2 at hns₁ hsb₁ ⊢
  have hC : H2.objs.size = s₂.heap.objs.size + 1 := by rw [← hH2, Heap.size_push]
  have hDC : s₂.heap.objs.size ≠ H2.objs.size := by rw [hC]; exact Nat.ne_of_lt (Nat.lt_succ_self _)
  have below : ∀ b, b < s₂.heap.objs.size → b ≠ H2.objs.size ∧ b ≠ s₂.heap.objs.size := fun b hb => ⟨by rw [hC]; exact Nat.ne_of_lt (Nat.lt_succ_of_lt hb), Nat.ne_of_lt hb⟩
  have fplt : ∀ b ∈ fp, b < s₂.heap.objs.size := fun b hb => let ⟨_, o, e, _⟩ := hfp b hb; Heap.lt_size e
  have hDf : s₂.heap.objs.size ∉ fp := fun hm => Nat.lt_irrefl _ (fplt _ hm)
  have hCf : H2.objs.size ∉ fp := fun hm => by have := fplt _ hm; rw [hC] at this; exact Nat.lt_irrefl _ (Nat.lt_of_succ_lt this)
  obtain ⟨oI, eI⟩ := hI
  have hIlt : I < s₂.heap.objs.size := Heap.lt_size eI
  have old : ∀ b o, s₂.heap.get? b = some o → h₁.get? b = some o := fun b o e => hsb₁.extBut b o (below b (Heap.lt_size e)).1 (Heap.get?_push_of_some _ (hH2 ▸ Heap.get?_push_of_some _ e))
  have hacc : h₁.PlainList s₂.heap.objs.size #[] := ⟨_, hsb₁.extBut _ _ hDC (Heap.get?_push_of_some _ (hH2 ▸ Heap.get?_push_size _ rfl))⟩
  have hst₁ : St 0 h₁ := W.frame _ _ _ hst fun b _ o e => old b o e
  have fresh : ∀ a, s₂.heap.objs.size ≤ a → s₂.heap.get? a = none := fun a ha => by
    cases e : s₂.heap.get? a with
    | none => rfl
    | some o' => exact absurd (Heap.lt_size e) (Nat.not_lt.mpr ha)
  have hCI : I ≠ H2.objs.size := (below I hIlt).1
  have hDI : I ≠ s₂.heap.objs.size := (below I hIlt).2
  generalize hDD : s₂.heap.objs.size = D at *
  generalize hCC : H2.objs.size = C at *
  have loop : ∀ s₃ : Shared, s₃ = { s₂ with heap := h₁, toks := s₂.toks + ([] : List (Str × Value)).length } →
      codeAny (model prog w) A (.compLoop (.ListComp elt [⟨.Name x px, i1, [], 0⟩, ⟨.Name x2 px2, i2, [], 0⟩] scope pos) 0 (.ref I) (.ref D) (compEnvC scope cl C env))
        (RR (.ref D) C) s₃ := by
    rintro s₃ rfl
    refine codeAny_loop rfl
      (fun k s' => ∃ h' tk i ys m', s' = { s₂ with heap := h', toks := tk } ∧ i ≤ Ps.length ∧ k = Ps.length + 1 - i ∧ St i h' ∧ h'.Ns C m' ∧ h'.PlainList D ys ∧
        (∀ b o, b ≠ I → s₂.heap.get? b = some o → h'.get? b = some o) ∧ Paired (fun (P : VP) v => P.p (fun _ _ => False) v) (flatR R n i) ys.toList) ?_ (Ps.length + 1)
      ⟨h₁, _, 0, #[], _, rfl, Nat.zero_le _, rfl, hst₁, hns₁, hacc, fun b o _ e => old b o e, .nil⟩
    rintro k s' ⟨h', tk, i, ys, m', rfl, hi, rfl, hst', hn', hD', hk', hp'⟩
    show wpAny _ A ((compTurn (.ListComp elt [⟨.Name x px, i1, [], 0⟩, ⟨.Name x2 px2, i2, [], 0⟩] scope pos) 0 (.ref I) (.ref D) (compEnvC scope cl C env)).onRaise (fun x => do noteFrame x (compEnvC scope cl C env); theTreesLotGoes x)) _ _ _
    refine wpAny_noted ?_
    rw [compTurn_outer]
    refine wpAny_bind (wpAny_standAt (wpAny_bind ?_))
    by_cases hlt : i < Ps.length
    · refine W.item i _ _ _ hlt hst' fun v h₂ tk₂ hPv hst₂ hk₂ => ?_
      have hk₂' : ∀ b o, b ≠ I → h'.get? b = some o → h₂.get? b = some o := fun b o hb e => hk₂ b o (by simpa using hb) e
      have hPi : Ps[i]? = some Ps[i] := List.getElem?_eq_getElem hlt
      refine wpAny_bind (wpAny_of_eq rfl (wpAny_bind (wpAny_assign_Name (wpAny_storeName_local (lookup_relabel_local hx) (hn'.at' fun o e => hk₂' _ o (Ne.symm hCI) e) (fun h₃ hn₃ hs₃ => ?_) (by simp [compEnvC, relabel, hkind])))))
      have hst₃ : St (i + 1) h₃ := W.frame _ _ _ hst₂ fun b hb o e => hs₃.extBut b o (fun q => hCf (by have q' : b = C := q; rw [← q']; exact hb)) e
      have k₃ : ∀ b o, b ≠ I → s₂.heap.get? b = some o → h₃.get? b = some o := fun b o hb e => hs₃.extBut b o (below b (hDD ▸ Heap.lt_size e)).1 (hk₂' b o hb (hk' b o hb e))
      have e₃ : Ext h h₃ := fun b o e => k₃ b o (fun q => by rw [q, hI0] at e; cases e) (he b o e)
      have hD₃ : h₃.PlainList D ys := hD'.at fun o e => hs₃.extBut _ o hDC (hk₂' _ o (Ne.symm hDI) e)
      -- the outer name keeps its value
      have own : ∀ (h₄ : Heap) m₄, h₄.Ns C m₄ → m₄ x = some v → (∀ b o, b ≠ I → s₂.heap.get? b = some o → h₄.get? b = some o) → ∀ pos, Ev prog w A (compEnvC scope cl C env) hs h₄ (.Name x pos) Ps[i] := fun h₄ m₄ hn₄ hm₄ k₄ pos => Ev.name (fun s E e od => by
        refine wpAny_loadName_local (by simp [compEnvC, relabel, hkind]) (lookup_relabel_local hx) (hn₄.keeps e) (v := v) hm₄ ⟨?_, kpRefl s⟩
        exact hP i v _ _ hPv hPi fun a it l => LV.ext e _ _ ⟨l.1, let ⟨o, y, r⟩ := l.2; ⟨o, k₄ a o (hIL a it l) y, r⟩⟩) hd
      have hk3 : h₃.Ns C _ := hn₃
      have own₃ := own h₃ _ hn₃ (by simp) k₃
      have od₃ : Old hs h₃ := od.ext e₃
      refine wpAny_bind (wpAny_mono (rng i _ C h₃ hPi e₃ own₃ { s₂ with heap := h₃, toks := _ } _ (Ext.refl _) od₃) (fun xv s₅ ⟨⟨r, b, t, u, z, e1, hr, hsm, hnn⟩, k₅⟩ => wpAny_bind (wpAny_standAt (wpAny_bind (wpAny_of_eq (hs2 C xv) (wpAny_bind (wpAny_holding ?_)))))) fun _ _ z => z)
      subst e1
      refine wpAny_pyIter_range hr hsm ?_
      refine wpAny_bind (wpAny_runOwn ?_)
      show codeAny _ A _ _ _
      have e₅ := kpExt k₅
      obtain ⟨h₅, tk₅, rfl, _⟩ := k₅
      have st₀ : IsRangeIter (h₅.push { cls := .type "range_iterator", data := .fields #[rawInt a, rawInt (Builtin.Range.rangeSize a b 1), rawInt 1] }) h₅.objs.size (a + (0 : Nat) * 1) ((n : Int) - (0 : Nat)) 1 := by
        show IsRangeIter _ _ _ _ _
        rw [← hnn]; simpa using Heap.get?_push_size _ rfl
      dsimp only at st₀ ⊢
      generalize hI2 : h₅.objs.size = I2 at st₀ ⊢
      generalize hH5 : h₅.push { cls := .type "range_iterator", data := .fields #[rawInt a, rawInt (Builtin.Range.rangeSize a b 1), rawInt 1] } = H5 at st₀ ⊢
      have up : Ext h₃ H5 := fun b o e => hH5 ▸ Ext.push _ _ _ _ (e₅ _ _ e)
      have ne2 : ∀ b o, h₃.get? b = some o → b ≠ I2 := fun b o e z => by
        have := Heap.lt_size (e₅ _ _ e)
        rw [z, ← hI2] at this; exact Nat.lt_irrefl _ this
      have hC2 : C ≠ I2 := by obtain ⟨o, _, _, e, _⟩ := hn₃; exact ne2 _ _ e
      have hD2 : D ≠ I2 := by obtain ⟨_, e⟩ := hD₃; exact ne2 _ _ e
      have hI2' : I ≠ I2 := by obtain ⟨o, e⟩ := hIe _ _ hst₃; exact ne2 _ _ e
      have fp2 : ∀ b ∈ fp, b ≠ I2 ∧ b ≠ C ∧ b ≠ D := fun b hb => by
        refine ⟨?_, fun z => hCf (z ▸ hb), fun z => hDf (z ▸ hb)⟩
        by_cases hbI : b = I
        · rw [hbI]; exact hI2'
        · obtain ⟨_, o, e, _⟩ := hfp b hb
          exact ne2 _ _ (k₃ b o hbI e)
      have W2 := LCg.range_walks (prog := prog) (w := w) (A := A) (I := I2) hh a n
      have loop2 : ∀ (R2 : Result → Shared → Prop) tk, (∀ h₇ tk₇ ys m', St (i + 1) h₇ → h₇.Ns C m' → h₇.PlainList D ys → (∀ b o, b ≠ I → s₂.heap.get? b = some o → h₇.get? b = some o) →
          Paired (fun (P : VP) v => P.p (fun _ _ => False) v) (flatR R n (i + 1)) ys.toList → R2 (.ok .next) { s₂ with heap := h₇, toks := tk₇ }) →
          codeAny (model prog w) A (.compLoop (.ListComp elt [⟨.Name x px, i1, [], 0⟩, ⟨.Name x2 px2, i2, [], 0⟩] scope pos) 1 (.ref I2) (.ref D) (compEnvC scope cl C env)) R2 { s₂ with heap := H5, toks := tk } := fun R2 tk hR2 => by
        refine codeAny_loop rfl
          (fun k s' => ∃ h' tk j ys m', s' = { s₂ with heap := h', toks := tk } ∧ j ≤ n ∧ k = n + 1 - j ∧ IsRangeIter h' I2 (a + (j : Nat) * 1) ((n : Int) - (j : Nat)) 1 ∧ St (i + 1) h' ∧ h'.Ns C m' ∧ m' x = some v ∧ h'.PlainList D ys ∧
            (∀ b o, b ≠ I → s₂.heap.get? b = some o → h'.get? b = some o) ∧ Paired (fun (P : VP) v => P.p (fun _ _ => False) v) (flatR R n i ++ List.replicate j (R i)) ys.toList) ?_ (n + 1)
          ⟨H5, tk, 0, ys, _, rfl, Nat.zero_le _, rfl, st₀, W.frame _ _ _ hst₃ fun b _ o e => up b o e, hn₃.keeps up, by simp, hD₃.at fun o e => up _ o e, fun b o hb e => up _ _ (k₃ b o hb e), by simpa using hp'⟩
        rintro k' s' ⟨h₆, tk₆, j, ys₆, m₆, rfl, hj, rfl, st₆, hst₆, hn₆, hm₆, hD₆, k₆, hp₆⟩
        show wpAny _ A ((compTurn (.ListComp elt [⟨.Name x px, i1, [], 0⟩, ⟨.Name x2 px2, i2, [], 0⟩] scope pos) 1 (.ref I2) (.ref D) (compEnvC scope cl C env)).onRaise (fun x => do noteFrame x (compEnvC scope cl C env); theTreesLotGoes x)) _ _ _
        refine wpAny_noted ?_
        rw [compTurn_inner]
        refine wpAny_bind (wpAny_standAt (wpAny_bind ?_))
        by_cases hjn : j < n
        · refine W2.item j _ _ _ hjn st₆ fun v₂ h₇ tk₇ _ st₇ hk₇ => ?_
          have k₇ : ∀ b o, b ≠ I2 → h₆.get? b = some o → h₇.get? b = some o := fun b o hb e => hk₇ b o (by simpa using hb) e
          refine wpAny_bind (wpAny_of_eq rfl (wpAny_bind (wpAny_assign_Name (wpAny_storeName_local (lookup_relabel_local hx2) (hn₆.at' fun o e => k₇ _ o hC2 e) (fun h₈ hn₈ hs₈ => ?_) (by simp [compEnvC, relabel, hkind])))))
          have st₈ : IsRangeIter h₈ I2 (a + ((j + 1 : Nat) : Int) * 1) ((n : Int) - ((j + 1 : Nat) : Int)) 1 := W2.frame _ _ _ st₇ fun b hb o e => hs₈.extBut b o (by rw [List.mem_singleton.mp hb]; exact Ne.symm hC2) e
          have hst₈ : St (i + 1) h₈ := W.frame _ _ _ hst₆ fun b hb o e => hs₈.extBut b o (fp2 b hb).2.1 (k₇ b o (fp2 b hb).1 e)
          have k₈ : ∀ b o, b ≠ I → s₂.heap.get? b = some o → h₈.get? b = some o := fun b o hb e => hs₈.extBut b o (below b (hDD ▸ Heap.lt_size e)).1 (k₇ b o (ne2 _ _ (k₃ b o hb e)) (k₆ b o hb e))
          have e₈ : Ext h h₈ := fun b o e => k₈ b o (fun q => by rw [q, hI0] at e; cases e) (he b o e)
          have hD₈ : h₈.PlainList D ys₆ := hD₆.at fun o e => hs₈.extBut _ o hDC (k₇ _ o hD2 e)
          have hm₈ : (fun z => if z = x2 then some v₂ else m₆ z) x = some v := by simp only [if_neg hne]; exact hm₆
          refine wpAny_bind (wpAny_bind (Sv.go (s := { s₂ with heap := h₈, toks := _ }) (body i _ C h₈ hPi e₈ (own h₈ _ hn₈ hm₈ k₈)) (od.ext e₈) fun y s₉ q k₉ => wpAny_bind ?_))
          have e₉ := kpExt k₉
          obtain ⟨h₉, tk₉, rfl, _⟩ := k₉
          have hl := hp₆.length
          rw [List.length_append, flatR_len, List.length_replicate, Array.length_toList] at hl
          have hmul : i * n + n ≤ (Ps.length + 1) * n := by rw [← Nat.succ_mul]; exact Nat.mul_le_mul_right _ (by omega)
          refine wpAny_list_append_plain (hD₈.at fun o e => e₉ _ o e) (hsz := by omega) fun h₁₀ hD₁₀ hs₁₀ => wpAny_pure (wpAny_pure ⟨rfl, n + 1 - (j + 1), by omega, h₁₀, tk₉, j + 1, ys₆.push y, _, rfl, hjn, rfl, ?_, ?_, ((hn₈.keeps e₉).sameBut hs₁₀ (Ne.symm hDC)), hm₈, hD₁₀, ?_, ?_⟩)
          · exact W2.frame _ _ _ st₈ fun b hb o e => hs₁₀.extBut b o (by rw [List.mem_singleton.mp hb]; exact Ne.symm hD2) (e₉ _ _ e)
          · exact W.frame _ _ _ hst₈ fun b hb o e => hs₁₀.extBut b o (fp2 b hb).2.2 (e₉ _ _ e)
          · exact fun b o hb e => hs₁₀.extBut b o (below b (hDD ▸ Heap.lt_size e)).2 (e₉ _ _ (k₈ b o hb e))
          · rw [Array.toList_push, List.replicate_succ', ← List.append_assoc]
            exact Paired.app hp₆ (.cons (hR i _ _ _ q) .nil)
        · obtain rfl : j = n := Nat.le_antisymm hj (Nat.not_lt.mp hjn)
          refine W2.done _ _ _ st₆ fun h₇ tk₇ hk₇ => wpAny_pure ?_
          have k₇ : ∀ b o, b ≠ I2 → h₆.get? b = some o → h₇.get? b = some o := fun b o hb e => hk₇ b o (by simpa using hb) e
          refine hR2 h₇ tk₇ ys₆ m₆ ?_ (hn₆.at' fun o e => k₇ _ o hC2 e) (hD₆.at fun o e => k₇ _ o hD2 e) ?_ ?_
          · exact W.frame _ _ _ hst₆ fun b hb o e => k₇ b o (fp2 b hb).1 e
          · exact fun b o hb e => k₇ b o (ne2 _ _ (k₃ b o hb e)) (k₆ b o hb e)
          · rw [flatR_succ]; exact hp₆
      have fin : ∀ (Q2 : Fin → Shared → Prop) (E2 : Value → Shared → Prop) h₇ tk₇ ys m', (∀ k h' tk i' ys m', k < Ps.length + 1 - i → i' ≤ Ps.length → k = Ps.length + 1 - i' → St i' h' → h'.Ns C m' → h'.PlainList D ys → (∀ b o, b ≠ I → s₂.heap.get? b = some o → h'.get? b = some o) →
          Paired (fun (P : VP) v => P.p (fun _ _ => False) v) (flatR R n i') ys.toList → Q2 (.again (.compLoop (.ListComp elt [⟨.Name x px, i1, [], 0⟩, ⟨.Name x2 px2, i2, [], 0⟩] scope pos) 0 (.ref I) (.ref D) (compEnvC scope cl C env))) { s₂ with heap := h', toks := tk }) → St (i + 1) h₇ → h₇.Ns C m' → h₇.PlainList D ys → (∀ b o, b ≠ I → s₂.heap.get? b = some o → h₇.get? b = some o) →
          Paired (fun (P : VP) v => P.p (fun _ _ => False) v) (flatR R n (i + 1)) ys.toList →
          wpAny (model prog w) A (again (.compLoop (.ListComp elt [⟨.Name x px, i1, [], 0⟩, ⟨.Name x2 px2, i2, [], 0⟩] scope pos) 0 (.ref I) (.ref D) (compEnvC scope cl C env))) Q2 E2 { s₂ with heap := h₇, toks := tk₇ } :=
        fun Q2 E2 h₇ tk₇ ys m' hq a1 a2 a3 a4 a5 => wpAny_pure (hq _ h₇ tk₇ (i + 1) ys m' (by omega) hlt rfl a1 a2 a3 a4 a5)
      refine compStart_inner (loop2 _ _ fun h₇ tk₇ ys m' a1 a2 a3 a4 a5 => fin _ _ h₇ tk₇ ys m' (fun k h' tk i' ys m' b0 b1 b2 b3 b4 b5 b6 b7 => ⟨rfl, k, b0, h', tk, i', ys, m', rfl, b1, b2, b3, b4, b5, b6, b7⟩) a1 a2 a3 a4 a5) (W2.self 0 _ _ _ st₀ (loop2 _ _ fun h₇ tk₇ ys m' a1 a2 a3 a4 a5 => fin _ _ h₇ tk₇ ys m' (fun k h' tk i' ys m' b0 b1 b2 b3 b4 b5 b6 b7 => ⟨rfl, k, b0, h', tk, i', ys, m', rfl, b1, b2, b3, b4, b5, b6, b7⟩) a1 a2 a3 a4 a5))
    · obtain rfl : i = Ps.length := Nat.le_antisymm hi (Nat.not_lt.mp hlt)
      refine W.done _ _ _ hst' fun h₂ tk₂ hk₂ => wpAny_pure ?_
      have hk₂' : ∀ b o, b ≠ I → h'.get? b = some o → h₂.get? b = some o := fun b o hb e => hk₂ b o (by simpa using hb) e
      exact hRR _ _ h₂ tk₂ _ (fun b o hb e => hk₂' b o hb (hk' b o hb e)) (fresh _ (Nat.le_refl _)) (fresh _ (by rw [hC]; exact Nat.le_succ _)) hDC (hn'.at' fun o e => hk₂' _ o (Ne.symm hCI) e) ⟨ys, hD'.at fun o e => hk₂' _ o (Ne.symm hDI) e, hp'⟩
  exact codeAny_compStart_list (loop _ rfl) (W.self 0 _ _ _ hst₁ (loop _ rfl))

theorem flatR_ints (l : List Int) (f : Int → Int) (n : Nat) : flatR (fun i => IntV (f (l.getD i 0))) n l.length = (l.flatMap fun a => List.replicate n (f a)).map IntV := by
  have e : (l.flatMap fun a => List.replicate n (f a)).map IntV = l.flatMap fun a => List.replicate n (IntV (f a)) := by
    rw [List.map_flatMap]; simp
  rw [e]
  conv => rhs; rw [← range_getD l]
  rw [List.flatMap_map]; rfl

theorem Ev.comp2 {elt i1 i2 : Expr} {x x2 : Str} {px px2 : Pos} {scope : Scope} {pos : Pos} {l : List Int} {a : Int} {n : Nat} (f : Int → Int) (hh : A.handled = none) (src : Ev prog w A env hs h i1 (IntsV l)) (hsz : l.length ≤ 1000) (hn : n ≤ 100)
    (rng : ∀ m C h₂, m ∈ l → Ext h h₂ → (∀ pos, Ev prog w A (compEnvC scope (closOf scope env.cells) C env) hs h₂ (.Name x pos) (IntV m)) → EvRange prog w A (compEnvC scope (closOf scope env.cells) C env) hs h₂ i2 a n)
    (body : ∀ m C h₂, m ∈ l → Ext h h₂ → (∀ pos, Ev prog w A (compEnvC scope (closOf scope env.cells) C env) hs h₂ (.Name x pos) (IntV m)) → Ev prog w A (compEnvC scope (closOf scope env.cells) C env) hs h₂ elt (IntV (f m)))
    (hne : x ≠ x2 := by decide)
    (hclos : closureFor scope env = pure (closOf scope env.cells) := by rfl) (hcell : ∀ y ∈ scope.names, y.2 ≠ .cell := by decide +kernel) (hkind : scope.kind = .function := by rfl) (hnames : ∀ y ∈ scope.names, y.2 = .local → scope.names.lookup y.1 = some .local := by decide +kernel) (hx : scope.names.lookup x = some .local := by rfl) (hx2 : scope.names.lookup x2 = some .local := by rfl)
    (hs' : ∀ x, foldedSetIterable i1 env x = pure x := by intro _; rfl) (hs2 : ∀ C v, foldedSetIterable i2 (compEnvC scope (closOf scope env.cells) C env) v = pure v := by intro _ _; rfl) (hd : (x == ("__debug__" : Str)) = false := by decide) :
    Ev prog w A env hs h (.ListComp elt [⟨.Name x px, i1, [], 0⟩, ⟨.Name x2 px2, i2, [], 0⟩] scope pos) (IntsV (l.flatMap fun a => List.replicate n (f a))) := fun s E e od => by
  rw [eval_ListComp]
  refine wpAny_comprehension_free (use := Option.none) rfl hs' hclos hkind hnames (Sv.go (src.at e) od fun v s₁ p k₁ => ?_)
  obtain ⟨b, items, rfl, L, q⟩ := p
  have hlt : b < s₁.heap.objs.size := by obtain ⟨_, e, _⟩ := L.2; exact Heap.lt_size e
  have hnn : (l.map IntV).length = items.size := by rw [q.length, Array.length_toList]
  refine wpAny_pyIter_list L.2 ?_
  have hI0 : s.heap.get? s₁.heap.objs.size = none := by
    cases e : s.heap.get? s₁.heap.objs.size with
    | none => rfl
    | some o => exact absurd (Heap.lt_size (kpExt k₁ _ _ e)) (Nat.lt_irrefl _)
  refine comp_block2 (n := n) (a := a) (h := s.heap) (Ps := l.map IntV) (RR := fun acc C => compPost (model prog w) A E Option.none _ acc C) (fun i => IntV (f (l.getD i 0))) (fun i => scal_int _) (by rw [List.length_map]; exact Nat.le_trans (Nat.mul_le_mul (Nat.succ_le_succ hsz) hn) (by decide)) hh hcell hkind hx hx2 hne
    (fp := [s₁.heap.objs.size, b]) (P := fun i v => items[i]? = some v) (St := fun i h => h.IsListIter s₁.heap.objs.size b i ∧ h.IsList b items) (hnn ▸ Walks.list hh _ b (Nat.ne_of_lt hlt) items)
    ⟨⟨_, Heap.get?_push_size _ rfl, rfl, rfl⟩, (LV.ext (Ext.push _ _) _ _ L).2⟩ ?_ ⟨_, Heap.get?_push_size _ rfl⟩ ?_ (fun i h' st => let ⟨o, e, _⟩ := st.1; ⟨o, e⟩) ?_ ((kpExt k₁).trans (Ext.push _ _)) hI0 od
    (fun i Pi C h₂ a b c => by obtain ⟨rfl, m⟩ := at_map a; exact rng _ C h₂ m (e.trans b) c) (fun i Pi C h₂ a b c => by obtain ⟨rfl, m⟩ := at_map a; exact body _ C h₂ m (e.trans b) c) hs2 hd ?_
  · intro c hb
    rcases List.mem_cons.mp hb with rfl | hb
    · exact ⟨(od.kp k₁).new, _, Heap.get?_push_size _ rfl, (fun _ _ z => by cases z), fun _ z => by cases z⟩
    · rw [List.mem_singleton.mp hb]
      obtain ⟨o, eo, c, n, d⟩ := L.2
      exact ⟨L.1, o, Ext.push _ _ _ _ eo, (fun _ _ z => by rw [d] at z; cases z), fun _ z => by rw [d] at z; cases z⟩
  · rintro i h' it ⟨⟨o, e1, c1, _⟩, _⟩ ⟨o', e2, c2, _⟩
    rw [e1] at e2; cases e2
    rw [c1] at c2; simp at c2
  · intro i v Pi h' hv hP hl
    obtain ⟨u, e1, e2⟩ := Paired.get q i hP
    rw [Array.getElem?_toList, hv] at e1
    cases e1
    exact Pi.mono hl (Pi.ext (Ext.push _ _) e2)
  · intro D C h' tk m' hk hD hC hDC hn ⟨its, hpl, hp⟩
    refine ⟨m', hn, fun h'' hs'' => ?_⟩
    have k2 : Ext s.heap (s₁.heap.push { cls := .type "list_iterator", data := .fields #[.ref b, .int 0 0] }) := (kpExt k₁).trans (Ext.push _ _)
    have kk : Ext s.heap h'' := fun b o q => hs''.extBut b o (fun z => by have := k2 _ _ q; rw [z] at this; rw [this] at hC; cases hC) (hk b o (fun z => by rw [z, hI0] at q; cases q) (k2 _ _ q))
    obtain ⟨h₂, t₂, r, _⟩ := id k₁
    rw [List.length_map, flatR_ints] at hp
    refine ⟨⟨D, its, rfl, ⟨fun z => ?_, (hpl.at fun o e => hs''.extBut D o hDC e).isList⟩, Paired.imp' (fun P hP v q => ?_) hp⟩, ⟨h'', tk, by rw [r], kk⟩⟩
    · obtain ⟨o, q⟩ := od D z
      have := k2 _ _ q
      rw [this] at hD; cases hD
    · obtain ⟨i, _, rfl⟩ := List.mem_map.mp hP
      exact q
end
end Mine
end

section
open PySem PySem.Calls PyProof.Rows
set_option maxRecDepth 100000
set_option linter.unusedVariables false
namespace Mine

local macro_rules | `(tactic| walk_at "nm") => `(tactic| first
  | exact FS.ev (by with_reducible assumption) rfl rfl
  | exact Wd.built (by with_reducible assumption) (by decide) (by first | exact boot_len | exact boot_sorted | exact boot_range | exact boot_max | exact boot_min | exact boot_sum | exact boot_list | exact boot_isinstance | exact boot_float | exact boot_tuple) rfl rfl rfl rfl)
local macro_rules | `(tactic| walk_at "sub") => `(tactic| repeat (first | exact List.forall_mem_nil _ | refine List.forall_mem_cons.mpr ⟨rfl, ?_⟩))
local macro_rules | `(tactic| walk_at "sto") => `(tactic| repeat (first | exact List.forall_mem_nil _ | refine List.forall_mem_cons.mpr ⟨by first | exact Or.inl rfl | exact Or.inr ⟨rfl, rfl⟩, ?_⟩))

def sizeOf (number : Int) : Nat := (number.fmod 4).toNat + 1
def redOf (number : Int) : Nat := ((number.fdiv 4).fmod ((sizeOf number : Int) + 1)).toNat
theorem sizeOf_eq (number : Int) : number.fmod 4 + 1 = (sizeOf number : Int) := by
  have := Int.fmod_nonneg_of_pos number (b := 4) (by decide)
  unfold sizeOf; omega
theorem sizeOf_le (number : Int) : 1 ≤ sizeOf number ∧ sizeOf number ≤ 4 := by
  have := Int.fmod_nonneg_of_pos number (b := 4) (by decide)
  have := Int.fmod_lt_of_pos number (b := 4) (by decide)
  unfold sizeOf; omega
theorem redOf_eq (number : Int) : (number.fdiv 4).fmod ((sizeOf number : Int) + 1) = (redOf number : Int) := by
  have := Int.fmod_nonneg_of_pos (number.fdiv 4) (b := (sizeOf number : Int) + 1) (by omega)
  unfold redOf; omega
theorem redOf_le (number : Int) : redOf number ≤ sizeOf number := by
  have := Int.fmod_lt_of_pos (number.fdiv 4) (b := (sizeOf number : Int) + 1) (by omega)
  rw [redOf_eq] at this
  omega
def newB (b : Book) (size red : Nat) : Book where
  ways := (b.ways.flatMap fun a => List.replicate red (a + 1)) ++ b.ways.flatMap fun a => List.replicate (size - red) a
  counts := (rangeL 0 (b.counts.length + 1)).map fun k => ((size - red : Nat) : Int) * (b.counts ++ [0]).getD k.toNat 0 + (red : Int) * ([0] ++ b.counts).getD k.toNat 0
  sure := b.sure + if red = size then 1 else 0
  most := b.most + if 0 < red then 1 else 0
  mean := b.mean + (12 * (red : Int)).fdiv size
def stepS (st : Book × List Book) (number : Int) : Book × List Book :=
  if st.1.ways.length * sizeOf number ≤ 36 then (newB st.1 (sizeOf number) (redOf number), st.2 ++ [newB st.1 (sizeOf number) (redOf number)]) else st
def book0 : Book := ⟨[-2], [1], 0, 0, 0⟩
def rowS (out : List Book) (row : List Int) : List Book := (row.foldl stepS (book0, out)).2
def booksL (rows : List (List Int)) : List Book := rows.foldl rowS [book0]

theorem len_rep {α β : Type} (l : List α) (n : Nat) (f : α → β) : (l.flatMap fun a => List.replicate n (f a)).length = l.length * n := by
  induction l with
  | nil => simp
  | cons a r ih => rw [List.flatMap_cons, List.length_append, List.length_replicate, ih, List.length_cons, Nat.succ_mul, Nat.add_comm]
theorem newB_ways (b : Book) {size red : Nat} (h : red ≤ size) : (newB b size red).ways.length = b.ways.length * size := by
  have e1 := len_rep b.ways red (· + 1)
  have e2 := len_rep b.ways (size - red) id
  simp only [newB, List.length_append]
  rw [e1]
  refine (congrArg (b.ways.length * red + ·) e2).trans ?_
  show b.ways.length * red + b.ways.length * (size - red) = _
  rw [← Nat.mul_add]; congr 1; omega
theorem newB_counts (b : Book) (size red : Nat) : (newB b size red).counts.length = b.counts.length + 1 := by simp [newB, rangeL_len]
/-- what the walk needs of the state -/
structure Fit (st : Book × List Book) (c o : Nat) : Prop where
  w : st.1.ways.length ≤ 36
  c : st.1.counts.length ≤ c + 1
  o : st.2.length ≤ o + 1
  h : st.2[0]? = some book0
theorem Fit.step {st : Book × List Book} {c o : Nat} (x : Fit st c o) (number : Int) : Fit (stepS st number) (c + 1) (o + 1) := by
  unfold stepS
  split
  · rename_i hle
    refine ⟨?_, ?_, ?_, ?_⟩
    · rw [newB_ways _ (redOf_le number)]; exact hle
    · rw [newB_counts]; exact Nat.succ_le_succ x.c
    · simp only [List.length_append, List.length_cons, List.length_nil]; exact Nat.succ_le_succ x.o
    · have := x.h
      rw [List.getElem?_append_left]
      · exact this
      · exact (List.getElem?_eq_some_iff.mp this).1
  · exact ⟨x.w, Nat.le_succ_of_le x.c, Nat.le_succ_of_le x.o, x.h⟩
theorem Fit.fold : ∀ (row : List Int) {st : Book × List Book} {c o : Nat}, Fit st c o → Fit (row.foldl stepS st) (c + row.length) (o + row.length)
  | [], _, _, _, x => x
  | n :: r, st, c, o, x => by
    have := Fit.fold r (x.step n)
    simp only [List.foldl_cons, List.length_cons]
    rw [show c + (r.length + 1) = c + 1 + r.length by omega, show o + (r.length + 1) = o + 1 + r.length by omega]
    exact this
theorem books_fit : ∀ (rows : List (List Int)) (out : List Book) (o : Nat), (∀ r ∈ rows, r.length ≤ 4) → out.length ≤ o + 1 → out[0]? = some book0 → (rows.foldl rowS out).length ≤ o + 4 * rows.length + 1 ∧ (rows.foldl rowS out)[0]? = some book0
  | [], out, o, _, h1, h2 => ⟨by simpa using h1, h2⟩
  | r :: rs, out, o, hr, h1, h2 => by
    have f := Fit.fold r (st := (book0, out)) (c := 0) (o := o) ⟨Nat.le_of_ble_eq_true rfl, Nat.le_of_ble_eq_true rfl, h1, h2⟩
    have := hr r List.mem_cons_self
    have g := books_fit rs (rowS out r) (o + 4) (fun r h => hr r (List.mem_cons_of_mem _ h)) (by have := f.o; unfold rowS; omega) f.h
    simp only [List.foldl_cons, List.length_cons]
    refine ⟨by have := g.1; omega, g.2⟩

section
variable {prog : Program} {w : World} {A : Around} {env : Env} {s₀ s s' : Shared} {hr h : Heap} {M : List (Addr × List VP)} {Γ : List (Str × VP)} {E : Value → Shared → Prop} {mg mb : Str → Option Value} {T : Tab}

set_option maxHeartbeats 4000000 in
theorem books (W : Wd mg mb T h) (rm : Room 1 A) (rows : List (List Int)) (hn : rows.length ≤ 4) (hrow : ∀ r ∈ rows, r.length ≤ 4) :
    CallF prog w A [] h T.books [ListV (rows.map IntsV)] [] (ListV ((booksL rows).map Book.V)) := by
  have X := W.books
  refine ⟨let ⟨o, fd, h1, h2, _⟩ := X.ex; ⟨o, fd, h1, h2⟩, ?_⟩
  rintro h' vs ks e (_ | ⟨p, (_ | _)⟩) (_ | _) s E ex od
  rename_i v
  have hz : sizeLine = 2 ^ 24 := rfl
  refine wpAny_call (call_enter ["rows"] (X.ext (e.trans ex)) (W.gc.lim.keeps (e.trans ex)) rm.dep (.cons (VP.ext _ ex p) .nil) fun cd s₁ F => ?_)
  have H : HOk (envK (scopeOf (stmtAt 12)) (nameOf (stmtAt 12) ++ ".<locals>.") s.heap.objs.size T.books cd) s (hsOf []) := HOk.nil rfl
  refine wpAny_execs_cons (wpAny_Assign_Name (F.display (Ps := [book0.V]) H (Lv.cons (Ev.list (Nat.le_of_ble_eq_true rfl) (Lv.cons (Ev.list (Ps := [IntV (-2)]) (Nat.le_of_ble_eq_true rfl) (Lv.cons (Ev.neg Ev.cint) Lv.nil)) (Lv.cons (Ev.list (Ps := [IntV 1]) (Nat.le_of_ble_eq_true rfl) (Lv.cons Ev.cint Lv.nil)) (Lv.cons Ev.cint (Lv.cons Ev.cint (Lv.cons Ev.cint Lv.nil)))))) Lv.nil) (by exact Nat.le_of_ble_eq_true rfl)
    fun a s₂ F H => F.store H.toEnvOk (.inl rfl) (P := IsV (.ref a)) rfl fun s₃ F => ?_) (by rfl))
  replace H : HOk (envK (scopeOf (stmtAt 12)) (nameOf (stmtAt 12) ++ ".<locals>.") s.heap.objs.size T.books cd) s [a] := H
  let Γ : Nat → List (Str × VP) := fun i => [("rows", ListV (rows.map IntsV)), ("books", IsV (.ref a))]
  let M : Nat → List (Addr × List VP) := fun i => [(a, (booksL (rows.take i)).map Book.V)]
  show wpAny _ _ (execs _ _) _ _ _
  refine xs_for Γ M (FS.pick F _ (by walk_at "sub")) H.toEnvOk (fun _ => rfl) (src_list rm.h (by exact FS.ev (FS.pick F [("rows", ListV (rows.map IntsV))] (by walk_at "sub")) rfl rfl)) (.inl rfl) (fun i Pi s₆ hr' E' hPi F => ?_) (fun s₆ F => ?_)
  · rw [List.getElem?_map] at hPi
    cases hri : rows[i]? with
    | none => rw [hri] at hPi; cases hPi
    | some row =>
    rw [hri] at hPi
    obtain rfl : IntsV row = Pi := by simpa using hPi
    have hrl := hrow row (List.mem_of_getElem? hri)
    have hil := (List.getElem?_eq_some_iff.mp hri).1
    obtain ⟨bf1, bf2⟩ := books_fit (rows.take i) [book0] 0 (fun r h => hrow r (List.mem_of_mem_take h)) (by decide) rfl
    rw [List.length_take] at bf1
    refine xs_unpack (Ps := [IntsV book0.ways, IntsV book0.counts, IntV (book0.sure : Int), IntV (book0.most : Int), IntV book0.mean]) (names := ["ways", "counts", "sure", "most", "mean"]) F H.toEnvOk rm.h (FS.itemM F rfl rfl List.mem_cons_self Ev.cint (by decide) (by decide) (by rw [List.getElem?_map]; exact congrArg (Option.map Book.V) bf2)) (by walk_at "sto") (.cons storesTo_assign (.cons storesTo_assign (.cons storesTo_assign (.cons storesTo_assign (.cons storesTo_assign .nil))))) fun s₇ F => ?_
    let st : Nat → Book × List Book := fun j => (row.take j).foldl stepS (book0, booksL (rows.take i))
    let Γ' : Nat → List (Str × VP) := fun j => [("ways", IntsV (st j).1.ways), ("counts", IntsV (st j).1.counts), ("sure", IntV ((st j).1.sure : Int)), ("most", IntV ((st j).1.most : Int)), ("mean", IntV (st j).1.mean), ("books", IsV (.ref a)), ("rows", ListV (rows.map IntsV))]
    let M' : Nat → List (Addr × List VP) := fun j => [(a, (st j).2.map Book.V)]
    have hls : (row.map IntV).length = row.length := List.length_map _
    refine xs_for Γ' M' (FS.pick F (Γ' 0) (by walk_at "sub")) H.toEnvOk (fun _ => rfl) (src_list rm.h (by exact FS.ev (FS.pick F [("row", IntsV row)] (by walk_at "sub")) rfl rfl)) (.inl rfl) (fun j Pj s₈ hr'' E'' hPj F => ?_) (fun s₈ F => ?_)
    · obtain ⟨rfl, hm⟩ := at_map hPj
      have hj : j < row.length := by
        obtain ⟨h, _⟩ := List.getElem?_eq_some_iff.mp hPj
        rw [hls] at h; exact h
      have fit : Fit (st j) _ _ := Fit.fold (row.take j) (st := (book0, booksL (rows.take i))) (c := 0) (o := 4 * min i rows.length) ⟨Nat.le_of_ble_eq_true rfl, Nat.le_of_ble_eq_true rfl, by have := bf1; show (booksL (rows.take i)).length ≤ _; unfold booksL; omega, bf2⟩
      have hst : st (j + 1) = stepS (st j) (row.getD j 0) := by
        have e : row[j]? = some (row.getD j 0) := by rw [List.getD_eq_getElem?_getD, List.getElem?_eq_getElem hj]; rfl
        simp only [st]
        rw [take_snoc e, List.foldl_append]; rfl
      rw [List.length_take] at fit
      have goalΓ : Γ' (j + 1) = ([("ways", IntsV (st (j + 1)).1.ways), ("counts", IntsV (st (j + 1)).1.counts), ("sure", IntV ((st (j + 1)).1.sure : Int)), ("most", IntV ((st (j + 1)).1.most : Int)), ("mean", IntV (st (j + 1)).1.mean), ("books", IsV (.ref a)), ("rows", ListV (rows.map IntsV))] : List (Str × VP)) := rfl
      have goalM : M' (j + 1) = [(a, (st (j + 1)).2.map Book.V)] := rfl
      rw [goalΓ, goalM, hst]
      replace F : FS _ s [(a, (st j).2.map Book.V)] hr'' s₈ (("number", IntV (row.getD j 0)) :: [("ways", IntsV (st j).1.ways), ("counts", IntsV (st j).1.counts), ("sure", IntV ((st j).1.sure : Int)), ("most", IntV ((st j).1.most : Int)), ("mean", IntV (st j).1.mean), ("books", IsV (.ref a)), ("rows", ListV (rows.map IntsV))]) := F
      have hfit : Fit (st j) 4 100 := ⟨fit.w, by have := fit.c; omega, by have := fit.o; omega, fit.h⟩
      generalize row.getD j 0 = number at F ⊢
      generalize st j = S at F hfit ⊢
      obtain ⟨b, out⟩ := S
      have fw := hfit.w
      have fc := hfit.c
      have fo := hfit.o
      dsimp only at F fw fc fo ⊢
      obtain ⟨sl1, sl2⟩ := sizeOf_le number
      have rl := redOf_le number
      refine xs_assign F H.toEnvOk (.inr ⟨rfl, rfl⟩) (Sv.cast (Q := IntV (sizeOf number : Int)) (Ev.bin op_add (Ev.bin (op_fmod (by decide)) (by exact FS.ev F rfl rfl) Ev.cint) Ev.cint) (by rw [sizeOf_eq])) fun s₉ F => ?_
      refine xs_assign F H.toEnvOk (.inr ⟨rfl, rfl⟩) (Sv.cast (Q := IntV (redOf number : Int)) (Ev.bin (op_fmod (b := (sizeOf number : Int) + 1) (by omega)) (Ev.bin (op_fdiv (by decide) (by decide)) (by exact FS.ev F rfl rfl) Ev.cint) (Ev.bin op_add (by exact FS.ev F rfl rfl) Ev.cint)) (by rw [redOf_eq])) fun s₁₀ F => ?_
      have W₁₀ := W.ext ((e.trans ex).trans F.ext0)
      refine xs_if F (Et.cmp op_le (Ev.binR (Ev.lenI (l := b.ways) (by walk_at "nm") (by exact FS.ev F rfl rfl) (by omega)) (by exact FS.ev F rfl rfl) (op_mul (mulL (by omega)))) Ev.cint) (fun hb s₁₁ F => ?_) (fun hb s₁₁ F => xs_nil (xs_nil ⟨rfl, ?_⟩))
      · have hle : b.ways.length * sizeOf number ≤ 36 := by
          have := of_decide_eq_true hb
          have e : (b.ways.length : Int) * (sizeOf number : Int) = ((b.ways.length * sizeOf number : Nat) : Int) := by push_cast; rfl
          rw [e] at this; omega
        have hS : stepS (b, out) number = (newB b (sizeOf number) (redOf number), out ++ [newB b (sizeOf number) (redOf number)]) := by
          unfold stepS; rw [if_pos hle]
        rw [hS]
        have W₁₁ := W.ext ((e.trans ex).trans F.ext0)
        generalize hz1 : sizeOf number = size at F ⊢ sl1 sl2 rl hle
        generalize hz2 : redOf number = red at F ⊢ rl
        replace F := F.pick [("ways", IntsV b.ways), ("counts", IntsV b.counts), ("sure", IntV (b.sure : Int)), ("most", IntV (b.most : Int)), ("mean", IntV b.mean), ("books", IsV (.ref a)), ("rows", ListV (rows.map IntsV)), ("size", IntV (size : Int)), ("red", IntV (red : Int))] (by walk_at "sub")
        have lw1 := len_rep b.ways red (· + 1)
        have lw2 := len_rep b.ways (size - red) id
        have hmm1 : b.ways.length * red ≤ 36 := Nat.le_trans (Nat.mul_le_mul_left _ rl) hle
        have hmm2 : b.ways.length * (size - red) ≤ 36 := Nat.le_trans (Nat.mul_le_mul_left _ (Nat.sub_le _ _)) hle
        refine xs_assign F H.toEnvOk (.inl rfl) (Ev.binR
          (Ev.comp2 (a := 0) (n := red) (fun m => m + 1) rm.h (by exact FS.ev F rfl rfl) (by omega) (by omega)
            (fun m C h₂ _ ex' own => range1 (Wd.built (W₁₁.ext ex') (by decide) boot_range rfl rfl rfl rfl) (by exact FS.seenAt F ex' rfl rfl rfl rfl rfl) (by omega)) (fun m C h₂ _ ex' own => Ev.bin op_add (own _) Ev.cint))
          (Ev.comp2 (a := 0) (n := size - red) (fun m => m) rm.h (by exact FS.ev F rfl rfl) (by omega) (by omega)
            (fun m C h₂ _ ex' own => range1 (n := size - red) (Wd.built (W₁₁.ext ex') (by decide) boot_range rfl rfl rfl rfl) (Sv.cast (Q := IntV ((size - red : Nat) : Int)) (Ev.bin op_sub (by exact FS.seenAt F ex' rfl rfl rfl rfl rfl) (by exact FS.seenAt F ex' rfl rfl rfl rfl rfl)) (by congr 1; omega)) (by omega)) (fun m C h₂ _ ex' own => own _))
          (op_catI (by rw [lw1]; refine Nat.le_trans (Nat.add_le_add_left (Nat.le_of_eq lw2) _) ?_; omega))) fun s₁₂ F => ?_
        have W₁₂ := W.ext ((e.trans ex).trans F.ext0)
        have hcl : (b.counts ++ [0]).length = b.counts.length + 1 := by simp
        have hcl' : ([0] ++ b.counts).length = b.counts.length + 1 := by simp
        refine xs_assign F H.toEnvOk (.inr ⟨rfl, rfl⟩) (Ev.compM (fun k => ((size - red : Nat) : Int) * (b.counts ++ [0]).getD k.toNat 0 + (red : Int) * ([0] ++ b.counts).getD k.toNat 0)
          (src_rangeL rm.h (range1 (n := b.counts.length + 1) (by walk_at "nm") (Sv.cast (Q := IntV ((b.counts.length + 1 : Nat) : Int)) (Ev.bin op_add (Ev.lenI (l := b.counts) (by walk_at "nm") (by exact FS.ev F rfl rfl) (by omega)) Ev.cint) (by push_cast; rfl)) (by omega))) (by rw [rangeL_len]; omega)
          fun k C h₂ m ex' own => by
            obtain ⟨m1, m2⟩ := mem_rangeL m
            refine Ev.bin op_add (Ev.bin (op_mul (mulL (by omega))) (Sv.cast (Q := IntV ((size - red : Nat) : Int)) (Ev.bin op_sub (by exact FS.seenAt F ex' rfl rfl rfl rfl rfl) (by exact FS.seenAt F ex' rfl rfl rfl rfl rfl)) (by congr 1; omega)) (Ev.itemI (l := b.counts ++ [0]) ?_ (own _) (by omega) (by omega) (by omega)))
              (Ev.bin (op_mul (mulL (by omega))) (by exact FS.seenAt F ex' rfl rfl rfl rfl rfl) (Ev.itemI (l := [0] ++ b.counts) ?_ (own _) (by omega) (by omega) (by omega)))
            · exact Ev.binR (by exact FS.seenAt F ex' rfl rfl rfl rfl rfl) (Ev.list (Ps := [IntV 0]) (Nat.le_of_ble_eq_true rfl) (Lv.cons Ev.cint Lv.nil)) (op_catI (b := [0]) (by simp only [List.length_cons, List.length_nil]; omega))
            · exact Ev.binR (Ev.list (Ps := [IntV 0]) (Nat.le_of_ble_eq_true rfl) (Lv.cons Ev.cint Lv.nil)) (by exact FS.seenAt F ex' rfl rfl rfl rfl rfl) (op_catI (a := [0]) (by simp only [List.length_cons, List.length_nil]; omega))) fun s₁₃ F => ?_
        refine xs_tuple_swapped (names := ["sure", "most"]) F H.toEnvOk rm.h (by rfl)
          (Lv.cons (Sv.cast (Q := IntV ((b.sure + if red = size then 1 else 0 : Nat) : Int)) (Ev.bin (op_add (b := if red = size then 1 else 0)) (by exact FS.ev F rfl rfl) (Ev.ite (t := decide (red = size)) (Tv.cast (Et.cmp op_eq (by exact FS.ev F rfl rfl) (by exact FS.ev F rfl rfl)) (by rw [Bool.eq_iff_iff]; simp only [beq_iff_eq, decide_eq_true_eq]; omega))
              (fun z => by rw [if_pos (of_decide_eq_true z)]; exact Ev.cint) (fun z => by rw [if_neg (of_decide_eq_false z)]; exact Ev.cint))) (by congr 1; split <;> push_cast <;> rfl))
          (Lv.cons (Sv.cast (Q := IntV ((b.most + if 0 < red then 1 else 0 : Nat) : Int)) (Ev.bin (op_add (b := if 0 < red then 1 else 0)) (by exact FS.ev F rfl rfl) (Ev.ite (t := decide (0 < red)) (Tv.cast (Et.cmp op_gt (by exact FS.ev F rfl rfl) Ev.cint) (by rw [Bool.eq_iff_iff]; simp only [decide_eq_true_eq]; omega))
              (fun z => by rw [if_pos (of_decide_eq_true z)]; exact Ev.cint) (fun z => by rw [if_neg (of_decide_eq_false z)]; exact Ev.cint))) (by congr 1; split <;> push_cast <;> rfl)) Lv.nil)) (by walk_at "sto") fun s₁₄ F => ?_
        refine xs_assign F H.toEnvOk (.inl rfl) (Ev.bin op_add (by exact FS.ev F rfl rfl) (Ev.bin (op_fdiv (b := (size : Int)) (by omega) (by omega)) (Ev.bin (op_mul (mulL (by decide))) Ev.cint (by exact FS.ev F rfl rfl)) (by exact FS.ev F rfl rfl))) fun s₁₅ F => ?_
        replace F := F.pick [("ways", IntsV (newB b size red).ways), ("counts", IntsV (newB b size red).counts), ("sure", IntV ((newB b size red).sure : Int)), ("most", IntV ((newB b size red).most : Int)), ("mean", IntV (newB b size red).mean), ("books", IsV (.ref a)), ("rows", ListV (rows.map IntsV))] (by walk_at "sub")
        refine xs_append (M₁ := []) (M₂ := []) F H rfl (Ev.list (Ps := [IntsV (newB b size red).ways, IntsV (newB b size red).counts, IntV ((newB b size red).sure : Int), IntV ((newB b size red).most : Int), IntV (newB b size red).mean]) (Nat.le_of_ble_eq_true rfl)
          (Lv.cons (by exact FS.ev F rfl rfl) (Lv.cons (by exact FS.ev F rfl rfl) (Lv.cons (by exact FS.ev F rfl rfl) (Lv.cons (by exact FS.ev F rfl rfl) (Lv.cons (by exact FS.ev F rfl rfl) Lv.nil)))))) (by rw [List.length_map]; omega) fun s₁₆ F => xs_nil (xs_nil ⟨rfl, FS.castM (FS.pick F _ (by walk_at "sub")) (by simp)⟩)
      · have hle : ¬ b.ways.length * sizeOf number ≤ 36 := by
          have := of_decide_eq_false hb
          have e : (b.ways.length : Int) * (sizeOf number : Int) = ((b.ways.length * sizeOf number : Nat) : Int) := by push_cast; rfl
          rw [e] at this; omega
        have hS : stepS (b, out) number = (b, out) := by unfold stepS; rw [if_neg hle]
        rw [hS]
        exact F.pick _ (by walk_at "sub")
    · have eM : M' (row.map IntV).length = M (i + 1) := by
        simp only [M', M, st]
        rw [hls, List.take_length, take_snoc hri]
        simp only [booksL, List.foldl_append, List.foldl_cons, List.foldl_nil]; rfl
      exact xs_nil ⟨rfl, FS.castM (FS.pick F (Γ (i + 1)) (by walk_at "sub")) eM⟩
  · rw [show (rows.map IntsV).length = rows.length from List.length_map _] at F
    have F := F.freezeAll [("books", ListV ((booksL rows).map Book.V))] (by
      have et : rows.take rows.length = rows := List.take_length
      intro p hp
      refine .inr ?_
      rcases List.mem_cons.mp hp with rfl | hp
      · exact ⟨a, _, List.mem_cons_self, rfl, by rw [et]⟩
      cases hp)
    exact xs_return F (by walk_at "nm") fun v s₇ p F => ⟨p, F.keeps0⟩
end
end Mine
end

section
open PySem PySem.Calls PyProof.Rows
set_option maxRecDepth 100000
set_option linter.unusedVariables false
namespace Mine

local macro_rules | `(tactic| walk_at "nm") => `(tactic| first
  | exact FS.ev (by with_reducible assumption) rfl rfl
  | exact Wd.built (by with_reducible assumption) (by decide) (by first | exact boot_len | exact boot_sorted | exact boot_range | exact boot_max | exact boot_min | exact boot_sum | exact boot_list | exact boot_isinstance | exact boot_float | exact boot_tuple) rfl rfl rfl rfl)
local macro_rules | `(tactic| walk_at "sub") => `(tactic| repeat (first | exact List.forall_mem_nil _ | refine List.forall_mem_cons.mpr ⟨rfl, ?_⟩))
local macro_rules | `(tactic| walk_at "sto") => `(tactic| repeat (first | exact List.forall_mem_nil _ | refine List.forall_mem_cons.mpr ⟨by first | exact Or.inl rfl | exact Or.inr ⟨rfl, rfl⟩, ?_⟩))

def StrV (x : Str) : VP := ⟨fun _ v => ∃ t, v = .str x t, fun _ h => h⟩

section
variable {prog : Program} {w : World} {A : Around} {hs : List Addr} {h : Heap} {env : Env} {mg mb : Str → Option Value} {T : Tab} {s₀ s : Shared} {hr : Heap} {M : List (Addr × List VP)} {Γ : List (Str × VP)}

theorem Ev.cstr {x : Str} {k : Nat} {pos : Pos} : Ev prog w A env hs h (.Constant (.str x) k pos) (StrV x) := fun s E e od => wpAny_Constant_str ⟨⟨_, rfl⟩, kpOf (Ext.refl _)⟩

/-- the entry of a call whose body may raise -/
theorem call_enterE {s : Shared} {a : Addr} {name : Str} {params : Arguments} {body : List Stmt} {scope : Scope} {d k : Value} {args : Args} {R : Result → Shared → Prop} (ns : List Str) {Ps : List VP} {vals : List Value}
    (X : FnAt s.heap a name params body scope d k) (lim : s.heap.NoLimit) (hroom : A.depth < recursionLimit)
    (hp : Paired (fun (P : VP) v => P.p (LV [] s.heap) v) Ps vals)
    (h : ∀ cd s₁, FS (envK scope (name ++ ".<locals>.") s.heap.objs.size a cd) s [] s₁.heap s₁ (ns.zip Ps) →
      wpAny (model prog w) (A.deeper (envK scope (name ++ ".<locals>.") s.heap.objs.size a cd)) (execs body (envK scope (name ++ ".<locals>.") s.heap.objs.size a cd)) (fun f s' => R (.ok (.ret (match f with | .ret v => v | _ => .none))) s')
        (fun e s' => wpAny (model prog w) (A.deeper (envK scope (name ++ ".<locals>.") s.heap.objs.size a cd)) (leaving (envK scope (name ++ ".<locals>.") s.heap.objs.size a cd) e) (fun _ s'' => R (.error e) s'') (fun e' s'' => R (.error e') s'') s') s₁)
    (hbind : ∀ fd, fd.qualname = name → fd.params = params → fd.defaults = d → fd.kwdefaults = k → BindsTo s fd args (ns.zip vals) := by intro fd h1 h2 h3 h4; obtain ⟨⟩ := fd; dsimp only at h1 h2 h3 h4; subst h1 h2 h3 h4; exact BindsTo.of_eq (by rfl))
    (hl : ns.length = Ps.length := by rfl) (hnd' : ns.Nodup := by decide +kernel)
    (hkind' : (ns.all fun x => scope.names.lookup x == some .local || scope.names.lookup x == some .cell) = true := by decide +kernel)
    (hco : scope.isCoroutine = false := by rfl) (hgen : scope.isGenerator = false := by rfl) (hk : scope.kind = .function := by rfl) : codeAny (model prog w) A (.call (.ref a) args) R s := by
  have hΓ := zip_paired hp hl
  have hnd : ((ns.zip Ps).map (·.1)).Nodup := by rw [zip_names hl]; exact hnd'
  have hkind : ∀ x ∈ (ns.zip Ps).map (·.1), scope.names.lookup x = some .local ∨ (scope.names.lookup x = some .cell ∧ ((cellsFrom (s.heap.objs.size + 1) scope.names []).lookup x).isSome = true) := by
    rw [zip_names hl]
    intro x hx
    have := List.all_eq_true.mp hkind' x hx
    simp only [Bool.or_eq_true, beq_iff_eq] at this
    rcases this with e | e
    · exact .inl e
    · exact .inr ⟨e, cells_have (.inr (mem_of_lookup e))⟩
  generalize hG : ns.zip Ps = Γ at *
  generalize hB : ns.zip vals = binds at *
  obtain ⟨o, fd, ho, hd, hq, hpa, hb, hsc, hgl, hbn, hcl, hdf, hkw, hcd⟩ := X.ex
  have hbt := hbind fd hq hpa hdf hkw
  subst hsc
  refine codeAny_call_function hroom ho hd hco hgen hb (hq ▸ hcd) (hbt _ _ _ _ ?_)
  rw [hcl, hgl, hbn]
  have hk' : ∀ x ∈ binds, fd.scope.names.lookup x.1 = some .local ∨ (fd.scope.names.lookup x.1 = some .cell ∧ ((cellsFrom (s.heap.objs.size + 1) fd.scope.names []).lookup x.1).isSome = true) := fun x hx => by
    obtain ⟨i, hi, e⟩ := List.getElem_of_mem hx
    obtain ⟨p, q, r⟩ := Paired.getR hΓ i (List.getElem?_eq_getElem hi)
    rw [e] at r
    rw [← r.1]
    exact hkind _ (List.mem_map_of_mem (List.mem_of_getElem? q))
  refine wpAny_newFunctionEnv_cells hk hk' fun env he s' x => ?_
  subst he
  rw [hq] at x ⊢
  refine ⟨lim.keeps x.toInCall.keep, codeAny_func (h fd.code s' ⟨⟨_, _, x, fun y P q => ?_⟩, fun _ _ _ _ _ e => e, fun p hp => nomatch hp⟩)⟩
  have hnames : binds.map (·.1) = Γ.map (·.1) := names_of (F := fun P v => P.p (LV [] s.heap) v) hΓ
  have hmem : ∃ v, (y, v) ∈ binds ∧ P.p (LV [] s.heap) v := by
    have hm := mem_of_lookup q
    obtain ⟨i, hi, e⟩ := List.getElem_of_mem hm
    obtain ⟨b, r1, r2⟩ := Paired.get hΓ i (List.getElem?_eq_getElem hi)
    rw [e] at r2
    obtain ⟨b1, b2⟩ := b
    obtain ⟨rfl, r2⟩ := r2
    exact ⟨b2, List.mem_of_getElem? r1, r2⟩
  obtain ⟨v, hv, hP⟩ := hmem
  have hP' : P.p (LV [] s'.heap) v := P.mono (LV.ext x.toInCall.keep) hP
  rcases hkind y (List.mem_map_of_mem (mem_of_lookup q)) with hl | ⟨hl, hc⟩
  · exact .inl ⟨hl, v, bindL_get (hnames ▸ hnd) hv hl, hP'⟩
  · obtain ⟨c, hc⟩ := Option.isSome_iff_exists.mp hc
    exact .inr ⟨hl, c, v, hc, bindC_get (hnames ▸ hnd) hv (by show fd.scope.names.lookup y ≠ _; rw [hl]; decide), hP'⟩

/-- the frames below, seen from a frame -/
theorem FS.below {base : Heap} {outer : List Env} (F : FS env s₀ M hr s Γ) (K : Below A base outer s₀.heap) (hk : env.scope.kind = .function) (hf : env.frame = some env.locals) : Below (A.deeper env) base (env :: outer) s.heap := by
  obtain ⟨m, cm, I, _⟩ := F.inn
  have hnew : base.get? env.locals = none := by
    cases hq : base.get? env.locals with
    | none => rfl
    | some o => exact absurd (Nat.lt_of_lt_of_le (Heap.lt_size (K.stays _ o hq)) I.toInCall.fresh) (Nat.lt_irrefl _)
  refine ⟨Around.frames_deeper K.stack, fun b o e => F.ext0 b o (K.stays b o e), ?_⟩
  exact .cons (by rw [hk]; decide) hf I.toInCall.ns hnew (K.frames.of_keeps fun b o e _ => ⟨o, F.ext0 b o e, rfl⟩)

/-- raise X("text") -/
theorem xs_raise {x : Str} {C : Addr} {B newId initId : String} {bm : List Value} {np cpos pos p : Pos} {t : Str} {kk : Nat} {rest : List Stmt} {E : Value → Shared → Prop} {Q : Flow → Shared → Prop} (F : FS env s₀ M hr s Γ) (G : GC mg mb s.heap) (O : OwnClsQ x C bm newId mg s.heap) (FB : ExcBaseFacts B newId initId bm) (hh : A.handled = none)
    (h : ∀ h' e vs s₂, FS env s₀ M hr s₂ Γ → Heap.MadeExcOf s₂.heap h' e (.ref C) vs → E (.ref e) { s₂ with heap := h' })
    (hk : env.scope.kind = .function := by rfl) (hx : env.kindOf x = some .globalImplicit := by rfl) (hg : env.globals = mainGlobals := by rfl) (hd : (x == ("__debug__" : Str)) = false := by decide)
    (he : starEach [.Constant (.str t) kk p] env = (false, eval (.Constant (.str t) kk p) env) :: starEach [] env := by rfl) :
    wpAny (model prog w) A (execs (.Raise (some (.Call (.Name x np) [.Constant (.str t) kk p] [] cpos)) none pos :: rest) env) Q E s := by
  refine wpAny_execs_cons ?_
  obtain ⟨tl, N, nm, q, bs, hdct, sn, sub, ab, col, dd, k0, k1, k2, k3, k5, mN, hC, hN, hni, T⟩ := O.own.obj
  refine wpAny_Raise_call_subT (C := C) (nm := nm) (q := q) (N := N) (bs := bs) (bm := tl) (hdct := hdct) (sn := sn) (sub := sub) (ab := ab) (col := col) (dd := dd) (k0 := k0) (k1 := k1) (k2 := k2) (k3 := k3) (k5 := k5)
    FB (mN := mN) (T.hasType FB.hasBase) hh (by rw [he]; rfl) hni (Sv.go (Ev.glob G O.bound hk hx hg hd) F.old fun v s₁ z k => ⟨z, ?_⟩)
  rw [he]
  refine Calls.evalArgs_plain (Calls.spliced_cons (Sv.go (Ev.cstr (h := s₁.heap) (k := kk) (pos := p)) (F.kp k).old fun v s₂ z k₂ => Calls.spliced_nil ?_))
  have ke := kpExt (kpTrans k k₂)
  exact ⟨rfl, by show 1 ≤ sizeLine; decide, ke _ _ hC, hN.keeps ke, T.keeps ke, fun h' e hx => h h' e _ s₂ ((F.kp k).kp k₂) hx⟩

theorem FS.same (F : FS env s₀ M hr s Γ) : ∃ h tk, s = { s₀ with heap := h, toks := tk } := let ⟨_, _, I, _⟩ := F.inn; I.toInCall.same

/-- the exception leaves a frame -/
theorem leave_fs {base : Heap} {outer : List Env} {s₂ : Shared} {h' : Heap} {e : Addr} {cls : Value} {vs : List Value} {Q : Unit → Shared → Prop} {E : Value → Shared → Prop} (F : FS env s₀ M hr s₂ Γ) (K : Below A base outer s₀.heap) (hx : Heap.MadeExcOf s₂.heap h' e cls vs)
    (hQ : ∀ h'' tk t, Heap.FlyingW base outer e cls (.ref t) h'' → s₀.heap.UpToSlots h'' → Q () { s₀ with heap := h'', toks := tk }) (hk : env.scope.kind = .function := by rfl) (hf : env.frame = some env.locals := by rfl) :
    wpAny (model prog w) (A.deeper env) (leaving env (.ref e)) Q E { s₂ with heap := h' } := by
  have K' := F.below K hk hf
  refine wpAny_leaves_madeW (h := s₂.heap) K'.stack hf K'.stays K'.frames hx fun h'' t x1 x2 x3 x4 => ?_
  have := hQ h'' s₂.toks t x1 (((Heap.UpToSlots.of_keeps F.ext0).trans (Heap.UpToSlots.of_keeps hx.keeps)).trans x4)
  obtain ⟨h₂, t₂, r⟩ := F.same
  subst r
  exact this

theorem median_raises {C : Addr} {B newId initId : String} {bm : List Value} {base : Heap} {outer : List Env} {v : Value} {R : Result → Shared → Prop} (W : Wd mg mb T s.heap) (O : OwnClsQ "StatisticsError" C bm newId mg s.heap) (FB : ExcBaseFacts B newId initId bm) (rm : Room 1 A) (K : Below A base outer s.heap)
    (p : (IntsV []).p (LV [] s.heap) v) (hR : ∀ h' tk e t, Heap.FlyingW base outer e (.ref C) (.ref t) h' → s.heap.UpToSlots h' → R (.error (.ref e)) { s with heap := h', toks := tk }) :
    codeAny (model prog w) A (.call (.ref T.median) ⟨[v], []⟩) R s := by
  refine call_enterE ["data"] W.median W.gc.lim rm.dep (.cons p .nil) fun cd s₁ F => ?_
  have ok : EnvOk (envK (scopeOf (stmtAt 4)) (nameOf (stmtAt 4) ++ ".<locals>.") s.heap.objs.size T.median cd) [] := ⟨rfl, by simp, by simp⟩
  have W₁ := W.ext F.ext0
  refine xs_assign F ok (.inl rfl) (Ev.callB (by walk_at "nm") (Lv.cons (P := IntsV []) (by walk_at "nm") Lv.nil) (cb_sorted (by decide))) fun s₂ F => ?_
  have W₂ := W.ext F.ext0
  refine xs_assign F ok (.inl rfl) (Ev.callB (by walk_at "nm") (Lv.cons (by walk_at "nm") Lv.nil) (cb_len (by decide))) fun s₃ F => ?_
  refine xs_if F (Et.cmp (b := .Constant (.int 0) _ _) (c := true) op_eq (by walk_at "nm") Ev.cint) (fun _ s₄ F => ?_) (fun z => by cases z)
  exact xs_raise F (W.gc.ext F.ext0) (O.keeps F.ext0) FB rm.h fun h' e vs s₅ F hx => leave_fs F K hx fun h'' tk t x1 x2 => hR h'' tk e t x1 x2

theorem medianLow_raises {C : Addr} {B newId initId : String} {bm : List Value} {base : Heap} {outer : List Env} {v : Value} {R : Result → Shared → Prop} (W : Wd mg mb T s.heap) (O : OwnClsQ "StatisticsError" C bm newId mg s.heap) (FB : ExcBaseFacts B newId initId bm) (rm : Room 1 A) (K : Below A base outer s.heap)
    (p : (IntsV []).p (LV [] s.heap) v) (hR : ∀ h' tk e t, Heap.FlyingW base outer e (.ref C) (.ref t) h' → s.heap.UpToSlots h' → R (.error (.ref e)) { s with heap := h', toks := tk }) :
    codeAny (model prog w) A (.call (.ref T.medianLow) ⟨[v], []⟩) R s := by
  refine call_enterE ["data"] W.medianLow W.gc.lim rm.dep (.cons p .nil) fun cd s₁ F => ?_
  have ok : EnvOk (envK (scopeOf (stmtAt 5)) (nameOf (stmtAt 5) ++ ".<locals>.") s.heap.objs.size T.medianLow cd) [] := ⟨rfl, by simp, by simp⟩
  have W₁ := W.ext F.ext0
  refine xs_assign F ok (.inl rfl) (Ev.callB (by walk_at "nm") (Lv.cons (P := IntsV []) (by walk_at "nm") Lv.nil) (cb_sorted (by decide))) fun s₂ F => ?_
  have W₂ := W.ext F.ext0
  refine xs_assign F ok (.inl rfl) (Ev.callB (by walk_at "nm") (Lv.cons (by walk_at "nm") Lv.nil) (cb_len (by decide))) fun s₃ F => ?_
  refine xs_if F (Et.cmp (b := .Constant (.int 0) _ _) (c := true) op_eq (by walk_at "nm") Ev.cint) (fun _ s₄ F => ?_) (fun z => by cases z)
  exact xs_raise F (W.gc.ext F.ext0) (O.keeps F.ext0) FB rm.h fun h' e vs s₅ F hx => leave_fs F K hx fun h'' tk t x1 x2 => hR h'' tk e t x1 x2

theorem medianHigh_raises {C : Addr} {B newId initId : String} {bm : List Value} {base : Heap} {outer : List Env} {v : Value} {R : Result → Shared → Prop} (W : Wd mg mb T s.heap) (O : OwnClsQ "StatisticsError" C bm newId mg s.heap) (FB : ExcBaseFacts B newId initId bm) (rm : Room 1 A) (K : Below A base outer s.heap)
    (p : (IntsV []).p (LV [] s.heap) v) (hR : ∀ h' tk e t, Heap.FlyingW base outer e (.ref C) (.ref t) h' → s.heap.UpToSlots h' → R (.error (.ref e)) { s with heap := h', toks := tk }) :
    codeAny (model prog w) A (.call (.ref T.medianHigh) ⟨[v], []⟩) R s := by
  refine call_enterE ["data"] W.medianHigh W.gc.lim rm.dep (.cons p .nil) fun cd s₁ F => ?_
  have ok : EnvOk (envK (scopeOf (stmtAt 6)) (nameOf (stmtAt 6) ++ ".<locals>.") s.heap.objs.size T.medianHigh cd) [] := ⟨rfl, by simp, by simp⟩
  have W₁ := W.ext F.ext0
  refine xs_assign F ok (.inl rfl) (Ev.callB (by walk_at "nm") (Lv.cons (P := IntsV []) (by walk_at "nm") Lv.nil) (cb_sorted (by decide))) fun s₂ F => ?_
  have W₂ := W.ext F.ext0
  refine xs_assign F ok (.inl rfl) (Ev.callB (by walk_at "nm") (Lv.cons (by walk_at "nm") Lv.nil) (cb_len (by decide))) fun s₃ F => ?_
  refine xs_if F (Et.cmp (b := .Constant (.int 0) _ _) (c := true) op_eq (by walk_at "nm") Ev.cint) (fun _ s₄ F => ?_) (fun z => by cases z)
  exact xs_raise F (W.gc.ext F.ext0) (O.keeps F.ext0) FB rm.h fun h' e vs s₅ F hx => leave_fs F K hx fun h'' tk t x1 x2 => hR h'' tk e t x1 x2

theorem fmean_raises {d : Value} {C : Addr} {B newId initId : String} {bm : List Value} {base : Heap} {outer : List Env} {v : Value} {R : Result → Shared → Prop} (X : DefAt s.heap T.fmean 3 d .none) (D : Dflt1 d s.heap) (W : Wd mg mb T s.heap) (O : OwnClsQ "StatisticsError" C bm newId mg s.heap) (FB : ExcBaseFacts B newId initId bm) (rm : Room 1 A) (K : Below A base outer s.heap)
    (p : (IntsV []).p (LV [] s.heap) v) (hR : ∀ h' tk e t, Heap.FlyingW base outer e (.ref C) (.ref t) h' → s.heap.UpToSlots h' → R (.error (.ref e)) { s with heap := h', toks := tk }) :
    codeAny (model prog w) A (.call (.ref T.fmean) ⟨[v], []⟩) R s := by
  refine call_enterE ["data", "weights"] X W.gc.lim rm.dep (.cons p (.cons (show NoneV.p _ Value.none from rfl) .nil)) (fun cd s₁ F => ?_)
    (hbind := fun fd h1 h2 h3 h4 => binds_fmean1 D fd h2 h3 h4 _)
  have W₁ := W.ext F.ext0
  refine xs_if F (Et.cmp op_none_none (by walk_at "nm") Ev.cnone) (fun _ s₂ F => ?_) (fun z => by cases z)
  have W₂ := W.ext F.ext0
  refine xs_try fun E' => ?_
  refine xs_assign F (okE rfl) (.inr ⟨rfl, rfl⟩) (Ev.callB (by walk_at "nm") (Lv.cons (P := IntsV []) (by walk_at "nm") Lv.nil) (cb_len (by decide))) fun s₃ F => xs_nil ?_
  have W₃ := W.ext F.ext0
  refine xs_assign F (okE rfl) (.inl rfl) (Ev.callB (Ev.glob W₃.gc W₃.fsum rfl rfl rfl) (Lv.cons (P := IntsV []) (by walk_at "nm") Lv.nil) (cb_fsum (ns := []) rm.h rfl)) fun s₄ F => ?_
  refine xs_if F (Et.not (c := false) (Et.val (P := IntV 0) tr_int (by walk_at "nm"))) (fun _ s₅ F => ?_) (fun z => by cases z)
  exact xs_raise F (W.gc.ext F.ext0) (O.keeps F.ext0) FB rm.h fun h' e vs s₅ F hx => leave_fs F K hx fun h'' tk t x1 x2 => hR h'' tk e t x1 x2

end
end Mine
end

section
open PySem PySem.Calls PyProof.Rows
set_option maxRecDepth 100000
set_option linter.unusedVariables false
namespace Mine

section
variable {prog : Program} {w : World} {A : Around} {G : Heap} {env : Env} {mg mb : Str → Option Value} {T : Tab} {s₀ s : Shared} {hr : Heap} {M : List (Addr × List VP)} {Γ : List (Str × VP)}

/-- a def that raises its StatisticsError at an empty list -/
def Raiser (prog : Program) (w : World) (G : Heap) (C act : Addr) : Prop :=
  (∃ o fd, G.get? act = some o ∧ o.data = .func fd) ∧
  ∀ (A : Around) (base : Heap) (outer : List Env) (s : Shared) (v : Value) (R : Result → Shared → Prop), Room 1 A → Below A base outer s.heap → Ext G s.heap → (IntsV []).p (LV [] s.heap) v →
    (∀ h' tk e t, Heap.FlyingW base outer e (.ref C) (.ref t) h' → s.heap.UpToSlots h' → R (.error (.ref e)) { s with heap := h', toks := tk }) → codeAny (model prog w) A (.call (.ref act) ⟨[v], []⟩) R s

theorem refused {C act : Addr} {B newId initId : String} {bm : List Value} {base : Heap} {outer : List Env} {R : Result → Shared → Prop} (W : Wd mg mb T G) (O : OwnClsQ "StatisticsError" C bm newId mg G) (FB : ExcBaseFacts B newId initId bm) (rm : Room 2 A)
    (K : Below A base outer s.heap) (eb : Ext G base) (rs : Raiser prog w G C act)
    (hR : ∀ h' tk, base.StaysIn h' → s.heap.UpToSlots h' → R (.ok (.ret (.bool true))) { s with heap := h', toks := tk }) :
    codeAny (model prog w) A (.call (.ref T.refused) ⟨[.ref act], []⟩) R s := by
  have e : Ext G s.heap := fun b o q => K.stays b o (eb b o q)
  refine call_enterE ["act"] (W.refused.ext e) (W.gc.lim.keeps e) rm.dep (.cons (show (IsV (.ref act)).p _ (.ref act) from rfl) .nil) fun cd s₁ F => ?_
  obtain ⟨⟨oa, fda, ha1, ha2⟩, hact⟩ := rs
  refine wpAny_execs_cons (wpAny_Try_except ?_)
  refine wpAny_execs_cons (wpAny_Expr_any (Call_ (Sv.go (FS.ev F (x := "act") rfl rfl) F.old fun v s₂ p k => ?_)) (by rfl) (by rfl))
  obtain rfl : v = _ := p
  have F₂ := F.kp k
  refine callWith_def ha2 (Lv.go (Lv.cons (Ev.list (Ps := []) (Nat.zero_le _) Lv.nil) Lv.nil) F₂.old fun vs s₃ q k₃ => ⟨?_, ?_⟩) (by rfl)
  · exact (F₂.kp k₃).ext0 _ _ (e _ _ ha1)
  obtain _ | ⟨q, (_ | _)⟩ := q
  have F₃ := F₂.kp k₃
  refine wpAny_call (hact _ base (envK (scopeOf (stmtAt 16)) (nameOf (stmtAt 16) ++ ".<locals>.") s.heap.objs.size T.refused cd :: outer) s₃ _ _ (rm.deeper _) (F₃.below K rfl rfl) (e.trans F₃.ext0) q fun h₄ tk₄ x t hfl hsm => ?_)
  have K' := F₃.below K rfl rfl
  show wpAny _ _ (noteFrame (.ref x) _) _ _ _
  refine wpAny_looks_onW K'.stack rfl hfl fun h₅ hheld₅ hsm₅ => ?_
  refine wpAny_landsW hheld₅ fun h₆ hheld hsm₆ => ?_
  have ns₆ : h₆.Ns mainGlobals mg := (W.gc.g.keeps eb).keeps hheld.1
  refine handleBy_own FB.hasBase (Name_function_global (x := "StatisticsError") rfl rfl (loadGlobal_global ns₆ O.bound ⟨rfl, (O.keeps eb).keeps hheld.1, hheld.there, ?_⟩) (by decide))
  refine lands_againW hheld fun h₇ hfl₇ hsm₇ => ?_
  refine wpAny_execs_cons (wpAny_Return_some (wpAny_Constant_bool ?_))
  have up := (((Heap.UpToSlots.of_keeps F₃.ext0).trans hsm).trans (hsm₅.trans hsm₆)).trans hsm₇
  have := hR h₇ tk₄ hfl₇.1 up
  obtain ⟨h₃, t₃, r⟩ := F₃.same
  subst r
  exact this
end
end Mine
end

section
open PySem PySem.Calls PyProof.Rows
set_option maxRecDepth 100000
set_option linter.unusedVariables false
namespace Mine

/-- all stays but the frame at L, which stays a frame -/
def KF (L : Addr) (s s' : Shared) : Prop := ∃ h t, s' = { s with heap := h, toks := t } ∧ (∀ b o, b ≠ L → s.heap.get? b = some o → h.get? b = some o) ∧ ∀ m, s.heap.Ns L m → h.Ns L m
theorem KF.of_keeps {L : Addr} {s s' : Shared} (k : Keeps s s') : KF L s s' := by
  obtain ⟨h, t, rfl, e⟩ := k
  exact ⟨h, t, rfl, fun b o _ q => e b o q, fun m n => n.keeps e⟩
theorem KF.trans {L : Addr} {a b c : Shared} (x : KF L a b) (y : KF L b c) : KF L a c := by
  obtain ⟨h, t, rfl, e, n⟩ := x
  obtain ⟨h', t', rfl, e', n'⟩ := y
  exact ⟨h', t', rfl, fun b o hb q => e' b o hb (e b o hb q), fun m q => n' m (n m q)⟩

section
variable {prog : Program} {w : World} {A : Around} {h : Heap} {env : Env}

theorem comp_blockF {elt iter : Expr} {x : Str} {px : Pos} {scope : Scope} {pos : Pos} {Ps : List VP} {s₂ : Shared} {I L : Addr} {fp : List Addr} {P : Nat → Value → Prop} {St : Nat → Heap → Prop}
    {E : Value → Shared → Prop} {RR : Value → Addr → Result → Shared → Prop} (hsz : Ps.length ≤ 100)
    (hcell : ∀ y ∈ scope.names, y.2 ≠ .cell) (hkind : scope.kind = .function) (hx : scope.names.lookup x = some .local)
    (W : Walks prog w A I fp [I] Ps.length P St) (hst : St 0 s₂.heap) (hfp : ∀ b ∈ fp, ∃ o, s₂.heap.get? b = some o ∧ Still o)
    (hI : ∃ o, s₂.heap.get? I = some o) (hIL : I ≠ L) (hL : ∃ m, s₂.heap.Ns L m)
    (hP : ∀ (i : Nat) v Pi, P i v → Ps[i]? = some Pi → Pi.p (fun _ _ => False) v)
    (body : ∀ (i : Nat) Pi C (h₂ : Heap) tk E, Ps[i]? = some Pi → (∀ b o, b ≠ L → b ≠ I → s₂.heap.get? b = some o → h₂.get? b = some o) → (∃ m, h₂.Ns L m) → (∀ pos, Ev prog w A (compEnvC scope [] C env) [] h₂ (.Name x pos) Pi) →
      wpAny (model prog w) A (eval elt (compEnvC scope [] C env)) (fun v s' => v = .bool true ∧ KF L { s₂ with heap := h₂, toks := tk } s') E { s₂ with heap := h₂, toks := tk })
    (hd : (x == ("__debug__" : Str)) = false)
    (hRR : ∀ D C h' tk m', (∀ b o, b ≠ L → b ≠ I → s₂.heap.get? b = some o → h'.get? b = some o) → s₂.heap.get? D = none → s₂.heap.get? C = none → D ≠ C → h'.Ns C m' → (∃ m, h'.Ns L m) → C ≠ L →
      (∃ items, h'.PlainList D items ∧ items.toList = List.replicate Ps.length (.bool true)) → RR (.ref D) C (.ok .next) { s₂ with heap := h', toks := tk }) :
    wpAny (model prog w) A (newList []) (fun acc s₃ => wpAny (model prog w) A (newFunctionEnv scope env.globals [] [] env.qual none .none (some env)) (fun cenv s₄ =>
      codeAny (model prog w) A (.compStart (.ListComp elt [⟨.Name x px, iter, [], 0⟩] scope pos) 0 (.ref I) acc { cenv with scope := relabel scope env }) (RR acc cenv.locals) s₄) E s₃) E s₂ := by
  refine wpAny_newObj_type (wpAny_newFunctionEnv hcell (by intro y hy; simp at hy) (fun h₁ hns₁ hsb₁ => ?_) hkind)
  dsimp only at hns₁ hsb₁ ⊢
  generalize hH2 : s₂.heap.push { cls := .type "list", dict := none, data := .seq ([] : List Value).toArray } = H2 at hns₁ hsb₁ ⊢
  have hC : H2.objs.size = s₂.heap.objs.size + 1 := by rw [← hH2, Heap.size_push]
  have hDC : s₂.heap.objs.size ≠ H2.objs.size := by rw [hC]; exact Nat.ne_of_lt (Nat.lt_succ_self _)
  have below : ∀ b, b < s₂.heap.objs.size → b ≠ H2.objs.size ∧ b ≠ s₂.heap.objs.size := fun b hb => ⟨by rw [hC]; exact Nat.ne_of_lt (Nat.lt_succ_of_lt hb), Nat.ne_of_lt hb⟩
  have fplt : ∀ b ∈ fp, b < s₂.heap.objs.size := fun b hb => let ⟨o, e, _⟩ := hfp b hb; Heap.lt_size e
  obtain ⟨mL, hmL⟩ := hL
  have hLlt : L < s₂.heap.objs.size := by obtain ⟨o, _, _, e, _⟩ := hmL; exact Heap.lt_size e
  have fpL : ∀ b ∈ fp, b ≠ L := fun b hb z => by
    obtain ⟨o, e, st, _⟩ := hfp b hb
    obtain ⟨o', es, ep, e', d, _⟩ := hmL
    rw [z, e'] at e; cases e
    exact st _ _ d
  have hDf : s₂.heap.objs.size ∉ fp := fun hm => Nat.lt_irrefl _ (fplt _ hm)
  have hCf : H2.objs.size ∉ fp := fun hm => by have := fplt _ hm; rw [hC] at this; exact Nat.lt_irrefl _ (Nat.lt_of_succ_lt this)
  obtain ⟨oI, eI⟩ := hI
  have hIlt : I < s₂.heap.objs.size := Heap.lt_size eI
  have old : ∀ b o, s₂.heap.get? b = some o → h₁.get? b = some o := fun b o e => hsb₁.extBut b o (below b (Heap.lt_size e)).1 (Heap.get?_push_of_some _ (hH2 ▸ Heap.get?_push_of_some _ e))
  have hacc : h₁.PlainList s₂.heap.objs.size #[] := ⟨_, hsb₁.extBut _ _ hDC (Heap.get?_push_of_some _ (hH2 ▸ Heap.get?_push_size _ rfl))⟩
  have hst₁ : St 0 h₁ := W.frame _ _ _ hst fun b _ o e => old b o e
  have fresh : ∀ a, s₂.heap.objs.size ≤ a → s₂.heap.get? a = none := fun a ha => by
    cases e : s₂.heap.get? a with
    | none => rfl
    | some o' => exact absurd (Heap.lt_size e) (Nat.not_lt.mpr ha)
  have hCI : I ≠ H2.objs.size := (below I hIlt).1
  have hDI : I ≠ s₂.heap.objs.size := (below I hIlt).2
  have hCL : L ≠ H2.objs.size := (below L hLlt).1
  have hDL : L ≠ s₂.heap.objs.size := (below L hLlt).2
  have loop : ∀ s₃ : Shared, s₃ = { s₂ with heap := h₁, toks := s₂.toks + ([] : List (Str × Value)).length } →
      codeAny (model prog w) A (.compLoop (.ListComp elt [⟨.Name x px, iter, [], 0⟩] scope pos) 0 (.ref I) (.ref s₂.heap.objs.size) (compEnvC scope [] H2.objs.size env))
        (RR (.ref s₂.heap.objs.size) H2.objs.size) s₃ := by
    rintro s₃ rfl
    refine codeAny_compLoop_tests
      (fun k s' => ∃ h' tk i ys m', s' = { s₂ with heap := h', toks := tk } ∧ i ≤ Ps.length ∧ k = Ps.length + 1 - i ∧ St i h' ∧ h'.Ns H2.objs.size m' ∧ h'.PlainList s₂.heap.objs.size ys ∧ (∃ m, h'.Ns L m) ∧
        (∀ b o, b ≠ L → b ≠ I → s₂.heap.get? b = some o → h'.get? b = some o) ∧ ys.toList = List.replicate i (.bool true)) ?_ (Ps.length + 1)
      ⟨h₁, _, 0, #[], _, rfl, Nat.zero_le _, rfl, hst₁, hns₁, hacc, ⟨mL, hmL.keeps old⟩, fun b o _ _ e => old b o e, rfl⟩
    rintro k s' ⟨h', tk, i, ys, m', rfl, hi, rfl, hst', hn', hD', ⟨m₁, hn₁⟩, hk', hp'⟩
    by_cases hlt : i < Ps.length
    · refine W.item i _ _ _ hlt hst' fun v h₂ tk₂ hPv hst₂ hk₂ => ?_
      have hk₂' : ∀ b o, b ≠ I → h'.get? b = some o → h₂.get? b = some o := fun b o hb e => hk₂ b o (by simpa using hb) e
      have hPi : Ps[i]? = some Ps[i] := List.getElem?_eq_getElem hlt
      refine wpAny_assign_Name (wpAny_storeName_local (lookup_relabel_local hx) (hn'.at' fun o e => hk₂' _ o (Ne.symm hCI) e) (fun h₃ hn₃ hs₃ => ?_) (by simp [compEnvC, relabel, hkind]))
      have hst₃ : St (i + 1) h₃ := W.frame _ _ _ hst₂ fun b hb o e => hs₃.extBut b o (fun q => hCf (by have q' : b = H2.objs.size := q; rw [← q']; exact hb)) e
      have k₃ : ∀ b o, b ≠ L → b ≠ I → s₂.heap.get? b = some o → h₃.get? b = some o := fun b o hL hb e => hs₃.extBut b o (below b (Heap.lt_size e)).1 (hk₂' b o hb (hk' b o hL hb e))
      have hD₃ : h₃.PlainList s₂.heap.objs.size ys := hD'.at fun o e => hs₃.extBut _ o hDC (hk₂' _ o (Ne.symm hDI) e)
      have hL₃ : h₃.Ns L m₁ := hn₁.at' fun o e => hs₃.extBut _ o hCL (hk₂' _ o (Ne.symm hIL) e)
      have own : ∀ pos, Ev prog w A (compEnvC scope [] H2.objs.size env) [] h₃ (.Name x pos) Ps[i] := fun pos => Ev.name (fun s E e od => by
        refine wpAny_loadName_local (by simp [compEnvC, relabel, hkind]) (lookup_relabel_local hx) (hn₃.keeps e) (v := v) (by simp) ⟨?_, kpRefl s⟩
        exact Ps[i].mono (fun _ _ z => z.elim) (hP i v _ hPv hPi)) hd
      refine wpAny_tests_nil ?_
      rw [if_pos rfl]
      refine wpAny_mono (body i _ _ h₃ _ _ hPi k₃ ⟨m₁, hL₃⟩ own) (fun y s₅ ⟨hy, k₅⟩ => ?_) fun _ _ z => z
      subst hy
      obtain ⟨h₅, tk₅, rfl, e₅, n₅⟩ := k₅
      dsimp only at e₅ n₅
      have hst₅ : St (i + 1) h₅ := W.frame _ _ _ hst₃ fun b hb o e => e₅ b o (fpL b hb) e
      have hD₅ : h₅.PlainList s₂.heap.objs.size ys := hD₃.at fun o e => e₅ _ o (Ne.symm hDL) e
      have hl : ys.size = i := by rw [← Array.length_toList, hp', List.length_replicate]
      have hn₅ := hn₃.at' (h' := h₅) fun o e => e₅ _ o (Ne.symm hCL) e
      refine wpAny_list_append_plain hD₅ (hsz := by rw [hl]; exact Nat.le_trans hi (Nat.le_trans hsz (by decide))) fun h₆ hD₆ hs₆ => ?_
      refine ⟨Ps.length + 1 - (i + 1), by omega, h₆, tk₅, i + 1, ys.push (.bool true), _, rfl, hlt, rfl, W.frame _ _ _ hst₅ fun b hb o e => hs₆.extBut b o (fun z => hDf (z ▸ hb)) e, hn₅.sameBut hs₆ (Ne.symm hDC), hD₆, ⟨m₁, (n₅ _ hL₃).sameBut hs₆ hDL⟩, ?_, ?_⟩
      · exact fun b o hL hb e => hs₆.extBut b o (below b (Heap.lt_size e)).2 (e₅ _ _ hL (k₃ b o hL hb e))
      · rw [Array.toList_push, hp', List.replicate_succ']
    · obtain rfl : i = Ps.length := Nat.le_antisymm hi (Nat.not_lt.mp hlt)
      refine W.done _ _ _ hst' fun h₂ tk₂ hk₂ => ?_
      have hk₂' : ∀ b o, b ≠ I → h'.get? b = some o → h₂.get? b = some o := fun b o hb e => hk₂ b o (by simpa using hb) e
      exact hRR _ _ h₂ tk₂ _ (fun b o hL hb e => hk₂' b o hb (hk' b o hL hb e)) (fresh _ (Nat.le_refl _)) (fresh _ (by rw [hC]; exact Nat.le_succ _)) hDC (hn'.at' fun o e => hk₂' _ o (Ne.symm hCI) e) ⟨m₁, hn₁.at' fun o e => hk₂' _ o (Ne.symm hIL) e⟩ (Ne.symm hCL) ⟨ys, hD'.at fun o e => hk₂' _ o (Ne.symm hDI) e, hp'⟩
  exact codeAny_compStart_list (loop _ rfl) (W.self 0 _ _ _ hst₁ (loop _ rfl))
end
end Mine
end

section
open PySem PySem.Calls PyProof.Rows PySem.W
set_option maxRecDepth 100000
set_option linter.unusedVariables false
namespace Mine

local macro_rules | `(tactic| walk_at "nm") => `(tactic| first
  | exact FS.ev (by with_reducible assumption) rfl rfl
  | exact Wd.built (by with_reducible assumption) (by decide) (by first | exact boot_len | exact boot_sorted | exact boot_range | exact boot_max | exact boot_min | exact boot_sum | exact boot_list | exact boot_isinstance | exact boot_float | exact boot_tuple) rfl rfl rfl rfl)
local macro_rules | `(tactic| walk_at "sub") => `(tactic| repeat (first | exact List.forall_mem_nil _ | refine List.forall_mem_cons.mpr ⟨rfl, ?_⟩))
local macro_rules | `(tactic| walk_at "sto") => `(tactic| repeat (first | exact List.forall_mem_nil _ | refine List.forall_mem_cons.mpr ⟨by first | exact Or.inl rfl | exact Or.inr ⟨rfl, rfl⟩, ?_⟩))

section
variable {prog : Program} {w : World} {A : Around} {G : Heap} {env : Env} {mg mb : Str → Option Value} {T : Tab} {s₀ s : Shared} {hr : Heap} {M : List (Addr × List VP)} {Γ : List (Str × VP)}

theorem comp_acts {elt iter : Expr} {x : Str} {px : Pos} {scope : Scope} {pos : Pos} {acts : List Addr} {E : Value → Shared → Prop} (F : FS env s₀ [] hr s Γ) (hh : A.handled = none) (hsz : acts.length ≤ 100)
    (src : Ev prog w A env [] s.heap iter (ListV (acts.map fun a => IsV (.ref a))))
    (body : ∀ a ∈ acts, ∀ C (h₂ : Heap) tk E, (∀ b o, b ≠ env.locals → s.heap.get? b = some o → h₂.get? b = some o) → (∃ m, h₂.Ns env.locals m) → (∀ pos, Ev prog w A (compEnvC scope [] C env) [] h₂ (.Name x pos) (IsV (.ref a))) →
      wpAny (model prog w) A (eval elt (compEnvC scope [] C env)) (fun v s' => v = .bool true ∧ KF env.locals { s with heap := h₂, toks := tk } s') E { s with heap := h₂, toks := tk })
    (hclos : closureFor scope env = pure [] := by rfl) (hcell : ∀ y ∈ scope.names, y.2 ≠ .cell := by decide +kernel) (hkind : scope.kind = .function := by rfl) (hnames : ∀ y ∈ scope.names, y.2 = .local → scope.names.lookup y.1 = some .local := by decide +kernel) (hx : scope.names.lookup x = some .local := by rfl)
    (hs' : ∀ x, foldedSetIterable iter env x = pure x := by intro _; rfl) (hd : (x == ("__debug__" : Str)) = false := by decide) :
    wpAny (model prog w) A (eval (.ListComp elt [⟨.Name x px, iter, [], 0⟩] scope pos) env) (fun v s' => ∃ D items, v = .ref D ∧ s'.heap.IsList D items ∧ items.toList = List.replicate acts.length (.bool true) ∧ ∃ h t, s' = { s with heap := h, toks := t } ∧ ∀ b o, b ≠ env.locals → s.heap.get? b = some o → h.get? b = some o) E s := by
  rw [eval_ListComp]
  refine wpAny_comprehension_free (use := Option.none) rfl hs' hclos hkind hnames (Sv.go src F.old fun v s₁ p k₁ => ?_)
  obtain ⟨b, items, rfl, L, q⟩ := p
  have hlt : b < s₁.heap.objs.size := by obtain ⟨_, e, _⟩ := L.2; exact Heap.lt_size e
  have hnn : (acts.map fun a => IsV (.ref a)).length = items.size := by rw [q.length, Array.length_toList]
  have F₁ := F.kp k₁
  obtain ⟨m₁, cm₁, I₁, _⟩ := F₁.inn
  refine wpAny_pyIter_list L.2 ?_
  have hI0 : s.heap.get? s₁.heap.objs.size = none := by
    cases e : s.heap.get? s₁.heap.objs.size with
    | none => rfl
    | some o => exact absurd (Heap.lt_size (kpExt k₁ _ _ e)) (Nat.lt_irrefl _)
  have k2 : Ext s.heap (s₁.heap.push { cls := .type "list_iterator", data := .fields #[.ref b, .int 0 0] }) := (kpExt k₁).trans (Ext.push _ _)
  obtain ⟨h₁, t₁, r₁, _⟩ := id k₁
  refine comp_blockF (L := env.locals) (Ps := acts.map fun a => IsV (.ref a)) (RR := fun acc C => compPost (model prog w) A E Option.none _ acc C) (by rw [List.length_map]; exact hsz) hcell hkind hx
    (fp := [s₁.heap.objs.size, b]) (P := fun i v => items[i]? = some v) (St := fun i h => h.IsListIter s₁.heap.objs.size b i ∧ h.IsList b items) (hnn ▸ Walks.list hh _ b (Nat.ne_of_lt hlt) items)
    ⟨⟨_, Heap.get?_push_size _ rfl, rfl, rfl⟩, (LV.ext (Ext.push _ _) _ _ L).2⟩ ?_ ⟨_, Heap.get?_push_size _ rfl⟩ ?_ ⟨m₁, I₁.toInCall.ns.keeps (Ext.push _ _)⟩ ?_ ?_ hd ?_
  · intro c hb
    rcases List.mem_cons.mp hb with rfl | hb
    · exact ⟨_, Heap.get?_push_size _ rfl, (fun _ _ z => by cases z), fun _ z => by cases z⟩
    · rw [List.mem_singleton.mp hb]
      obtain ⟨o, eo, c, n, d⟩ := L.2
      exact ⟨o, Ext.push _ _ _ _ eo, (fun _ _ z => by rw [d] at z; cases z), fun _ z => by rw [d] at z; cases z⟩
  · intro z
    obtain ⟨o, _, _, e, _⟩ := I₁.toInCall.ns
    exact Nat.lt_irrefl _ (z ▸ Heap.lt_size e : s₁.heap.objs.size < s₁.heap.objs.size)
  · intro i v Pi hv hPi
    obtain ⟨u, e1, e2⟩ := Paired.get q i hPi
    rw [Array.getElem?_toList, hv] at e1
    cases e1
    rw [List.getElem?_map] at hPi
    cases ha : acts[i]? with
    | none => rw [ha] at hPi; cases hPi
    | some a => rw [ha] at hPi; cases hPi; exact e2
  · intro i Pi C h₂ tk E' hPi kept hL own
    rw [List.getElem?_map] at hPi
    cases ha : acts[i]? with
    | none => rw [ha] at hPi; cases hPi
    | some a =>
      rw [ha] at hPi; cases hPi
      subst r₁
      exact body a (List.mem_of_getElem? ha) C h₂ tk E' (fun c o hc e => kept c o hc (fun z => by rw [z, hI0] at e; cases e) (k2 _ _ e)) hL own
  · intro D C h' tk m' kept hD hC hDC hn ⟨mL, hmL⟩ hCL ⟨its, hpl, hp⟩
    refine ⟨m', hn, fun h'' hs'' => ?_⟩
    rw [List.length_map] at hp
    refine ⟨D, its, rfl, (hpl.at fun o e => hs''.extBut D o hDC e).isList, hp, h'', tk, by rw [r₁], fun c o hc q => ?_⟩
    have hcC : c ≠ C := fun z => by have := k2 _ _ q; rw [z] at this; rw [this] at hC; cases hC
    exact hs''.extBut c o hcC (kept c o hc (fun z => by rw [z, hI0] at q; cases q) (k2 _ _ q))

def rowsOf (script : List Int) : List (List Int) := [script.take 4, [0, 5, 4], [10, 15], [6, 7]]
def lowOf (bs : List Book) (i : Nat) : Nat := (sumsL (bs.take i)).length
def highOf (bs : List Book) (i : Nat) : Option Nat := if i + 1 < bs.length then some (lowOf bs (i + 1)) else none
def lawEnv (L a : Addr) (cd : Value) : Env := envOf "law" (scopeOf (stmtAt 17)) L a cd

theorem raiser_median {C : Addr} {B newId initId : String} {bm : List Value} (W : Wd mg mb T G) (O : OwnClsQ "StatisticsError" C bm newId mg G) (FB : ExcBaseFacts B newId initId bm) : Raiser prog w G C T.median :=
  ⟨let ⟨o, fd, h1, h2, _⟩ := W.median.ex; ⟨o, fd, h1, h2⟩, fun A base outer s v R rm K e p hR => median_raises (W.ext e) (O.keeps e) FB rm K p hR⟩
theorem raiser_low {C : Addr} {B newId initId : String} {bm : List Value} (W : Wd mg mb T G) (O : OwnClsQ "StatisticsError" C bm newId mg G) (FB : ExcBaseFacts B newId initId bm) : Raiser prog w G C T.medianLow :=
  ⟨let ⟨o, fd, h1, h2, _⟩ := W.medianLow.ex; ⟨o, fd, h1, h2⟩, fun A base outer s v R rm K e p hR => medianLow_raises (W.ext e) (O.keeps e) FB rm K p hR⟩
theorem raiser_high {C : Addr} {B newId initId : String} {bm : List Value} (W : Wd mg mb T G) (O : OwnClsQ "StatisticsError" C bm newId mg G) (FB : ExcBaseFacts B newId initId bm) : Raiser prog w G C T.medianHigh :=
  ⟨let ⟨o, fd, h1, h2, _⟩ := W.medianHigh.ex; ⟨o, fd, h1, h2⟩, fun A base outer s v R rm K e p hR => medianHigh_raises (W.ext e) (O.keeps e) FB rm K p hR⟩
theorem raiser_fmean {C : Addr} {B newId initId : String} {bm : List Value} (Z : Wz mg mb T G) (O : OwnClsQ "StatisticsError" C bm newId mg G) (FB : ExcBaseFacts B newId initId bm) : Raiser prog w G C T.fmean := by
  obtain ⟨d, X, D⟩ := Z.f
  exact ⟨let ⟨o, fd, h1, h2, _⟩ := X.ex; ⟨o, fd, h1, h2⟩, fun A base outer s v R rm K e p hR => fmean_raises (X.ext e) (D.ext e) (Z.w.ext e) (O.keeps e) FB rm K p hR⟩

set_option maxHeartbeats 4000000 in
theorem law_walk {A₀ : Around} {L a : Addr} {cd : Value} {C : Addr} {B newId initId : String} {bm : List Value} {Q : Flow → Shared → Prop} {E : Value → Shared → Prop} (Z : Wz mg mb T s₀.heap) (O : OwnClsQ "StatisticsError" C bm newId mg s₀.heap) (FB : ExcBaseFacts B newId initId bm) (rm : Room 4 (A₀.deeper (lawEnv L a cd)))
    (hfr : A₀.frames = some []) (script : List Int) (hsl : script.length ≤ 1000) (F : FS (lawEnv L a cd) s₀ [] s.heap s [("script", IntsV script)])
    (hbl : (booksL (rowsOf script)).length ≤ 100) (hbc : ∀ b ∈ booksL (rowsOf script), b.counts.length ≤ 100)
    (PL : ∀ i b, (booksL (rowsOf script))[i]? = some b → ToldOk b.ways b.counts b.sure b.most b.mean (sumsL (booksL (rowsOf script))) (pairsL (booksL (rowsOf script))) (lowOf (booksL (rowsOf script)) i) (highOf (booksL (rowsOf script)) i))
    (hQ : ∀ h tk, (∀ b o, b ≠ L → s.heap.get? b = some o → h.get? b = some o) → (∀ b o, s₀.heap.get? b = some o → h.get? b = some o) → Q (.ret (.bool true)) { s₀ with heap := h, toks := tk }) :
    wpAny (model prog w) (A₀.deeper (lawEnv L a cd)) (execs (bodyOf (stmtAt 17)) (lawEnv L a cd)) Q E s := by
  have ok : EnvOk (lawEnv L a cd) [] := ⟨rfl, by simp, by simp⟩
  have hz : sizeLine = 2 ^ 24 := rfl
  generalize hbs : booksL (rowsOf script) = bs at hbl hbc PL
  have W := Z.w.ext F.ext0
  have hrow : ∀ r ∈ rowsOf script, r.length ≤ 4 := by
    intro r hr'
    simp only [rowsOf, List.mem_cons, List.not_mem_nil, or_false] at hr'
    rcases hr' with rfl | rfl | rfl | rfl
    · rw [List.length_take]; omega
    all_goals decide
  refine xs_assign F ok (.inl rfl) (Ev.callF (Ev.glob W.gc W.nBooks rfl rfl rfl) (Lv.cons (Ev.list (Ps := (rowsOf script).map IntsV) (Nat.le_of_ble_eq_true rfl)
    (Lv.cons (Sv.cast (Q := IntsV (script.take 4)) (Ev.sliceI (by exact FS.ev F rfl rfl) (by omega) EvPart.none (EvPart.some Ev.cint)) (by rw [pick_four]))
    (Lv.cons (Ev.list (Ps := [IntV 0, IntV 5, IntV 4]) (Nat.le_of_ble_eq_true rfl) (Lv.cons Ev.cint (Lv.cons Ev.cint (Lv.cons Ev.cint Lv.nil))))
    (Lv.cons (Ev.list (Ps := [IntV 10, IntV 15]) (Nat.le_of_ble_eq_true rfl) (Lv.cons Ev.cint (Lv.cons Ev.cint Lv.nil)))
    (Lv.cons (Ev.list (Ps := [IntV 6, IntV 7]) (Nat.le_of_ble_eq_true rfl) (Lv.cons Ev.cint (Lv.cons Ev.cint Lv.nil))) Lv.nil))))) Lv.nil) (books W (rm.less (by decide)) (rowsOf script) (by show 4 ≤ 4; decide) hrow)) fun s₂ F => ?_
  rw [hbs] at F
  have W₂ := Z.w.ext F.ext0
  refine xs_unpack (names := ["sums", "pairs", "begins"]) F ok rm.h (Ev.callF (Ev.glob W₂.gc W₂.nLaid rfl rfl rfl) (Lv.cons (by exact FS.ev F rfl rfl) Lv.nil) (laid W₂ (rm.less (by decide)) bs hbl hbc)) (by walk_at "sto") (.cons storesTo_assign (.cons storesTo_assign (.cons storesTo_assign .nil))) fun s₃ F => ?_
  let Γ : Nat → List (Str × VP) := fun i => [("books", ListV (bs.map Book.V)), ("sums", IntsV (sumsL bs)), ("pairs", PairsV (pairsL bs)), ("begins", ListV ((begL bs bs.length).map IntV ++ [NoneV]))]
  have F := F.pick (Γ 0) (by walk_at "sub")
  have W₃ := Z.w.ext F.ext0
  have hlr : ((rangeL 0 bs.length).map IntV).length = bs.length := by rw [List.length_map, rangeL_len]
  have hlow : ∀ i, i < bs.length → ((begL bs bs.length).map IntV ++ [NoneV])[i]? = some (IntV (lowOf bs i : Int)) := fun i hi => by
    rw [List.getElem?_append_left (by rw [List.length_map, begL_len]; exact hi), List.getElem?_map]
    simp [begL, hi, lowOf]
  have hhigh : ∀ i, i < bs.length → ((begL bs bs.length).map IntV ++ [NoneV])[i + 1]? = some (HiV (highOf bs i)) := fun i hi => by
    unfold highOf
    by_cases h1 : i + 1 < bs.length
    · rw [if_pos h1]; exact hlow _ h1
    · rw [if_neg h1, show i + 1 = ((begL bs bs.length).map IntV).length by rw [List.length_map, begL_len]; omega, List.getElem?_concat_length]; rfl
  refine xs_for Γ (fun _ => []) F ok (fun _ => rfl) (src_rangeL rm.h (range1 (n := bs.length) (by walk_at "nm") (Sv.cast (Q := IntV (bs.length : Int)) (Ev.callB (by walk_at "nm") (Lv.cons (by exact FS.ev F rfl rfl) Lv.nil) (cb_len (by rw [List.length_map]; omega))) (by rw [List.length_map])) (by omega))) (.inl rfl) (fun i Pi s₄ hr' E' hPi F => ?_) (fun s₄ F => ?_)
  · obtain ⟨rfl, hm⟩ := at_map hPi
    have hi : i < bs.length := by
      obtain ⟨h, _⟩ := List.getElem?_eq_some_iff.mp hPi
      rw [hlr] at h; exact h
    have hkk : (rangeL 0 bs.length).getD i 0 = (i : Int) := by simp [rangeL, List.getD_eq_getElem?_getD, hi]
    rw [hkk] at F
    have hb : bs[i]? = some bs[i] := List.getElem?_eq_getElem hi
    have Z₄ := Z.ext F.ext0
    have W₄ := Z₄.w
    refine xs_if_skip F (Tv.cast (c := false) (Et.not (Et.val (tr_bool true) (Ev.callF (Ev.glob W₄.gc W₄.nTold rfl rfl rfl) (Ps := [bs[i].V, IntsV (sumsL bs), PairsV (pairsL bs), IntV (lowOf bs i : Int), HiV (highOf bs i)]) ?_ (told Z₄ (rm.less (by decide)) (PL i _ hb))))) rfl) fun s₅ F => xs_nil ⟨rfl, FS.pick F _ (by walk_at "sub")⟩
    refine Lv.cons ?_ (Lv.cons ?_ (Lv.cons ?_ (Lv.cons ?_ (Lv.cons ?_ Lv.nil))))
    · refine Ev.item (Ps := bs.map Book.V) (k := (i : Int)) ?_ ?_ (by omega) (by omega) (by rw [Int.toNat_natCast, List.getElem?_map, hb]; rfl)
      · exact FS.ev F rfl rfl
      · exact FS.ev F rfl rfl
    · exact FS.ev F rfl rfl
    · exact FS.ev F rfl rfl
    · refine Ev.item (Ps := (begL bs bs.length).map IntV ++ [NoneV]) (k := (i : Int)) ?_ ?_ (by omega) (by omega) (by rw [Int.toNat_natCast]; exact hlow i hi)
      · exact FS.ev F rfl rfl
      · exact FS.ev F rfl rfl
    · refine Ev.item (Ps := (begL bs bs.length).map IntV ++ [NoneV]) (k := (i : Int) + 1) ?_ ?_ (by omega) (by omega) (by rw [show ((i : Int) + 1).toNat = i + 1 by omega]; exact hhigh i hi)
      · exact FS.ev F rfl rfl
      · exact Ev.bin op_add (by exact FS.ev F rfl rfl) Ev.cint
  · have W₄ := Z.w.ext F.ext0
    obtain ⟨m₄, cm₄, I₄, _⟩ := F.inn
    have hLnew : s₀.heap.get? L = none := by
      cases e : s₀.heap.get? L with
      | none => rfl
      | some o => exact absurd (Nat.lt_of_lt_of_le (Heap.lt_size e) I₄.toInCall.fresh) (Nat.lt_irrefl _)
    have hrs : ∀ act ∈ [T.median, T.medianLow, T.medianHigh, T.fmean], Raiser prog w s₀.heap C act := by
      intro act ha
      simp only [List.mem_cons, List.not_mem_nil, or_false] at ha
      rcases ha with rfl | rfl | rfl | rfl
      · exact raiser_median Z.w O FB
      · exact raiser_low Z.w O FB
      · exact raiser_high Z.w O FB
      · exact raiser_fmean Z O FB
    refine wpAny_execs_cons (wpAny_Return_some (wpAny_Compare1 (wpAny_Constant_bool (wpAny_mono (comp_acts F rm.h (acts := [T.median, T.medianLow, T.medianHigh, T.fmean]) (by exact Nat.le_of_ble_eq_true rfl)
      (Ev.list (Ps := [IsV (.ref T.median), IsV (.ref T.medianLow), IsV (.ref T.medianHigh), IsV (.ref T.fmean)]) (Nat.le_of_ble_eq_true rfl) (Lv.cons (Ev.glob W₄.gc W₄.nMedian rfl rfl rfl) (Lv.cons (Ev.glob W₄.gc W₄.nLow rfl rfl rfl) (Lv.cons (Ev.glob W₄.gc W₄.nHigh rfl rfl rfl) (Lv.cons (Ev.glob W₄.gc W₄.nFmean rfl rfl rfl) Lv.nil)))))
      fun act hact D h₂ tk₂ E₂ kept hL own => ?_) (fun v s₅ ⟨D, items, e1, hD, hits, h₅, tk₅, e5, k₅⟩ => ?_) fun _ _ z => z)) (by with_unfolding_all rfl)))
    · have ek : Ext s₀.heap h₂ := fun b o q => kept b o (fun z => by have z' : b = L := z; rw [z', hLnew] at q; cases q) (F.ext0 b o q)
      have W₅ := Z.w.ext ek
      refine Call_ (Name_function_global rfl rfl (loadGlobal_global W₅.gc.g W₅.nRefused ?_) (by decide))
      obtain ⟨o, fd, ho, hdat, _⟩ := Z.w.refused.ex
      refine callWith_def hdat (Lv.go (Lv.cons (own _) Lv.nil) (Old.nil _) fun vs s₆ q k₆ => ⟨?_, ?_⟩) (by rfl)
      · exact kpExt k₆ _ _ (ek _ _ ho)
      obtain _ | ⟨q, (_ | _)⟩ := q
      obtain rfl := q
      have e₆ := kpExt k₆
      obtain ⟨m₂, hm₂⟩ := hL
      have hfr' : (A₀.deeper (lawEnv L a cd)).frames = some [lawEnv L a cd] := Around.frames_deeper hfr
      have K : Below (A₀.deeper (lawEnv L a cd)) (hideAll s₆.heap [L]) [lawEnv L a cd] s₆.heap :=
        ⟨hfr', fun b o q => of_hideAll _ q, .cons (by show ScopeKind.function ≠ ScopeKind.module; decide) rfl (hm₂.keeps e₆) (hideAll_none _ (.head _)) trivial⟩
      refine wpAny_call (refused Z.w O FB (rm.less (by decide)) K (fun b o q => hideAll_get _ (e₆ _ _ (ek b o q)) fun z => ?_) (hrs act hact) fun h₇ tk₇ st up => ⟨rfl, ?_⟩)
      · rw [List.mem_singleton.mp z, hLnew] at q; cases q
      · obtain ⟨h₆, t₆, r₆, _⟩ := id k₆
        subst r₆
        refine ⟨h₇, tk₇, rfl, fun b o hb q => st b o (hideAll_get _ (e₆ _ _ q) fun z => hb (List.mem_singleton.mp z)), fun m hm => up.ns (hm.keeps e₆)⟩
    · subst e1
      obtain ⟨h₀, t₀, r₀⟩ := F.same
      refine PySem.SeqAt.notIn_listAt (items := items) (fun _ => false) hD (fun y hy => ?_) ?_
      · have : y ∈ List.replicate 4 (Value.bool true) := by
          have := Array.mem_toList_iff.mpr hy
          rw [hits] at this; exact this
        rw [List.eq_of_mem_replicate this]
        exact PySem.SeqAt.EqAt.bool_bool true false
      · have hany : (!items.any fun _ => false) = true := by simp
        rw [hany]
        subst e5 r₀
        refine hQ h₅ tk₅ (fun b o hb q => k₅ b o hb ?_) fun b o q => k₅ b o (fun z => by have z' : b = L := z; rw [z', hLnew] at q; cases q) (F.ext0 b o q)
        exact F.stays b o hb (by simp [lawEnv, envOf]) (by simp) q
end
end Mine
end

section
open PySem
set_option maxRecDepth 100000
namespace Mine

structure St where
  c : List Int
  sure : Nat
  most : Nat
  mean : Int
def newC (c : List Int) (size red : Nat) : List Int := (rangeL 0 (c.length + 1)).map fun k => ((size - red : Nat) : Int) * (c ++ [0]).getD k.toNat 0 + (red : Int) * ([0] ++ c).getD k.toNat 0
def newS (s : St) (k : Nat × Nat) : St := ⟨newC s.c k.1 k.2, s.sure + (if k.2 = k.1 then 1 else 0), s.most + (if 0 < k.2 then 1 else 0), s.mean + (12 * (k.2 : Int)).fdiv k.1⟩
def st0 : St := ⟨[1], 0, 0, 0⟩
def expand (c : List Int) : List Int := (List.range c.length).flatMap fun k => List.replicate (c.getD k 0).toNat ((k : Int) - 2)
def locF (c : List Int) (sure most : Nat) : Nat := bsr (fun i => decide (falls (pairL c) i < 0)) sure most
def locL (c : List Int) (sure most : Nat) : Nat := bsr (fun i => !decide (0 < falls (pairL c) i)) sure most
def locLeft (a : List Int) (t : Int) : Nat := bsr (fun i => decide (a.getD i 0 < t)) 0 a.length
def locRight (a : List Int) (t : Int) : Nat := bsr (fun i => !decide (t < a.getD i 0)) 0 a.length
def lowM (sw : List Int) : Int := if sw.length % 2 = 1 then sw.getD (sw.length / 2) 0 else sw.getD (sw.length / 2 - 1) 0
def sizesL : List Nat := [1, 2, 3, 4, 6, 8, 9, 12, 16, 18, 24, 27, 32, 36]
def chkA (c : List Int) (sure most : Nat) (mean : Int) (sw a : List Int) (f l : Nat) : Bool :=
  decide (sw.length ∈ sizesL) && c.all (fun x => decide (0 ≤ x)) && decide (0 < c.length) && decide (c.length ≤ 5) && decide (most ≤ c.length) && decide (sure ≤ most) && decide ((sw.length : Int) = c.sum)
  && nearL [lowM sw + 2, sw.getD (sw.length / 2) 0 + 2] [(f : Int), (l : Int)] mean ((c.length : Int) - 1)
  && decide ((rangeL 0 c.length).filter (fun k => c.getD k.toNat 0 == lmax c) = rangeL (f : Int) ((l : Int) + 1 - (f : Int)).toNat)
  && decide ((rangeL 0 (sw.length + 1)).map (fun t => (locLeft a (t + 1) : Int)) = sw.map (· + 2) ++ [(c.length : Int)])
  && decide ((rangeL 0 (sw.length + 1)).map (fun t => (locRight a t : Int)) = sw.map (· + 2) ++ [(c.length : Int)])
  && decide ([lowM sw + 2, sw.getD (sw.length / 2) 0 + 2] = [(locLeft a (((sw.length + 1) / 2 : Nat) : Int) : Int), (locRight a ((sw.length / 2 : Nat) : Int) : Int)])
  && decide (-24 ≤ mean - 24 ∧ mean - 24 ≤ 24) && decide (4 * (3 * sw.sum) = (mean - 24) * (sw.length : Int)) && decide (spSum ((othersL c).zip (weightsL c)) = 3 * sw.sum) && spOk 0 ((othersL c).zip (weightsL c))
  && (if sw.length % 2 = 1 then true else true)
def chk (s : St) : Bool := chkA s.c s.sure s.most s.mean (expand s.c) (accL 0 s.c) (locF s.c s.sure s.most) (locL s.c s.sure s.most)
end Mine
end

section
open PySem
set_option maxRecDepth 100000
set_option linter.unusedVariables false
namespace Mine
def kt : List (Nat × Nat) := [(1,0),(1,1),(2,0),(2,1),(2,2),(3,0),(3,1),(3,2),(3,3),(4,0),(4,1),(4,2),(4,3),(4,4)]
abbrev kd (j : Nat) : Nat × Nat := kt.getD j (1, 0)
def enumOk : Nat → Nat → Nat → St → Bool
  | 0, _, _, s => chk s
  | d + 1, i, p, s => chk s && (List.range 14).all fun j => decide (j < i) || decide (36 < p * (kd j).1) || enumOk d j (p * (kd j).1) (newS s (kd j))
theorem enum_intro {d i p : Nat} {s : St} (h : chk s = true) (k : ∀ j, j < 14 → i ≤ j → p * (kd j).1 ≤ 36 → enumOk d j (p * (kd j).1) (newS s (kd j)) = true) : enumOk (d + 1) i p s = true := by
  simp only [enumOk, Bool.and_eq_true, h, true_and, List.all_eq_true, List.mem_range, Bool.or_eq_true, decide_eq_true_eq]
  intro j hj
  by_cases h1 : j < i
  · exact .inl (.inl h1)
  by_cases h2 : 36 < p * (kd j).1
  · exact .inl (.inr h2)
  · exact .inr (k j hj (Nat.not_lt.mp h1) (Nat.not_lt.mp h2))
theorem enum_chk {d i p : Nat} {s : St} (h : enumOk d i p s = true) : chk s = true := by
  cases d with
  | zero => exact h
  | succ d => simp only [enumOk, Bool.and_eq_true] at h; exact h.1
theorem enum_kid {d i p j : Nat} {s : St} (h : enumOk (d + 1) i p s = true) (hj : j < 14) (hi : i ≤ j) (hp : p * (kd j).1 ≤ 36) : enumOk d j (p * (kd j).1) (newS s (kd j)) = true := by
  simp only [enumOk, Bool.and_eq_true, List.all_eq_true, List.mem_range, Bool.or_eq_true, decide_eq_true_eq] at h
  rcases h.2 j hj with (h | h) | h
  · omega
  · omega
  · exact h
theorem e0_0_0 : enumOk 1 0 (((1 * (kd 0).1) * (kd 0).1) * (kd 0).1) (newS (newS (newS st0 (kd 0)) (kd 0)) (kd 0)) = true := by decide +kernel
theorem e0_0_1 : enumOk 1 1 (((1 * (kd 0).1) * (kd 0).1) * (kd 1).1) (newS (newS (newS st0 (kd 0)) (kd 0)) (kd 1)) = true := by decide +kernel
theorem e0_0_2 : enumOk 1 2 (((1 * (kd 0).1) * (kd 0).1) * (kd 2).1) (newS (newS (newS st0 (kd 0)) (kd 0)) (kd 2)) = true := by decide +kernel
theorem e0_0_3 : enumOk 1 3 (((1 * (kd 0).1) * (kd 0).1) * (kd 3).1) (newS (newS (newS st0 (kd 0)) (kd 0)) (kd 3)) = true := by decide +kernel
theorem e0_0_4 : enumOk 1 4 (((1 * (kd 0).1) * (kd 0).1) * (kd 4).1) (newS (newS (newS st0 (kd 0)) (kd 0)) (kd 4)) = true := by decide +kernel
theorem e0_0_5 : enumOk 1 5 (((1 * (kd 0).1) * (kd 0).1) * (kd 5).1) (newS (newS (newS st0 (kd 0)) (kd 0)) (kd 5)) = true := by decide +kernel
theorem e0_0_6 : enumOk 1 6 (((1 * (kd 0).1) * (kd 0).1) * (kd 6).1) (newS (newS (newS st0 (kd 0)) (kd 0)) (kd 6)) = true := by decide +kernel
theorem e0_0_7 : enumOk 1 7 (((1 * (kd 0).1) * (kd 0).1) * (kd 7).1) (newS (newS (newS st0 (kd 0)) (kd 0)) (kd 7)) = true := by decide +kernel
theorem e0_0_8 : enumOk 1 8 (((1 * (kd 0).1) * (kd 0).1) * (kd 8).1) (newS (newS (newS st0 (kd 0)) (kd 0)) (kd 8)) = true := by decide +kernel
theorem e0_0_9 : enumOk 1 9 (((1 * (kd 0).1) * (kd 0).1) * (kd 9).1) (newS (newS (newS st0 (kd 0)) (kd 0)) (kd 9)) = true := by decide +kernel
theorem e0_0_10 : enumOk 1 10 (((1 * (kd 0).1) * (kd 0).1) * (kd 10).1) (newS (newS (newS st0 (kd 0)) (kd 0)) (kd 10)) = true := by decide +kernel
theorem e0_0_11 : enumOk 1 11 (((1 * (kd 0).1) * (kd 0).1) * (kd 11).1) (newS (newS (newS st0 (kd 0)) (kd 0)) (kd 11)) = true := by decide +kernel
theorem e0_0_12 : enumOk 1 12 (((1 * (kd 0).1) * (kd 0).1) * (kd 12).1) (newS (newS (newS st0 (kd 0)) (kd 0)) (kd 12)) = true := by decide +kernel
theorem e0_0_13 : enumOk 1 13 (((1 * (kd 0).1) * (kd 0).1) * (kd 13).1) (newS (newS (newS st0 (kd 0)) (kd 0)) (kd 13)) = true := by decide +kernel
theorem e0_0c : chk (newS (newS st0 (kd 0)) (kd 0)) = true := by decide +kernel
theorem e0_0 : enumOk 2 0 ((1 * (kd 0).1) * (kd 0).1) (newS (newS st0 (kd 0)) (kd 0)) = true := enum_intro e0_0c fun j hj hi hp => by
  have : j = 0 ∨ j = 1 ∨ j = 2 ∨ j = 3 ∨ j = 4 ∨ j = 5 ∨ j = 6 ∨ j = 7 ∨ j = 8 ∨ j = 9 ∨ j = 10 ∨ j = 11 ∨ j = 12 ∨ j = 13 := by omega
  rcases this with rfl | rfl | rfl | rfl | rfl | rfl | rfl | rfl | rfl | rfl | rfl | rfl | rfl | rfl
  · exact e0_0_0
  · exact e0_0_1
  · exact e0_0_2
  · exact e0_0_3
  · exact e0_0_4
  · exact e0_0_5
  · exact e0_0_6
  · exact e0_0_7
  · exact e0_0_8
  · exact e0_0_9
  · exact e0_0_10
  · exact e0_0_11
  · exact e0_0_12
  · exact e0_0_13
theorem e0_1_1 : enumOk 1 1 (((1 * (kd 0).1) * (kd 1).1) * (kd 1).1) (newS (newS (newS st0 (kd 0)) (kd 1)) (kd 1)) = true := by decide +kernel
theorem e0_1_2 : enumOk 1 2 (((1 * (kd 0).1) * (kd 1).1) * (kd 2).1) (newS (newS (newS st0 (kd 0)) (kd 1)) (kd 2)) = true := by decide +kernel
theorem e0_1_3 : enumOk 1 3 (((1 * (kd 0).1) * (kd 1).1) * (kd 3).1) (newS (newS (newS st0 (kd 0)) (kd 1)) (kd 3)) = true := by decide +kernel
theorem e0_1_4 : enumOk 1 4 (((1 * (kd 0).1) * (kd 1).1) * (kd 4).1) (newS (newS (newS st0 (kd 0)) (kd 1)) (kd 4)) = true := by decide +kernel
theorem e0_1_5 : enumOk 1 5 (((1 * (kd 0).1) * (kd 1).1) * (kd 5).1) (newS (newS (newS st0 (kd 0)) (kd 1)) (kd 5)) = true := by decide +kernel
theorem e0_1_6 : enumOk 1 6 (((1 * (kd 0).1) * (kd 1).1) * (kd 6).1) (newS (newS (newS st0 (kd 0)) (kd 1)) (kd 6)) = true := by decide +kernel
theorem e0_1_7 : enumOk 1 7 (((1 * (kd 0).1) * (kd 1).1) * (kd 7).1) (newS (newS (newS st0 (kd 0)) (kd 1)) (kd 7)) = true := by decide +kernel
theorem e0_1_8 : enumOk 1 8 (((1 * (kd 0).1) * (kd 1).1) * (kd 8).1) (newS (newS (newS st0 (kd 0)) (kd 1)) (kd 8)) = true := by decide +kernel
theorem e0_1_9 : enumOk 1 9 (((1 * (kd 0).1) * (kd 1).1) * (kd 9).1) (newS (newS (newS st0 (kd 0)) (kd 1)) (kd 9)) = true := by decide +kernel
theorem e0_1_10 : enumOk 1 10 (((1 * (kd 0).1) * (kd 1).1) * (kd 10).1) (newS (newS (newS st0 (kd 0)) (kd 1)) (kd 10)) = true := by decide +kernel
theorem e0_1_11 : enumOk 1 11 (((1 * (kd 0).1) * (kd 1).1) * (kd 11).1) (newS (newS (newS st0 (kd 0)) (kd 1)) (kd 11)) = true := by decide +kernel
theorem e0_1_12 : enumOk 1 12 (((1 * (kd 0).1) * (kd 1).1) * (kd 12).1) (newS (newS (newS st0 (kd 0)) (kd 1)) (kd 12)) = true := by decide +kernel
theorem e0_1_13 : enumOk 1 13 (((1 * (kd 0).1) * (kd 1).1) * (kd 13).1) (newS (newS (newS st0 (kd 0)) (kd 1)) (kd 13)) = true := by decide +kernel
theorem e0_1c : chk (newS (newS st0 (kd 0)) (kd 1)) = true := by decide +kernel
theorem e0_1 : enumOk 2 1 ((1 * (kd 0).1) * (kd 1).1) (newS (newS st0 (kd 0)) (kd 1)) = true := enum_intro e0_1c fun j hj hi hp => by
  have : j = 0 ∨ j = 1 ∨ j = 2 ∨ j = 3 ∨ j = 4 ∨ j = 5 ∨ j = 6 ∨ j = 7 ∨ j = 8 ∨ j = 9 ∨ j = 10 ∨ j = 11 ∨ j = 12 ∨ j = 13 := by omega
  rcases this with rfl | rfl | rfl | rfl | rfl | rfl | rfl | rfl | rfl | rfl | rfl | rfl | rfl | rfl
  · exact absurd hi (by decide)
  · exact e0_1_1
  · exact e0_1_2
  · exact e0_1_3
  · exact e0_1_4
  · exact e0_1_5
  · exact e0_1_6
  · exact e0_1_7
  · exact e0_1_8
  · exact e0_1_9
  · exact e0_1_10
  · exact e0_1_11
  · exact e0_1_12
  · exact e0_1_13
theorem e0_2_2 : enumOk 1 2 (((1 * (kd 0).1) * (kd 2).1) * (kd 2).1) (newS (newS (newS st0 (kd 0)) (kd 2)) (kd 2)) = true := by decide +kernel
theorem e0_2_3 : enumOk 1 3 (((1 * (kd 0).1) * (kd 2).1) * (kd 3).1) (newS (newS (newS st0 (kd 0)) (kd 2)) (kd 3)) = true := by decide +kernel
theorem e0_2_4 : enumOk 1 4 (((1 * (kd 0).1) * (kd 2).1) * (kd 4).1) (newS (newS (newS st0 (kd 0)) (kd 2)) (kd 4)) = true := by decide +kernel
theorem e0_2_5 : enumOk 1 5 (((1 * (kd 0).1) * (kd 2).1) * (kd 5).1) (newS (newS (newS st0 (kd 0)) (kd 2)) (kd 5)) = true := by decide +kernel
theorem e0_2_6 : enumOk 1 6 (((1 * (kd 0).1) * (kd 2).1) * (kd 6).1) (newS (newS (newS st0 (kd 0)) (kd 2)) (kd 6)) = true := by decide +kernel
theorem e0_2_7 : enumOk 1 7 (((1 * (kd 0).1) * (kd 2).1) * (kd 7).1) (newS (newS (newS st0 (kd 0)) (kd 2)) (kd 7)) = true := by decide +kernel
theorem e0_2_8 : enumOk 1 8 (((1 * (kd 0).1) * (kd 2).1) * (kd 8).1) (newS (newS (newS st0 (kd 0)) (kd 2)) (kd 8)) = true := by decide +kernel
theorem e0_2_9 : enumOk 1 9 (((1 * (kd 0).1) * (kd 2).1) * (kd 9).1) (newS (newS (newS st0 (kd 0)) (kd 2)) (kd 9)) = true := by decide +kernel
theorem e0_2_10 : enumOk 1 10 (((1 * (kd 0).1) * (kd 2).1) * (kd 10).1) (newS (newS (newS st0 (kd 0)) (kd 2)) (kd 10)) = true := by decide +kernel
theorem e0_2_11 : enumOk 1 11 (((1 * (kd 0).1) * (kd 2).1) * (kd 11).1) (newS (newS (newS st0 (kd 0)) (kd 2)) (kd 11)) = true := by decide +kernel
theorem e0_2_12 : enumOk 1 12 (((1 * (kd 0).1) * (kd 2).1) * (kd 12).1) (newS (newS (newS st0 (kd 0)) (kd 2)) (kd 12)) = true := by decide +kernel
theorem e0_2_13 : enumOk 1 13 (((1 * (kd 0).1) * (kd 2).1) * (kd 13).1) (newS (newS (newS st0 (kd 0)) (kd 2)) (kd 13)) = true := by decide +kernel
theorem e0_2c : chk (newS (newS st0 (kd 0)) (kd 2)) = true := by decide +kernel
theorem e0_2 : enumOk 2 2 ((1 * (kd 0).1) * (kd 2).1) (newS (newS st0 (kd 0)) (kd 2)) = true := enum_intro e0_2c fun j hj hi hp => by
  have : j = 0 ∨ j = 1 ∨ j = 2 ∨ j = 3 ∨ j = 4 ∨ j = 5 ∨ j = 6 ∨ j = 7 ∨ j = 8 ∨ j = 9 ∨ j = 10 ∨ j = 11 ∨ j = 12 ∨ j = 13 := by omega
  rcases this with rfl | rfl | rfl | rfl | rfl | rfl | rfl | rfl | rfl | rfl | rfl | rfl | rfl | rfl
  · exact absurd hi (by decide)
  · exact absurd hi (by decide)
  · exact e0_2_2
  · exact e0_2_3
  · exact e0_2_4
  · exact e0_2_5
  · exact e0_2_6
  · exact e0_2_7
  · exact e0_2_8
  · exact e0_2_9
  · exact e0_2_10
  · exact e0_2_11
  · exact e0_2_12
  · exact e0_2_13
theorem e0_3_3 : enumOk 1 3 (((1 * (kd 0).1) * (kd 3).1) * (kd 3).1) (newS (newS (newS st0 (kd 0)) (kd 3)) (kd 3)) = true := by decide +kernel
theorem e0_3_4 : enumOk 1 4 (((1 * (kd 0).1) * (kd 3).1) * (kd 4).1) (newS (newS (newS st0 (kd 0)) (kd 3)) (kd 4)) = true := by decide +kernel
theorem e0_3_5 : enumOk 1 5 (((1 * (kd 0).1) * (kd 3).1) * (kd 5).1) (newS (newS (newS st0 (kd 0)) (kd 3)) (kd 5)) = true := by decide +kernel
theorem e0_3_6 : enumOk 1 6 (((1 * (kd 0).1) * (kd 3).1) * (kd 6).1) (newS (newS (newS st0 (kd 0)) (kd 3)) (kd 6)) = true := by decide +kernel
theorem e0_3_7 : enumOk 1 7 (((1 * (kd 0).1) * (kd 3).1) * (kd 7).1) (newS (newS (newS st0 (kd 0)) (kd 3)) (kd 7)) = true := by decide +kernel
theorem e0_3_8 : enumOk 1 8 (((1 * (kd 0).1) * (kd 3).1) * (kd 8).1) (newS (newS (newS st0 (kd 0)) (kd 3)) (kd 8)) = true := by decide +kernel
theorem e0_3_9 : enumOk 1 9 (((1 * (kd 0).1) * (kd 3).1) * (kd 9).1) (newS (newS (newS st0 (kd 0)) (kd 3)) (kd 9)) = true := by decide +kernel
theorem e0_3_10 : enumOk 1 10 (((1 * (kd 0).1) * (kd 3).1) * (kd 10).1) (newS (newS (newS st0 (kd 0)) (kd 3)) (kd 10)) = true := by decide +kernel
theorem e0_3_11 : enumOk 1 11 (((1 * (kd 0).1) * (kd 3).1) * (kd 11).1) (newS (newS (newS st0 (kd 0)) (kd 3)) (kd 11)) = true := by decide +kernel
theorem e0_3_12 : enumOk 1 12 (((1 * (kd 0).1) * (kd 3).1) * (kd 12).1) (newS (newS (newS st0 (kd 0)) (kd 3)) (kd 12)) = true := by decide +kernel
theorem e0_3_13 : enumOk 1 13 (((1 * (kd 0).1) * (kd 3).1) * (kd 13).1) (newS (newS (newS st0 (kd 0)) (kd 3)) (kd 13)) = true := by decide +kernel
theorem e0_3c : chk (newS (newS st0 (kd 0)) (kd 3)) = true := by decide +kernel
theorem e0_3 : enumOk 2 3 ((1 * (kd 0).1) * (kd 3).1) (newS (newS st0 (kd 0)) (kd 3)) = true := enum_intro e0_3c fun j hj hi hp => by
  have : j = 0 ∨ j = 1 ∨ j = 2 ∨ j = 3 ∨ j = 4 ∨ j = 5 ∨ j = 6 ∨ j = 7 ∨ j = 8 ∨ j = 9 ∨ j = 10 ∨ j = 11 ∨ j = 12 ∨ j = 13 := by omega
  rcases this with rfl | rfl | rfl | rfl | rfl | rfl | rfl | rfl | rfl | rfl | rfl | rfl | rfl | rfl
  · exact absurd hi (by decide)
  · exact absurd hi (by decide)
  · exact absurd hi (by decide)
  · exact e0_3_3
  · exact e0_3_4
  · exact e0_3_5
  · exact e0_3_6
  · exact e0_3_7
  · exact e0_3_8
  · exact e0_3_9
  · exact e0_3_10
  · exact e0_3_11
  · exact e0_3_12
  · exact e0_3_13
theorem e0_4_4 : enumOk 1 4 (((1 * (kd 0).1) * (kd 4).1) * (kd 4).1) (newS (newS (newS st0 (kd 0)) (kd 4)) (kd 4)) = true := by decide +kernel
theorem e0_4_5 : enumOk 1 5 (((1 * (kd 0).1) * (kd 4).1) * (kd 5).1) (newS (newS (newS st0 (kd 0)) (kd 4)) (kd 5)) = true := by decide +kernel
theorem e0_4_6 : enumOk 1 6 (((1 * (kd 0).1) * (kd 4).1) * (kd 6).1) (newS (newS (newS st0 (kd 0)) (kd 4)) (kd 6)) = true := by decide +kernel
theorem e0_4_7 : enumOk 1 7 (((1 * (kd 0).1) * (kd 4).1) * (kd 7).1) (newS (newS (newS st0 (kd 0)) (kd 4)) (kd 7)) = true := by decide +kernel
theorem e0_4_8 : enumOk 1 8 (((1 * (kd 0).1) * (kd 4).1) * (kd 8).1) (newS (newS (newS st0 (kd 0)) (kd 4)) (kd 8)) = true := by decide +kernel
theorem e0_4_9 : enumOk 1 9 (((1 * (kd 0).1) * (kd 4).1) * (kd 9).1) (newS (newS (newS st0 (kd 0)) (kd 4)) (kd 9)) = true := by decide +kernel
theorem e0_4_10 : enumOk 1 10 (((1 * (kd 0).1) * (kd 4).1) * (kd 10).1) (newS (newS (newS st0 (kd 0)) (kd 4)) (kd 10)) = true := by decide +kernel
theorem e0_4_11 : enumOk 1 11 (((1 * (kd 0).1) * (kd 4).1) * (kd 11).1) (newS (newS (newS st0 (kd 0)) (kd 4)) (kd 11)) = true := by decide +kernel
theorem e0_4_12 : enumOk 1 12 (((1 * (kd 0).1) * (kd 4).1) * (kd 12).1) (newS (newS (newS st0 (kd 0)) (kd 4)) (kd 12)) = true := by decide +kernel
theorem e0_4_13 : enumOk 1 13 (((1 * (kd 0).1) * (kd 4).1) * (kd 13).1) (newS (newS (newS st0 (kd 0)) (kd 4)) (kd 13)) = true := by decide +kernel
theorem e0_4c : chk (newS (newS st0 (kd 0)) (kd 4)) = true := by decide +kernel
theorem e0_4 : enumOk 2 4 ((1 * (kd 0).1) * (kd 4).1) (newS (newS st0 (kd 0)) (kd 4)) = true := enum_intro e0_4c fun j hj hi hp => by
  have : j = 0 ∨ j = 1 ∨ j = 2 ∨ j = 3 ∨ j = 4 ∨ j = 5 ∨ j = 6 ∨ j = 7 ∨ j = 8 ∨ j = 9 ∨ j = 10 ∨ j = 11 ∨ j = 12 ∨ j = 13 := by omega
  rcases this with rfl | rfl | rfl | rfl | rfl | rfl | rfl | rfl | rfl | rfl | rfl | rfl | rfl | rfl
  · exact absurd hi (by decide)
  · exact absurd hi (by decide)
  · exact absurd hi (by decide)
  · exact absurd hi (by decide)
  · exact e0_4_4
  · exact e0_4_5
  · exact e0_4_6
  · exact e0_4_7
  · exact e0_4_8
  · exact e0_4_9
  · exact e0_4_10
  · exact e0_4_11
  · exact e0_4_12
  · exact e0_4_13
theorem e0_5_5 : enumOk 1 5 (((1 * (kd 0).1) * (kd 5).1) * (kd 5).1) (newS (newS (newS st0 (kd 0)) (kd 5)) (kd 5)) = true := by decide +kernel
theorem e0_5_6 : enumOk 1 6 (((1 * (kd 0).1) * (kd 5).1) * (kd 6).1) (newS (newS (newS st0 (kd 0)) (kd 5)) (kd 6)) = true := by decide +kernel
theorem e0_5_7 : enumOk 1 7 (((1 * (kd 0).1) * (kd 5).1) * (kd 7).1) (newS (newS (newS st0 (kd 0)) (kd 5)) (kd 7)) = true := by decide +kernel
theorem e0_5_8 : enumOk 1 8 (((1 * (kd 0).1) * (kd 5).1) * (kd 8).1) (newS (newS (newS st0 (kd 0)) (kd 5)) (kd 8)) = true := by decide +kernel
theorem e0_5_9 : enumOk 1 9 (((1 * (kd 0).1) * (kd 5).1) * (kd 9).1) (newS (newS (newS st0 (kd 0)) (kd 5)) (kd 9)) = true := by decide +kernel
theorem e0_5_10 : enumOk 1 10 (((1 * (kd 0).1) * (kd 5).1) * (kd 10).1) (newS (newS (newS st0 (kd 0)) (kd 5)) (kd 10)) = true := by decide +kernel
theorem e0_5_11 : enumOk 1 11 (((1 * (kd 0).1) * (kd 5).1) * (kd 11).1) (newS (newS (newS st0 (kd 0)) (kd 5)) (kd 11)) = true := by decide +kernel
theorem e0_5_12 : enumOk 1 12 (((1 * (kd 0).1) * (kd 5).1) * (kd 12).1) (newS (newS (newS st0 (kd 0)) (kd 5)) (kd 12)) = true := by decide +kernel
theorem e0_5_13 : enumOk 1 13 (((1 * (kd 0).1) * (kd 5).1) * (kd 13).1) (newS (newS (newS st0 (kd 0)) (kd 5)) (kd 13)) = true := by decide +kernel
theorem e0_5c : chk (newS (newS st0 (kd 0)) (kd 5)) = true := by decide +kernel
theorem e0_5 : enumOk 2 5 ((1 * (kd 0).1) * (kd 5).1) (newS (newS st0 (kd 0)) (kd 5)) = true := enum_intro e0_5c fun j hj hi hp => by
  have : j = 0 ∨ j = 1 ∨ j = 2 ∨ j = 3 ∨ j = 4 ∨ j = 5 ∨ j = 6 ∨ j = 7 ∨ j = 8 ∨ j = 9 ∨ j = 10 ∨ j = 11 ∨ j = 12 ∨ j = 13 := by omega
  rcases this with rfl | rfl | rfl | rfl | rfl | rfl | rfl | rfl | rfl | rfl | rfl | rfl | rfl | rfl
  · exact absurd hi (by decide)
  · exact absurd hi (by decide)
  · exact absurd hi (by decide)
  · exact absurd hi (by decide)
  · exact absurd hi (by decide)
  · exact e0_5_5
  · exact e0_5_6
  · exact e0_5_7
  · exact e0_5_8
  · exact e0_5_9
  · exact e0_5_10
  · exact e0_5_11
  · exact e0_5_12
  · exact e0_5_13
theorem e0_6_6 : enumOk 1 6 (((1 * (kd 0).1) * (kd 6).1) * (kd 6).1) (newS (newS (newS st0 (kd 0)) (kd 6)) (kd 6)) = true := by decide +kernel
theorem e0_6_7 : enumOk 1 7 (((1 * (kd 0).1) * (kd 6).1) * (kd 7).1) (newS (newS (newS st0 (kd 0)) (kd 6)) (kd 7)) = true := by decide +kernel
theorem e0_6_8 : enumOk 1 8 (((1 * (kd 0).1) * (kd 6).1) * (kd 8).1) (newS (newS (newS st0 (kd 0)) (kd 6)) (kd 8)) = true := by decide +kernel
theorem e0_6_9 : enumOk 1 9 (((1 * (kd 0).1) * (kd 6).1) * (kd 9).1) (newS (newS (newS st0 (kd 0)) (kd 6)) (kd 9)) = true := by decide +kernel
theorem e0_6_10 : enumOk 1 10 (((1 * (kd 0).1) * (kd 6).1) * (kd 10).1) (newS (newS (newS st0 (kd 0)) (kd 6)) (kd 10)) = true := by decide +kernel
theorem e0_6_11 : enumOk 1 11 (((1 * (kd 0).1) * (kd 6).1) * (kd 11).1) (newS (newS (newS st0 (kd 0)) (kd 6)) (kd 11)) = true := by decide +kernel
theorem e0_6_12 : enumOk 1 12 (((1 * (kd 0).1) * (kd 6).1) * (kd 12).1) (newS (newS (newS st0 (kd 0)) (kd 6)) (kd 12)) = true := by decide +kernel
theorem e0_6_13 : enumOk 1 13 (((1 * (kd 0).1) * (kd 6).1) * (kd 13).1) (newS (newS (newS st0 (kd 0)) (kd 6)) (kd 13)) = true := by decide +kernel
theorem e0_6c : chk (newS (newS st0 (kd 0)) (kd 6)) = true := by decide +kernel
theorem e0_6 : enumOk 2 6 ((1 * (kd 0).1) * (kd 6).1) (newS (newS st0 (kd 0)) (kd 6)) = true := enum_intro e0_6c fun j hj hi hp => by
  have : j = 0 ∨ j = 1 ∨ j = 2 ∨ j = 3 ∨ j = 4 ∨ j = 5 ∨ j = 6 ∨ j = 7 ∨ j = 8 ∨ j = 9 ∨ j = 10 ∨ j = 11 ∨ j = 12 ∨ j = 13 := by omega
  rcases this with rfl | rfl | rfl | rfl | rfl | rfl | rfl | rfl | rfl | rfl | rfl | rfl | rfl | rfl
  · exact absurd hi (by decide)
  · exact absurd hi (by decide)
  · exact absurd hi (by decide)
  · exact absurd hi (by decide)
  · exact absurd hi (by decide)
  · exact absurd hi (by decide)
  · exact e0_6_6
  · exact e0_6_7
  · exact e0_6_8
  · exact e0_6_9
  · exact e0_6_10
  · exact e0_6_11
  · exact e0_6_12
  · exact e0_6_13
theorem e0_7 : enumOk 2 7 ((1 * (kd 0).1) * (kd 7).1) (newS (newS st0 (kd 0)) (kd 7)) = true := by decide +kernel
theorem e0_8 : enumOk 2 8 ((1 * (kd 0).1) * (kd 8).1) (newS (newS st0 (kd 0)) (kd 8)) = true := by decide +kernel
theorem e0_9 : enumOk 2 9 ((1 * (kd 0).1) * (kd 9).1) (newS (newS st0 (kd 0)) (kd 9)) = true := by decide +kernel
theorem e0_10 : enumOk 2 10 ((1 * (kd 0).1) * (kd 10).1) (newS (newS st0 (kd 0)) (kd 10)) = true := by decide +kernel
theorem e0_11 : enumOk 2 11 ((1 * (kd 0).1) * (kd 11).1) (newS (newS st0 (kd 0)) (kd 11)) = true := by decide +kernel
theorem e0_12 : enumOk 2 12 ((1 * (kd 0).1) * (kd 12).1) (newS (newS st0 (kd 0)) (kd 12)) = true := by decide +kernel
theorem e0_13 : enumOk 2 13 ((1 * (kd 0).1) * (kd 13).1) (newS (newS st0 (kd 0)) (kd 13)) = true := by decide +kernel
theorem e0c : chk (newS st0 (kd 0)) = true := by decide +kernel
theorem e0 : enumOk 3 0 (1 * (kd 0).1) (newS st0 (kd 0)) = true := enum_intro e0c fun j hj hi hp => by
  have : j = 0 ∨ j = 1 ∨ j = 2 ∨ j = 3 ∨ j = 4 ∨ j = 5 ∨ j = 6 ∨ j = 7 ∨ j = 8 ∨ j = 9 ∨ j = 10 ∨ j = 11 ∨ j = 12 ∨ j = 13 := by omega
  rcases this with rfl | rfl | rfl | rfl | rfl | rfl | rfl | rfl | rfl | rfl | rfl | rfl | rfl | rfl
  · exact e0_0
  · exact e0_1
  · exact e0_2
  · exact e0_3
  · exact e0_4
  · exact e0_5
  · exact e0_6
  · exact e0_7
  · exact e0_8
  · exact e0_9
  · exact e0_10
  · exact e0_11
  · exact e0_12
  · exact e0_13
theorem e1_1_1 : enumOk 1 1 (((1 * (kd 1).1) * (kd 1).1) * (kd 1).1) (newS (newS (newS st0 (kd 1)) (kd 1)) (kd 1)) = true := by decide +kernel
theorem e1_1_2 : enumOk 1 2 (((1 * (kd 1).1) * (kd 1).1) * (kd 2).1) (newS (newS (newS st0 (kd 1)) (kd 1)) (kd 2)) = true := by decide +kernel
theorem e1_1_3 : enumOk 1 3 (((1 * (kd 1).1) * (kd 1).1) * (kd 3).1) (newS (newS (newS st0 (kd 1)) (kd 1)) (kd 3)) = true := by decide +kernel
theorem e1_1_4 : enumOk 1 4 (((1 * (kd 1).1) * (kd 1).1) * (kd 4).1) (newS (newS (newS st0 (kd 1)) (kd 1)) (kd 4)) = true := by decide +kernel
theorem e1_1_5 : enumOk 1 5 (((1 * (kd 1).1) * (kd 1).1) * (kd 5).1) (newS (newS (newS st0 (kd 1)) (kd 1)) (kd 5)) = true := by decide +kernel
theorem e1_1_6 : enumOk 1 6 (((1 * (kd 1).1) * (kd 1).1) * (kd 6).1) (newS (newS (newS st0 (kd 1)) (kd 1)) (kd 6)) = true := by decide +kernel
theorem e1_1_7 : enumOk 1 7 (((1 * (kd 1).1) * (kd 1).1) * (kd 7).1) (newS (newS (newS st0 (kd 1)) (kd 1)) (kd 7)) = true := by decide +kernel
theorem e1_1_8 : enumOk 1 8 (((1 * (kd 1).1) * (kd 1).1) * (kd 8).1) (newS (newS (newS st0 (kd 1)) (kd 1)) (kd 8)) = true := by decide +kernel
theorem e1_1_9 : enumOk 1 9 (((1 * (kd 1).1) * (kd 1).1) * (kd 9).1) (newS (newS (newS st0 (kd 1)) (kd 1)) (kd 9)) = true := by decide +kernel
theorem e1_1_10 : enumOk 1 10 (((1 * (kd 1).1) * (kd 1).1) * (kd 10).1) (newS (newS (newS st0 (kd 1)) (kd 1)) (kd 10)) = true := by decide +kernel
theorem e1_1_11 : enumOk 1 11 (((1 * (kd 1).1) * (kd 1).1) * (kd 11).1) (newS (newS (newS st0 (kd 1)) (kd 1)) (kd 11)) = true := by decide +kernel
theorem e1_1_12 : enumOk 1 12 (((1 * (kd 1).1) * (kd 1).1) * (kd 12).1) (newS (newS (newS st0 (kd 1)) (kd 1)) (kd 12)) = true := by decide +kernel
theorem e1_1_13 : enumOk 1 13 (((1 * (kd 1).1) * (kd 1).1) * (kd 13).1) (newS (newS (newS st0 (kd 1)) (kd 1)) (kd 13)) = true := by decide +kernel
theorem e1_1c : chk (newS (newS st0 (kd 1)) (kd 1)) = true := by decide +kernel
theorem e1_1 : enumOk 2 1 ((1 * (kd 1).1) * (kd 1).1) (newS (newS st0 (kd 1)) (kd 1)) = true := enum_intro e1_1c fun j hj hi hp => by
  have : j = 0 ∨ j = 1 ∨ j = 2 ∨ j = 3 ∨ j = 4 ∨ j = 5 ∨ j = 6 ∨ j = 7 ∨ j = 8 ∨ j = 9 ∨ j = 10 ∨ j = 11 ∨ j = 12 ∨ j = 13 := by omega
  rcases this with rfl | rfl | rfl | rfl | rfl | rfl | rfl | rfl | rfl | rfl | rfl | rfl | rfl | rfl
  · exact absurd hi (by decide)
  · exact e1_1_1
  · exact e1_1_2
  · exact e1_1_3
  · exact e1_1_4
  · exact e1_1_5
  · exact e1_1_6
  · exact e1_1_7
  · exact e1_1_8
  · exact e1_1_9
  · exact e1_1_10
  · exact e1_1_11
  · exact e1_1_12
  · exact e1_1_13
theorem e1_2_2 : enumOk 1 2 (((1 * (kd 1).1) * (kd 2).1) * (kd 2).1) (newS (newS (newS st0 (kd 1)) (kd 2)) (kd 2)) = true := by decide +kernel
theorem e1_2_3 : enumOk 1 3 (((1 * (kd 1).1) * (kd 2).1) * (kd 3).1) (newS (newS (newS st0 (kd 1)) (kd 2)) (kd 3)) = true := by decide +kernel
theorem e1_2_4 : enumOk 1 4 (((1 * (kd 1).1) * (kd 2).1) * (kd 4).1) (newS (newS (newS st0 (kd 1)) (kd 2)) (kd 4)) = true := by decide +kernel
theorem e1_2_5 : enumOk 1 5 (((1 * (kd 1).1) * (kd 2).1) * (kd 5).1) (newS (newS (newS st0 (kd 1)) (kd 2)) (kd 5)) = true := by decide +kernel
theorem e1_2_6 : enumOk 1 6 (((1 * (kd 1).1) * (kd 2).1) * (kd 6).1) (newS (newS (newS st0 (kd 1)) (kd 2)) (kd 6)) = true := by decide +kernel
theorem e1_2_7 : enumOk 1 7 (((1 * (kd 1).1) * (kd 2).1) * (kd 7).1) (newS (newS (newS st0 (kd 1)) (kd 2)) (kd 7)) = true := by decide +kernel
theorem e1_2_8 : enumOk 1 8 (((1 * (kd 1).1) * (kd 2).1) * (kd 8).1) (newS (newS (newS st0 (kd 1)) (kd 2)) (kd 8)) = true := by decide +kernel
theorem e1_2_9 : enumOk 1 9 (((1 * (kd 1).1) * (kd 2).1) * (kd 9).1) (newS (newS (newS st0 (kd 1)) (kd 2)) (kd 9)) = true := by decide +kernel
theorem e1_2_10 : enumOk 1 10 (((1 * (kd 1).1) * (kd 2).1) * (kd 10).1) (newS (newS (newS st0 (kd 1)) (kd 2)) (kd 10)) = true := by decide +kernel
theorem e1_2_11 : enumOk 1 11 (((1 * (kd 1).1) * (kd 2).1) * (kd 11).1) (newS (newS (newS st0 (kd 1)) (kd 2)) (kd 11)) = true := by decide +kernel
theorem e1_2_12 : enumOk 1 12 (((1 * (kd 1).1) * (kd 2).1) * (kd 12).1) (newS (newS (newS st0 (kd 1)) (kd 2)) (kd 12)) = true := by decide +kernel
theorem e1_2_13 : enumOk 1 13 (((1 * (kd 1).1) * (kd 2).1) * (kd 13).1) (newS (newS (newS st0 (kd 1)) (kd 2)) (kd 13)) = true := by decide +kernel
theorem e1_2c : chk (newS (newS st0 (kd 1)) (kd 2)) = true := by decide +kernel
theorem e1_2 : enumOk 2 2 ((1 * (kd 1).1) * (kd 2).1) (newS (newS st0 (kd 1)) (kd 2)) = true := enum_intro e1_2c fun j hj hi hp => by
  have : j = 0 ∨ j = 1 ∨ j = 2 ∨ j = 3 ∨ j = 4 ∨ j = 5 ∨ j = 6 ∨ j = 7 ∨ j = 8 ∨ j = 9 ∨ j = 10 ∨ j = 11 ∨ j = 12 ∨ j = 13 := by omega
  rcases this with rfl | rfl | rfl | rfl | rfl | rfl | rfl | rfl | rfl | rfl | rfl | rfl | rfl | rfl
  · exact absurd hi (by decide)
  · exact absurd hi (by decide)
  · exact e1_2_2
  · exact e1_2_3
  · exact e1_2_4
  · exact e1_2_5
  · exact e1_2_6
  · exact e1_2_7
  · exact e1_2_8
  · exact e1_2_9
  · exact e1_2_10
  · exact e1_2_11
  · exact e1_2_12
  · exact e1_2_13
theorem e1_3_3 : enumOk 1 3 (((1 * (kd 1).1) * (kd 3).1) * (kd 3).1) (newS (newS (newS st0 (kd 1)) (kd 3)) (kd 3)) = true := by decide +kernel
theorem e1_3_4 : enumOk 1 4 (((1 * (kd 1).1) * (kd 3).1) * (kd 4).1) (newS (newS (newS st0 (kd 1)) (kd 3)) (kd 4)) = true := by decide +kernel
theorem e1_3_5 : enumOk 1 5 (((1 * (kd 1).1) * (kd 3).1) * (kd 5).1) (newS (newS (newS st0 (kd 1)) (kd 3)) (kd 5)) = true := by decide +kernel
theorem e1_3_6 : enumOk 1 6 (((1 * (kd 1).1) * (kd 3).1) * (kd 6).1) (newS (newS (newS st0 (kd 1)) (kd 3)) (kd 6)) = true := by decide +kernel
theorem e1_3_7 : enumOk 1 7 (((1 * (kd 1).1) * (kd 3).1) * (kd 7).1) (newS (newS (newS st0 (kd 1)) (kd 3)) (kd 7)) = true := by decide +kernel
theorem e1_3_8 : enumOk 1 8 (((1 * (kd 1).1) * (kd 3).1) * (kd 8).1) (newS (newS (newS st0 (kd 1)) (kd 3)) (kd 8)) = true := by decide +kernel
theorem e1_3_9 : enumOk 1 9 (((1 * (kd 1).1) * (kd 3).1) * (kd 9).1) (newS (newS (newS st0 (kd 1)) (kd 3)) (kd 9)) = true := by decide +kernel
theorem e1_3_10 : enumOk 1 10 (((1 * (kd 1).1) * (kd 3).1) * (kd 10).1) (newS (newS (newS st0 (kd 1)) (kd 3)) (kd 10)) = true := by decide +kernel
theorem e1_3_11 : enumOk 1 11 (((1 * (kd 1).1) * (kd 3).1) * (kd 11).1) (newS (newS (newS st0 (kd 1)) (kd 3)) (kd 11)) = true := by decide +kernel
theorem e1_3_12 : enumOk 1 12 (((1 * (kd 1).1) * (kd 3).1) * (kd 12).1) (newS (newS (newS st0 (kd 1)) (kd 3)) (kd 12)) = true := by decide +kernel
theorem e1_3_13 : enumOk 1 13 (((1 * (kd 1).1) * (kd 3).1) * (kd 13).1) (newS (newS (newS st0 (kd 1)) (kd 3)) (kd 13)) = true := by decide +kernel
theorem e1_3c : chk (newS (newS st0 (kd 1)) (kd 3)) = true := by decide +kernel
theorem e1_3 : enumOk 2 3 ((1 * (kd 1).1) * (kd 3).1) (newS (newS st0 (kd 1)) (kd 3)) = true := enum_intro e1_3c fun j hj hi hp => by
  have : j = 0 ∨ j = 1 ∨ j = 2 ∨ j = 3 ∨ j = 4 ∨ j = 5 ∨ j = 6 ∨ j = 7 ∨ j = 8 ∨ j = 9 ∨ j = 10 ∨ j = 11 ∨ j = 12 ∨ j = 13 := by omega
  rcases this with rfl | rfl | rfl | rfl | rfl | rfl | rfl | rfl | rfl | rfl | rfl | rfl | rfl | rfl
  · exact absurd hi (by decide)
  · exact absurd hi (by decide)
  · exact absurd hi (by decide)
  · exact e1_3_3
  · exact e1_3_4
  · exact e1_3_5
  · exact e1_3_6
  · exact e1_3_7
  · exact e1_3_8
  · exact e1_3_9
  · exact e1_3_10
  · exact e1_3_11
  · exact e1_3_12
  · exact e1_3_13
theorem e1_4_4 : enumOk 1 4 (((1 * (kd 1).1) * (kd 4).1) * (kd 4).1) (newS (newS (newS st0 (kd 1)) (kd 4)) (kd 4)) = true := by decide +kernel
theorem e1_4_5 : enumOk 1 5 (((1 * (kd 1).1) * (kd 4).1) * (kd 5).1) (newS (newS (newS st0 (kd 1)) (kd 4)) (kd 5)) = true := by decide +kernel
theorem e1_4_6 : enumOk 1 6 (((1 * (kd 1).1) * (kd 4).1) * (kd 6).1) (newS (newS (newS st0 (kd 1)) (kd 4)) (kd 6)) = true := by decide +kernel
theorem e1_4_7 : enumOk 1 7 (((1 * (kd 1).1) * (kd 4).1) * (kd 7).1) (newS (newS (newS st0 (kd 1)) (kd 4)) (kd 7)) = true := by decide +kernel
theorem e1_4_8 : enumOk 1 8 (((1 * (kd 1).1) * (kd 4).1) * (kd 8).1) (newS (newS (newS st0 (kd 1)) (kd 4)) (kd 8)) = true := by decide +kernel
theorem e1_4_9 : enumOk 1 9 (((1 * (kd 1).1) * (kd 4).1) * (kd 9).1) (newS (newS (newS st0 (kd 1)) (kd 4)) (kd 9)) = true := by decide +kernel
theorem e1_4_10 : enumOk 1 10 (((1 * (kd 1).1) * (kd 4).1) * (kd 10).1) (newS (newS (newS st0 (kd 1)) (kd 4)) (kd 10)) = true := by decide +kernel
theorem e1_4_11 : enumOk 1 11 (((1 * (kd 1).1) * (kd 4).1) * (kd 11).1) (newS (newS (newS st0 (kd 1)) (kd 4)) (kd 11)) = true := by decide +kernel
theorem e1_4_12 : enumOk 1 12 (((1 * (kd 1).1) * (kd 4).1) * (kd 12).1) (newS (newS (newS st0 (kd 1)) (kd 4)) (kd 12)) = true := by decide +kernel
theorem e1_4_13 : enumOk 1 13 (((1 * (kd 1).1) * (kd 4).1) * (kd 13).1) (newS (newS (newS st0 (kd 1)) (kd 4)) (kd 13)) = true := by decide +kernel
theorem e1_4c : chk (newS (newS st0 (kd 1)) (kd 4)) = true := by decide +kernel
theorem e1_4 : enumOk 2 4 ((1 * (kd 1).1) * (kd 4).1) (newS (newS st0 (kd 1)) (kd 4)) = true := enum_intro e1_4c fun j hj hi hp => by
  have : j = 0 ∨ j = 1 ∨ j = 2 ∨ j = 3 ∨ j = 4 ∨ j = 5 ∨ j = 6 ∨ j = 7 ∨ j = 8 ∨ j = 9 ∨ j = 10 ∨ j = 11 ∨ j = 12 ∨ j = 13 := by omega
  rcases this with rfl | rfl | rfl | rfl | rfl | rfl | rfl | rfl | rfl | rfl | rfl | rfl | rfl | rfl
  · exact absurd hi (by decide)
  · exact absurd hi (by decide)
  · exact absurd hi (by decide)
  · exact absurd hi (by decide)
  · exact e1_4_4
  · exact e1_4_5
  · exact e1_4_6
  · exact e1_4_7
  · exact e1_4_8
  · exact e1_4_9
  · exact e1_4_10
  · exact e1_4_11
  · exact e1_4_12
  · exact e1_4_13
theorem e1_5_5 : enumOk 1 5 (((1 * (kd 1).1) * (kd 5).1) * (kd 5).1) (newS (newS (newS st0 (kd 1)) (kd 5)) (kd 5)) = true := by decide +kernel
theorem e1_5_6 : enumOk 1 6 (((1 * (kd 1).1) * (kd 5).1) * (kd 6).1) (newS (newS (newS st0 (kd 1)) (kd 5)) (kd 6)) = true := by decide +kernel
theorem e1_5_7 : enumOk 1 7 (((1 * (kd 1).1) * (kd 5).1) * (kd 7).1) (newS (newS (newS st0 (kd 1)) (kd 5)) (kd 7)) = true := by decide +kernel
theorem e1_5_8 : enumOk 1 8 (((1 * (kd 1).1) * (kd 5).1) * (kd 8).1) (newS (newS (newS st0 (kd 1)) (kd 5)) (kd 8)) = true := by decide +kernel
theorem e1_5_9 : enumOk 1 9 (((1 * (kd 1).1) * (kd 5).1) * (kd 9).1) (newS (newS (newS st0 (kd 1)) (kd 5)) (kd 9)) = true := by decide +kernel
theorem e1_5_10 : enumOk 1 10 (((1 * (kd 1).1) * (kd 5).1) * (kd 10).1) (newS (newS (newS st0 (kd 1)) (kd 5)) (kd 10)) = true := by decide +kernel
theorem e1_5_11 : enumOk 1 11 (((1 * (kd 1).1) * (kd 5).1) * (kd 11).1) (newS (newS (newS st0 (kd 1)) (kd 5)) (kd 11)) = true := by decide +kernel
theorem e1_5_12 : enumOk 1 12 (((1 * (kd 1).1) * (kd 5).1) * (kd 12).1) (newS (newS (newS st0 (kd 1)) (kd 5)) (kd 12)) = true := by decide +kernel
theorem e1_5_13 : enumOk 1 13 (((1 * (kd 1).1) * (kd 5).1) * (kd 13).1) (newS (newS (newS st0 (kd 1)) (kd 5)) (kd 13)) = true := by decide +kernel
theorem e1_5c : chk (newS (newS st0 (kd 1)) (kd 5)) = true := by decide +kernel
theorem e1_5 : enumOk 2 5 ((1 * (kd 1).1) * (kd 5).1) (newS (newS st0 (kd 1)) (kd 5)) = true := enum_intro e1_5c fun j hj hi hp => by
  have : j = 0 ∨ j = 1 ∨ j = 2 ∨ j = 3 ∨ j = 4 ∨ j = 5 ∨ j = 6 ∨ j = 7 ∨ j = 8 ∨ j = 9 ∨ j = 10 ∨ j = 11 ∨ j = 12 ∨ j = 13 := by omega
  rcases this with rfl | rfl | rfl | rfl | rfl | rfl | rfl | rfl | rfl | rfl | rfl | rfl | rfl | rfl
  · exact absurd hi (by decide)
  · exact absurd hi (by decide)
  · exact absurd hi (by decide)
  · exact absurd hi (by decide)
  · exact absurd hi (by decide)
  · exact e1_5_5
  · exact e1_5_6
  · exact e1_5_7
  · exact e1_5_8
  · exact e1_5_9
  · exact e1_5_10
  · exact e1_5_11
  · exact e1_5_12
  · exact e1_5_13
theorem e1_6_6 : enumOk 1 6 (((1 * (kd 1).1) * (kd 6).1) * (kd 6).1) (newS (newS (newS st0 (kd 1)) (kd 6)) (kd 6)) = true := by decide +kernel
theorem e1_6_7 : enumOk 1 7 (((1 * (kd 1).1) * (kd 6).1) * (kd 7).1) (newS (newS (newS st0 (kd 1)) (kd 6)) (kd 7)) = true := by decide +kernel
theorem e1_6_8 : enumOk 1 8 (((1 * (kd 1).1) * (kd 6).1) * (kd 8).1) (newS (newS (newS st0 (kd 1)) (kd 6)) (kd 8)) = true := by decide +kernel
theorem e1_6_9 : enumOk 1 9 (((1 * (kd 1).1) * (kd 6).1) * (kd 9).1) (newS (newS (newS st0 (kd 1)) (kd 6)) (kd 9)) = true := by decide +kernel
theorem e1_6_10 : enumOk 1 10 (((1 * (kd 1).1) * (kd 6).1) * (kd 10).1) (newS (newS (newS st0 (kd 1)) (kd 6)) (kd 10)) = true := by decide +kernel
theorem e1_6_11 : enumOk 1 11 (((1 * (kd 1).1) * (kd 6).1) * (kd 11).1) (newS (newS (newS st0 (kd 1)) (kd 6)) (kd 11)) = true := by decide +kernel
theorem e1_6_12 : enumOk 1 12 (((1 * (kd 1).1) * (kd 6).1) * (kd 12).1) (newS (newS (newS st0 (kd 1)) (kd 6)) (kd 12)) = true := by decide +kernel
theorem e1_6_13 : enumOk 1 13 (((1 * (kd 1).1) * (kd 6).1) * (kd 13).1) (newS (newS (newS st0 (kd 1)) (kd 6)) (kd 13)) = true := by decide +kernel
theorem e1_6c : chk (newS (newS st0 (kd 1)) (kd 6)) = true := by decide +kernel
theorem e1_6 : enumOk 2 6 ((1 * (kd 1).1) * (kd 6).1) (newS (newS st0 (kd 1)) (kd 6)) = true := enum_intro e1_6c fun j hj hi hp => by
  have : j = 0 ∨ j = 1 ∨ j = 2 ∨ j = 3 ∨ j = 4 ∨ j = 5 ∨ j = 6 ∨ j = 7 ∨ j = 8 ∨ j = 9 ∨ j = 10 ∨ j = 11 ∨ j = 12 ∨ j = 13 := by omega
  rcases this with rfl | rfl | rfl | rfl | rfl | rfl | rfl | rfl | rfl | rfl | rfl | rfl | rfl | rfl
  · exact absurd hi (by decide)
  · exact absurd hi (by decide)
  · exact absurd hi (by decide)
  · exact absurd hi (by decide)
  · exact absurd hi (by decide)
  · exact absurd hi (by decide)
  · exact e1_6_6
  · exact e1_6_7
  · exact e1_6_8
  · exact e1_6_9
  · exact e1_6_10
  · exact e1_6_11
  · exact e1_6_12
  · exact e1_6_13
theorem e1_7 : enumOk 2 7 ((1 * (kd 1).1) * (kd 7).1) (newS (newS st0 (kd 1)) (kd 7)) = true := by decide +kernel
theorem e1_8 : enumOk 2 8 ((1 * (kd 1).1) * (kd 8).1) (newS (newS st0 (kd 1)) (kd 8)) = true := by decide +kernel
theorem e1_9 : enumOk 2 9 ((1 * (kd 1).1) * (kd 9).1) (newS (newS st0 (kd 1)) (kd 9)) = true := by decide +kernel
theorem e1_10 : enumOk 2 10 ((1 * (kd 1).1) * (kd 10).1) (newS (newS st0 (kd 1)) (kd 10)) = true := by decide +kernel
theorem e1_11 : enumOk 2 11 ((1 * (kd 1).1) * (kd 11).1) (newS (newS st0 (kd 1)) (kd 11)) = true := by decide +kernel
theorem e1_12 : enumOk 2 12 ((1 * (kd 1).1) * (kd 12).1) (newS (newS st0 (kd 1)) (kd 12)) = true := by decide +kernel
theorem e1_13 : enumOk 2 13 ((1 * (kd 1).1) * (kd 13).1) (newS (newS st0 (kd 1)) (kd 13)) = true := by decide +kernel
theorem e1c : chk (newS st0 (kd 1)) = true := by decide +kernel
theorem e1 : enumOk 3 1 (1 * (kd 1).1) (newS st0 (kd 1)) = true := enum_intro e1c fun j hj hi hp => by
  have : j = 0 ∨ j = 1 ∨ j = 2 ∨ j = 3 ∨ j = 4 ∨ j = 5 ∨ j = 6 ∨ j = 7 ∨ j = 8 ∨ j = 9 ∨ j = 10 ∨ j = 11 ∨ j = 12 ∨ j = 13 := by omega
  rcases this with rfl | rfl | rfl | rfl | rfl | rfl | rfl | rfl | rfl | rfl | rfl | rfl | rfl | rfl
  · exact absurd hi (by decide)
  · exact e1_1
  · exact e1_2
  · exact e1_3
  · exact e1_4
  · exact e1_5
  · exact e1_6
  · exact e1_7
  · exact e1_8
  · exact e1_9
  · exact e1_10
  · exact e1_11
  · exact e1_12
  · exact e1_13
theorem e2_2_2 : enumOk 1 2 (((1 * (kd 2).1) * (kd 2).1) * (kd 2).1) (newS (newS (newS st0 (kd 2)) (kd 2)) (kd 2)) = true := by decide +kernel
theorem e2_2_3 : enumOk 1 3 (((1 * (kd 2).1) * (kd 2).1) * (kd 3).1) (newS (newS (newS st0 (kd 2)) (kd 2)) (kd 3)) = true := by decide +kernel
theorem e2_2_4 : enumOk 1 4 (((1 * (kd 2).1) * (kd 2).1) * (kd 4).1) (newS (newS (newS st0 (kd 2)) (kd 2)) (kd 4)) = true := by decide +kernel
theorem e2_2_5 : enumOk 1 5 (((1 * (kd 2).1) * (kd 2).1) * (kd 5).1) (newS (newS (newS st0 (kd 2)) (kd 2)) (kd 5)) = true := by decide +kernel
theorem e2_2_6 : enumOk 1 6 (((1 * (kd 2).1) * (kd 2).1) * (kd 6).1) (newS (newS (newS st0 (kd 2)) (kd 2)) (kd 6)) = true := by decide +kernel
theorem e2_2_7 : enumOk 1 7 (((1 * (kd 2).1) * (kd 2).1) * (kd 7).1) (newS (newS (newS st0 (kd 2)) (kd 2)) (kd 7)) = true := by decide +kernel
theorem e2_2_8 : enumOk 1 8 (((1 * (kd 2).1) * (kd 2).1) * (kd 8).1) (newS (newS (newS st0 (kd 2)) (kd 2)) (kd 8)) = true := by decide +kernel
theorem e2_2_9 : enumOk 1 9 (((1 * (kd 2).1) * (kd 2).1) * (kd 9).1) (newS (newS (newS st0 (kd 2)) (kd 2)) (kd 9)) = true := by decide +kernel
theorem e2_2_10 : enumOk 1 10 (((1 * (kd 2).1) * (kd 2).1) * (kd 10).1) (newS (newS (newS st0 (kd 2)) (kd 2)) (kd 10)) = true := by decide +kernel
theorem e2_2_11 : enumOk 1 11 (((1 * (kd 2).1) * (kd 2).1) * (kd 11).1) (newS (newS (newS st0 (kd 2)) (kd 2)) (kd 11)) = true := by decide +kernel
theorem e2_2_12 : enumOk 1 12 (((1 * (kd 2).1) * (kd 2).1) * (kd 12).1) (newS (newS (newS st0 (kd 2)) (kd 2)) (kd 12)) = true := by decide +kernel
theorem e2_2_13 : enumOk 1 13 (((1 * (kd 2).1) * (kd 2).1) * (kd 13).1) (newS (newS (newS st0 (kd 2)) (kd 2)) (kd 13)) = true := by decide +kernel
theorem e2_2c : chk (newS (newS st0 (kd 2)) (kd 2)) = true := by decide +kernel
theorem e2_2 : enumOk 2 2 ((1 * (kd 2).1) * (kd 2).1) (newS (newS st0 (kd 2)) (kd 2)) = true := enum_intro e2_2c fun j hj hi hp => by
  have : j = 0 ∨ j = 1 ∨ j = 2 ∨ j = 3 ∨ j = 4 ∨ j = 5 ∨ j = 6 ∨ j = 7 ∨ j = 8 ∨ j = 9 ∨ j = 10 ∨ j = 11 ∨ j = 12 ∨ j = 13 := by omega
  rcases this with rfl | rfl | rfl | rfl | rfl | rfl | rfl | rfl | rfl | rfl | rfl | rfl | rfl | rfl
  · exact absurd hi (by decide)
  · exact absurd hi (by decide)
  · exact e2_2_2
  · exact e2_2_3
  · exact e2_2_4
  · exact e2_2_5
  · exact e2_2_6
  · exact e2_2_7
  · exact e2_2_8
  · exact e2_2_9
  · exact e2_2_10
  · exact e2_2_11
  · exact e2_2_12
  · exact e2_2_13
theorem e2_3_3 : enumOk 1 3 (((1 * (kd 2).1) * (kd 3).1) * (kd 3).1) (newS (newS (newS st0 (kd 2)) (kd 3)) (kd 3)) = true := by decide +kernel
theorem e2_3_4 : enumOk 1 4 (((1 * (kd 2).1) * (kd 3).1) * (kd 4).1) (newS (newS (newS st0 (kd 2)) (kd 3)) (kd 4)) = true := by decide +kernel
theorem e2_3_5 : enumOk 1 5 (((1 * (kd 2).1) * (kd 3).1) * (kd 5).1) (newS (newS (newS st0 (kd 2)) (kd 3)) (kd 5)) = true := by decide +kernel
theorem e2_3_6 : enumOk 1 6 (((1 * (kd 2).1) * (kd 3).1) * (kd 6).1) (newS (newS (newS st0 (kd 2)) (kd 3)) (kd 6)) = true := by decide +kernel
theorem e2_3_7 : enumOk 1 7 (((1 * (kd 2).1) * (kd 3).1) * (kd 7).1) (newS (newS (newS st0 (kd 2)) (kd 3)) (kd 7)) = true := by decide +kernel
theorem e2_3_8 : enumOk 1 8 (((1 * (kd 2).1) * (kd 3).1) * (kd 8).1) (newS (newS (newS st0 (kd 2)) (kd 3)) (kd 8)) = true := by decide +kernel
theorem e2_3_9 : enumOk 1 9 (((1 * (kd 2).1) * (kd 3).1) * (kd 9).1) (newS (newS (newS st0 (kd 2)) (kd 3)) (kd 9)) = true := by decide +kernel
theorem e2_3_10 : enumOk 1 10 (((1 * (kd 2).1) * (kd 3).1) * (kd 10).1) (newS (newS (newS st0 (kd 2)) (kd 3)) (kd 10)) = true := by decide +kernel
theorem e2_3_11 : enumOk 1 11 (((1 * (kd 2).1) * (kd 3).1) * (kd 11).1) (newS (newS (newS st0 (kd 2)) (kd 3)) (kd 11)) = true := by decide +kernel
theorem e2_3_12 : enumOk 1 12 (((1 * (kd 2).1) * (kd 3).1) * (kd 12).1) (newS (newS (newS st0 (kd 2)) (kd 3)) (kd 12)) = true := by decide +kernel
theorem e2_3_13 : enumOk 1 13 (((1 * (kd 2).1) * (kd 3).1) * (kd 13).1) (newS (newS (newS st0 (kd 2)) (kd 3)) (kd 13)) = true := by decide +kernel
theorem e2_3c : chk (newS (newS st0 (kd 2)) (kd 3)) = true := by decide +kernel
theorem e2_3 : enumOk 2 3 ((1 * (kd 2).1) * (kd 3).1) (newS (newS st0 (kd 2)) (kd 3)) = true := enum_intro e2_3c fun j hj hi hp => by
  have : j = 0 ∨ j = 1 ∨ j = 2 ∨ j = 3 ∨ j = 4 ∨ j = 5 ∨ j = 6 ∨ j = 7 ∨ j = 8 ∨ j = 9 ∨ j = 10 ∨ j = 11 ∨ j = 12 ∨ j = 13 := by omega
  rcases this with rfl | rfl | rfl | rfl | rfl | rfl | rfl | rfl | rfl | rfl | rfl | rfl | rfl | rfl
  · exact absurd hi (by decide)
  · exact absurd hi (by decide)
  · exact absurd hi (by decide)
  · exact e2_3_3
  · exact e2_3_4
  · exact e2_3_5
  · exact e2_3_6
  · exact e2_3_7
  · exact e2_3_8
  · exact e2_3_9
  · exact e2_3_10
  · exact e2_3_11
  · exact e2_3_12
  · exact e2_3_13
theorem e2_4_4 : enumOk 1 4 (((1 * (kd 2).1) * (kd 4).1) * (kd 4).1) (newS (newS (newS st0 (kd 2)) (kd 4)) (kd 4)) = true := by decide +kernel
theorem e2_4_5 : enumOk 1 5 (((1 * (kd 2).1) * (kd 4).1) * (kd 5).1) (newS (newS (newS st0 (kd 2)) (kd 4)) (kd 5)) = true := by decide +kernel
theorem e2_4_6 : enumOk 1 6 (((1 * (kd 2).1) * (kd 4).1) * (kd 6).1) (newS (newS (newS st0 (kd 2)) (kd 4)) (kd 6)) = true := by decide +kernel
theorem e2_4_7 : enumOk 1 7 (((1 * (kd 2).1) * (kd 4).1) * (kd 7).1) (newS (newS (newS st0 (kd 2)) (kd 4)) (kd 7)) = true := by decide +kernel
theorem e2_4_8 : enumOk 1 8 (((1 * (kd 2).1) * (kd 4).1) * (kd 8).1) (newS (newS (newS st0 (kd 2)) (kd 4)) (kd 8)) = true := by decide +kernel
theorem e2_4_9 : enumOk 1 9 (((1 * (kd 2).1) * (kd 4).1) * (kd 9).1) (newS (newS (newS st0 (kd 2)) (kd 4)) (kd 9)) = true := by decide +kernel
theorem e2_4_10 : enumOk 1 10 (((1 * (kd 2).1) * (kd 4).1) * (kd 10).1) (newS (newS (newS st0 (kd 2)) (kd 4)) (kd 10)) = true := by decide +kernel
theorem e2_4_11 : enumOk 1 11 (((1 * (kd 2).1) * (kd 4).1) * (kd 11).1) (newS (newS (newS st0 (kd 2)) (kd 4)) (kd 11)) = true := by decide +kernel
theorem e2_4_12 : enumOk 1 12 (((1 * (kd 2).1) * (kd 4).1) * (kd 12).1) (newS (newS (newS st0 (kd 2)) (kd 4)) (kd 12)) = true := by decide +kernel
theorem e2_4_13 : enumOk 1 13 (((1 * (kd 2).1) * (kd 4).1) * (kd 13).1) (newS (newS (newS st0 (kd 2)) (kd 4)) (kd 13)) = true := by decide +kernel
theorem e2_4c : chk (newS (newS st0 (kd 2)) (kd 4)) = true := by decide +kernel
theorem e2_4 : enumOk 2 4 ((1 * (kd 2).1) * (kd 4).1) (newS (newS st0 (kd 2)) (kd 4)) = true := enum_intro e2_4c fun j hj hi hp => by
  have : j = 0 ∨ j = 1 ∨ j = 2 ∨ j = 3 ∨ j = 4 ∨ j = 5 ∨ j = 6 ∨ j = 7 ∨ j = 8 ∨ j = 9 ∨ j = 10 ∨ j = 11 ∨ j = 12 ∨ j = 13 := by omega
  rcases this with rfl | rfl | rfl | rfl | rfl | rfl | rfl | rfl | rfl | rfl | rfl | rfl | rfl | rfl
  · exact absurd hi (by decide)
  · exact absurd hi (by decide)
  · exact absurd hi (by decide)
  · exact absurd hi (by decide)
  · exact e2_4_4
  · exact e2_4_5
  · exact e2_4_6
  · exact e2_4_7
  · exact e2_4_8
  · exact e2_4_9
  · exact e2_4_10
  · exact e2_4_11
  · exact e2_4_12
  · exact e2_4_13
theorem e2_5 : enumOk 2 5 ((1 * (kd 2).1) * (kd 5).1) (newS (newS st0 (kd 2)) (kd 5)) = true := by decide +kernel
theorem e2_6 : enumOk 2 6 ((1 * (kd 2).1) * (kd 6).1) (newS (newS st0 (kd 2)) (kd 6)) = true := by decide +kernel
theorem e2_7 : enumOk 2 7 ((1 * (kd 2).1) * (kd 7).1) (newS (newS st0 (kd 2)) (kd 7)) = true := by decide +kernel
theorem e2_8 : enumOk 2 8 ((1 * (kd 2).1) * (kd 8).1) (newS (newS st0 (kd 2)) (kd 8)) = true := by decide +kernel
theorem e2_9 : enumOk 2 9 ((1 * (kd 2).1) * (kd 9).1) (newS (newS st0 (kd 2)) (kd 9)) = true := by decide +kernel
theorem e2_10 : enumOk 2 10 ((1 * (kd 2).1) * (kd 10).1) (newS (newS st0 (kd 2)) (kd 10)) = true := by decide +kernel
theorem e2_11 : enumOk 2 11 ((1 * (kd 2).1) * (kd 11).1) (newS (newS st0 (kd 2)) (kd 11)) = true := by decide +kernel
theorem e2_12 : enumOk 2 12 ((1 * (kd 2).1) * (kd 12).1) (newS (newS st0 (kd 2)) (kd 12)) = true := by decide +kernel
theorem e2_13 : enumOk 2 13 ((1 * (kd 2).1) * (kd 13).1) (newS (newS st0 (kd 2)) (kd 13)) = true := by decide +kernel
theorem e2c : chk (newS st0 (kd 2)) = true := by decide +kernel
theorem e2 : enumOk 3 2 (1 * (kd 2).1) (newS st0 (kd 2)) = true := enum_intro e2c fun j hj hi hp => by
  have : j = 0 ∨ j = 1 ∨ j = 2 ∨ j = 3 ∨ j = 4 ∨ j = 5 ∨ j = 6 ∨ j = 7 ∨ j = 8 ∨ j = 9 ∨ j = 10 ∨ j = 11 ∨ j = 12 ∨ j = 13 := by omega
  rcases this with rfl | rfl | rfl | rfl | rfl | rfl | rfl | rfl | rfl | rfl | rfl | rfl | rfl | rfl
  · exact absurd hi (by decide)
  · exact absurd hi (by decide)
  · exact e2_2
  · exact e2_3
  · exact e2_4
  · exact e2_5
  · exact e2_6
  · exact e2_7
  · exact e2_8
  · exact e2_9
  · exact e2_10
  · exact e2_11
  · exact e2_12
  · exact e2_13
theorem e3_3_3 : enumOk 1 3 (((1 * (kd 3).1) * (kd 3).1) * (kd 3).1) (newS (newS (newS st0 (kd 3)) (kd 3)) (kd 3)) = true := by decide +kernel
theorem e3_3_4 : enumOk 1 4 (((1 * (kd 3).1) * (kd 3).1) * (kd 4).1) (newS (newS (newS st0 (kd 3)) (kd 3)) (kd 4)) = true := by decide +kernel
theorem e3_3_5 : enumOk 1 5 (((1 * (kd 3).1) * (kd 3).1) * (kd 5).1) (newS (newS (newS st0 (kd 3)) (kd 3)) (kd 5)) = true := by decide +kernel
theorem e3_3_6 : enumOk 1 6 (((1 * (kd 3).1) * (kd 3).1) * (kd 6).1) (newS (newS (newS st0 (kd 3)) (kd 3)) (kd 6)) = true := by decide +kernel
theorem e3_3_7 : enumOk 1 7 (((1 * (kd 3).1) * (kd 3).1) * (kd 7).1) (newS (newS (newS st0 (kd 3)) (kd 3)) (kd 7)) = true := by decide +kernel
theorem e3_3_8 : enumOk 1 8 (((1 * (kd 3).1) * (kd 3).1) * (kd 8).1) (newS (newS (newS st0 (kd 3)) (kd 3)) (kd 8)) = true := by decide +kernel
theorem e3_3_9 : enumOk 1 9 (((1 * (kd 3).1) * (kd 3).1) * (kd 9).1) (newS (newS (newS st0 (kd 3)) (kd 3)) (kd 9)) = true := by decide +kernel
theorem e3_3_10 : enumOk 1 10 (((1 * (kd 3).1) * (kd 3).1) * (kd 10).1) (newS (newS (newS st0 (kd 3)) (kd 3)) (kd 10)) = true := by decide +kernel
theorem e3_3_11 : enumOk 1 11 (((1 * (kd 3).1) * (kd 3).1) * (kd 11).1) (newS (newS (newS st0 (kd 3)) (kd 3)) (kd 11)) = true := by decide +kernel
theorem e3_3_12 : enumOk 1 12 (((1 * (kd 3).1) * (kd 3).1) * (kd 12).1) (newS (newS (newS st0 (kd 3)) (kd 3)) (kd 12)) = true := by decide +kernel
theorem e3_3_13 : enumOk 1 13 (((1 * (kd 3).1) * (kd 3).1) * (kd 13).1) (newS (newS (newS st0 (kd 3)) (kd 3)) (kd 13)) = true := by decide +kernel
theorem e3_3c : chk (newS (newS st0 (kd 3)) (kd 3)) = true := by decide +kernel
theorem e3_3 : enumOk 2 3 ((1 * (kd 3).1) * (kd 3).1) (newS (newS st0 (kd 3)) (kd 3)) = true := enum_intro e3_3c fun j hj hi hp => by
  have : j = 0 ∨ j = 1 ∨ j = 2 ∨ j = 3 ∨ j = 4 ∨ j = 5 ∨ j = 6 ∨ j = 7 ∨ j = 8 ∨ j = 9 ∨ j = 10 ∨ j = 11 ∨ j = 12 ∨ j = 13 := by omega
  rcases this with rfl | rfl | rfl | rfl | rfl | rfl | rfl | rfl | rfl | rfl | rfl | rfl | rfl | rfl
  · exact absurd hi (by decide)
  · exact absurd hi (by decide)
  · exact absurd hi (by decide)
  · exact e3_3_3
  · exact e3_3_4
  · exact e3_3_5
  · exact e3_3_6
  · exact e3_3_7
  · exact e3_3_8
  · exact e3_3_9
  · exact e3_3_10
  · exact e3_3_11
  · exact e3_3_12
  · exact e3_3_13
theorem e3_4_4 : enumOk 1 4 (((1 * (kd 3).1) * (kd 4).1) * (kd 4).1) (newS (newS (newS st0 (kd 3)) (kd 4)) (kd 4)) = true := by decide +kernel
theorem e3_4_5 : enumOk 1 5 (((1 * (kd 3).1) * (kd 4).1) * (kd 5).1) (newS (newS (newS st0 (kd 3)) (kd 4)) (kd 5)) = true := by decide +kernel
theorem e3_4_6 : enumOk 1 6 (((1 * (kd 3).1) * (kd 4).1) * (kd 6).1) (newS (newS (newS st0 (kd 3)) (kd 4)) (kd 6)) = true := by decide +kernel
theorem e3_4_7 : enumOk 1 7 (((1 * (kd 3).1) * (kd 4).1) * (kd 7).1) (newS (newS (newS st0 (kd 3)) (kd 4)) (kd 7)) = true := by decide +kernel
theorem e3_4_8 : enumOk 1 8 (((1 * (kd 3).1) * (kd 4).1) * (kd 8).1) (newS (newS (newS st0 (kd 3)) (kd 4)) (kd 8)) = true := by decide +kernel
theorem e3_4_9 : enumOk 1 9 (((1 * (kd 3).1) * (kd 4).1) * (kd 9).1) (newS (newS (newS st0 (kd 3)) (kd 4)) (kd 9)) = true := by decide +kernel
theorem e3_4_10 : enumOk 1 10 (((1 * (kd 3).1) * (kd 4).1) * (kd 10).1) (newS (newS (newS st0 (kd 3)) (kd 4)) (kd 10)) = true := by decide +kernel
theorem e3_4_11 : enumOk 1 11 (((1 * (kd 3).1) * (kd 4).1) * (kd 11).1) (newS (newS (newS st0 (kd 3)) (kd 4)) (kd 11)) = true := by decide +kernel
theorem e3_4_12 : enumOk 1 12 (((1 * (kd 3).1) * (kd 4).1) * (kd 12).1) (newS (newS (newS st0 (kd 3)) (kd 4)) (kd 12)) = true := by decide +kernel
theorem e3_4_13 : enumOk 1 13 (((1 * (kd 3).1) * (kd 4).1) * (kd 13).1) (newS (newS (newS st0 (kd 3)) (kd 4)) (kd 13)) = true := by decide +kernel
theorem e3_4c : chk (newS (newS st0 (kd 3)) (kd 4)) = true := by decide +kernel
theorem e3_4 : enumOk 2 4 ((1 * (kd 3).1) * (kd 4).1) (newS (newS st0 (kd 3)) (kd 4)) = true := enum_intro e3_4c fun j hj hi hp => by
  have : j = 0 ∨ j = 1 ∨ j = 2 ∨ j = 3 ∨ j = 4 ∨ j = 5 ∨ j = 6 ∨ j = 7 ∨ j = 8 ∨ j = 9 ∨ j = 10 ∨ j = 11 ∨ j = 12 ∨ j = 13 := by omega
  rcases this with rfl | rfl | rfl | rfl | rfl | rfl | rfl | rfl | rfl | rfl | rfl | rfl | rfl | rfl
  · exact absurd hi (by decide)
  · exact absurd hi (by decide)
  · exact absurd hi (by decide)
  · exact absurd hi (by decide)
  · exact e3_4_4
  · exact e3_4_5
  · exact e3_4_6
  · exact e3_4_7
  · exact e3_4_8
  · exact e3_4_9
  · exact e3_4_10
  · exact e3_4_11
  · exact e3_4_12
  · exact e3_4_13
theorem e3_5 : enumOk 2 5 ((1 * (kd 3).1) * (kd 5).1) (newS (newS st0 (kd 3)) (kd 5)) = true := by decide +kernel
theorem e3_6 : enumOk 2 6 ((1 * (kd 3).1) * (kd 6).1) (newS (newS st0 (kd 3)) (kd 6)) = true := by decide +kernel
theorem e3_7 : enumOk 2 7 ((1 * (kd 3).1) * (kd 7).1) (newS (newS st0 (kd 3)) (kd 7)) = true := by decide +kernel
theorem e3_8 : enumOk 2 8 ((1 * (kd 3).1) * (kd 8).1) (newS (newS st0 (kd 3)) (kd 8)) = true := by decide +kernel
theorem e3_9 : enumOk 2 9 ((1 * (kd 3).1) * (kd 9).1) (newS (newS st0 (kd 3)) (kd 9)) = true := by decide +kernel
theorem e3_10 : enumOk 2 10 ((1 * (kd 3).1) * (kd 10).1) (newS (newS st0 (kd 3)) (kd 10)) = true := by decide +kernel
theorem e3_11 : enumOk 2 11 ((1 * (kd 3).1) * (kd 11).1) (newS (newS st0 (kd 3)) (kd 11)) = true := by decide +kernel
theorem e3_12 : enumOk 2 12 ((1 * (kd 3).1) * (kd 12).1) (newS (newS st0 (kd 3)) (kd 12)) = true := by decide +kernel
theorem e3_13 : enumOk 2 13 ((1 * (kd 3).1) * (kd 13).1) (newS (newS st0 (kd 3)) (kd 13)) = true := by decide +kernel
theorem e3c : chk (newS st0 (kd 3)) = true := by decide +kernel
theorem e3 : enumOk 3 3 (1 * (kd 3).1) (newS st0 (kd 3)) = true := enum_intro e3c fun j hj hi hp => by
  have : j = 0 ∨ j = 1 ∨ j = 2 ∨ j = 3 ∨ j = 4 ∨ j = 5 ∨ j = 6 ∨ j = 7 ∨ j = 8 ∨ j = 9 ∨ j = 10 ∨ j = 11 ∨ j = 12 ∨ j = 13 := by omega
  rcases this with rfl | rfl | rfl | rfl | rfl | rfl | rfl | rfl | rfl | rfl | rfl | rfl | rfl | rfl
  · exact absurd hi (by decide)
  · exact absurd hi (by decide)
  · exact absurd hi (by decide)
  · exact e3_3
  · exact e3_4
  · exact e3_5
  · exact e3_6
  · exact e3_7
  · exact e3_8
  · exact e3_9
  · exact e3_10
  · exact e3_11
  · exact e3_12
  · exact e3_13
theorem e4_4_4 : enumOk 1 4 (((1 * (kd 4).1) * (kd 4).1) * (kd 4).1) (newS (newS (newS st0 (kd 4)) (kd 4)) (kd 4)) = true := by decide +kernel
theorem e4_4_5 : enumOk 1 5 (((1 * (kd 4).1) * (kd 4).1) * (kd 5).1) (newS (newS (newS st0 (kd 4)) (kd 4)) (kd 5)) = true := by decide +kernel
theorem e4_4_6 : enumOk 1 6 (((1 * (kd 4).1) * (kd 4).1) * (kd 6).1) (newS (newS (newS st0 (kd 4)) (kd 4)) (kd 6)) = true := by decide +kernel
theorem e4_4_7 : enumOk 1 7 (((1 * (kd 4).1) * (kd 4).1) * (kd 7).1) (newS (newS (newS st0 (kd 4)) (kd 4)) (kd 7)) = true := by decide +kernel
theorem e4_4_8 : enumOk 1 8 (((1 * (kd 4).1) * (kd 4).1) * (kd 8).1) (newS (newS (newS st0 (kd 4)) (kd 4)) (kd 8)) = true := by decide +kernel
theorem e4_4_9 : enumOk 1 9 (((1 * (kd 4).1) * (kd 4).1) * (kd 9).1) (newS (newS (newS st0 (kd 4)) (kd 4)) (kd 9)) = true := by decide +kernel
theorem e4_4_10 : enumOk 1 10 (((1 * (kd 4).1) * (kd 4).1) * (kd 10).1) (newS (newS (newS st0 (kd 4)) (kd 4)) (kd 10)) = true := by decide +kernel
theorem e4_4_11 : enumOk 1 11 (((1 * (kd 4).1) * (kd 4).1) * (kd 11).1) (newS (newS (newS st0 (kd 4)) (kd 4)) (kd 11)) = true := by decide +kernel
theorem e4_4_12 : enumOk 1 12 (((1 * (kd 4).1) * (kd 4).1) * (kd 12).1) (newS (newS (newS st0 (kd 4)) (kd 4)) (kd 12)) = true := by decide +kernel
theorem e4_4_13 : enumOk 1 13 (((1 * (kd 4).1) * (kd 4).1) * (kd 13).1) (newS (newS (newS st0 (kd 4)) (kd 4)) (kd 13)) = true := by decide +kernel
theorem e4_4c : chk (newS (newS st0 (kd 4)) (kd 4)) = true := by decide +kernel
theorem e4_4 : enumOk 2 4 ((1 * (kd 4).1) * (kd 4).1) (newS (newS st0 (kd 4)) (kd 4)) = true := enum_intro e4_4c fun j hj hi hp => by
  have : j = 0 ∨ j = 1 ∨ j = 2 ∨ j = 3 ∨ j = 4 ∨ j = 5 ∨ j = 6 ∨ j = 7 ∨ j = 8 ∨ j = 9 ∨ j = 10 ∨ j = 11 ∨ j = 12 ∨ j = 13 := by omega
  rcases this with rfl | rfl | rfl | rfl | rfl | rfl | rfl | rfl | rfl | rfl | rfl | rfl | rfl | rfl
  · exact absurd hi (by decide)
  · exact absurd hi (by decide)
  · exact absurd hi (by decide)
  · exact absurd hi (by decide)
  · exact e4_4_4
  · exact e4_4_5
  · exact e4_4_6
  · exact e4_4_7
  · exact e4_4_8
  · exact e4_4_9
  · exact e4_4_10
  · exact e4_4_11
  · exact e4_4_12
  · exact e4_4_13
theorem e4_5 : enumOk 2 5 ((1 * (kd 4).1) * (kd 5).1) (newS (newS st0 (kd 4)) (kd 5)) = true := by decide +kernel
theorem e4_6 : enumOk 2 6 ((1 * (kd 4).1) * (kd 6).1) (newS (newS st0 (kd 4)) (kd 6)) = true := by decide +kernel
theorem e4_7 : enumOk 2 7 ((1 * (kd 4).1) * (kd 7).1) (newS (newS st0 (kd 4)) (kd 7)) = true := by decide +kernel
theorem e4_8 : enumOk 2 8 ((1 * (kd 4).1) * (kd 8).1) (newS (newS st0 (kd 4)) (kd 8)) = true := by decide +kernel
theorem e4_9 : enumOk 2 9 ((1 * (kd 4).1) * (kd 9).1) (newS (newS st0 (kd 4)) (kd 9)) = true := by decide +kernel
theorem e4_10 : enumOk 2 10 ((1 * (kd 4).1) * (kd 10).1) (newS (newS st0 (kd 4)) (kd 10)) = true := by decide +kernel
theorem e4_11 : enumOk 2 11 ((1 * (kd 4).1) * (kd 11).1) (newS (newS st0 (kd 4)) (kd 11)) = true := by decide +kernel
theorem e4_12 : enumOk 2 12 ((1 * (kd 4).1) * (kd 12).1) (newS (newS st0 (kd 4)) (kd 12)) = true := by decide +kernel
theorem e4_13 : enumOk 2 13 ((1 * (kd 4).1) * (kd 13).1) (newS (newS st0 (kd 4)) (kd 13)) = true := by decide +kernel
theorem e4c : chk (newS st0 (kd 4)) = true := by decide +kernel
theorem e4 : enumOk 3 4 (1 * (kd 4).1) (newS st0 (kd 4)) = true := enum_intro e4c fun j hj hi hp => by
  have : j = 0 ∨ j = 1 ∨ j = 2 ∨ j = 3 ∨ j = 4 ∨ j = 5 ∨ j = 6 ∨ j = 7 ∨ j = 8 ∨ j = 9 ∨ j = 10 ∨ j = 11 ∨ j = 12 ∨ j = 13 := by omega
  rcases this with rfl | rfl | rfl | rfl | rfl | rfl | rfl | rfl | rfl | rfl | rfl | rfl | rfl | rfl
  · exact absurd hi (by decide)
  · exact absurd hi (by decide)
  · exact absurd hi (by decide)
  · exact absurd hi (by decide)
  · exact e4_4
  · exact e4_5
  · exact e4_6
  · exact e4_7
  · exact e4_8
  · exact e4_9
  · exact e4_10
  · exact e4_11
  · exact e4_12
  · exact e4_13
theorem e5_5 : enumOk 2 5 ((1 * (kd 5).1) * (kd 5).1) (newS (newS st0 (kd 5)) (kd 5)) = true := by decide +kernel
theorem e5_6 : enumOk 2 6 ((1 * (kd 5).1) * (kd 6).1) (newS (newS st0 (kd 5)) (kd 6)) = true := by decide +kernel
theorem e5_7 : enumOk 2 7 ((1 * (kd 5).1) * (kd 7).1) (newS (newS st0 (kd 5)) (kd 7)) = true := by decide +kernel
theorem e5_8 : enumOk 2 8 ((1 * (kd 5).1) * (kd 8).1) (newS (newS st0 (kd 5)) (kd 8)) = true := by decide +kernel
theorem e5_9 : enumOk 2 9 ((1 * (kd 5).1) * (kd 9).1) (newS (newS st0 (kd 5)) (kd 9)) = true := by decide +kernel
theorem e5_10 : enumOk 2 10 ((1 * (kd 5).1) * (kd 10).1) (newS (newS st0 (kd 5)) (kd 10)) = true := by decide +kernel
theorem e5_11 : enumOk 2 11 ((1 * (kd 5).1) * (kd 11).1) (newS (newS st0 (kd 5)) (kd 11)) = true := by decide +kernel
theorem e5_12 : enumOk 2 12 ((1 * (kd 5).1) * (kd 12).1) (newS (newS st0 (kd 5)) (kd 12)) = true := by decide +kernel
theorem e5_13 : enumOk 2 13 ((1 * (kd 5).1) * (kd 13).1) (newS (newS st0 (kd 5)) (kd 13)) = true := by decide +kernel
theorem e5c : chk (newS st0 (kd 5)) = true := by decide +kernel
theorem e5 : enumOk 3 5 (1 * (kd 5).1) (newS st0 (kd 5)) = true := enum_intro e5c fun j hj hi hp => by
  have : j = 0 ∨ j = 1 ∨ j = 2 ∨ j = 3 ∨ j = 4 ∨ j = 5 ∨ j = 6 ∨ j = 7 ∨ j = 8 ∨ j = 9 ∨ j = 10 ∨ j = 11 ∨ j = 12 ∨ j = 13 := by omega
  rcases this with rfl | rfl | rfl | rfl | rfl | rfl | rfl | rfl | rfl | rfl | rfl | rfl | rfl | rfl
  · exact absurd hi (by decide)
  · exact absurd hi (by decide)
  · exact absurd hi (by decide)
  · exact absurd hi (by decide)
  · exact absurd hi (by decide)
  · exact e5_5
  · exact e5_6
  · exact e5_7
  · exact e5_8
  · exact e5_9
  · exact e5_10
  · exact e5_11
  · exact e5_12
  · exact e5_13
theorem e6_6 : enumOk 2 6 ((1 * (kd 6).1) * (kd 6).1) (newS (newS st0 (kd 6)) (kd 6)) = true := by decide +kernel
theorem e6_7 : enumOk 2 7 ((1 * (kd 6).1) * (kd 7).1) (newS (newS st0 (kd 6)) (kd 7)) = true := by decide +kernel
theorem e6_8 : enumOk 2 8 ((1 * (kd 6).1) * (kd 8).1) (newS (newS st0 (kd 6)) (kd 8)) = true := by decide +kernel
theorem e6_9 : enumOk 2 9 ((1 * (kd 6).1) * (kd 9).1) (newS (newS st0 (kd 6)) (kd 9)) = true := by decide +kernel
theorem e6_10 : enumOk 2 10 ((1 * (kd 6).1) * (kd 10).1) (newS (newS st0 (kd 6)) (kd 10)) = true := by decide +kernel
theorem e6_11 : enumOk 2 11 ((1 * (kd 6).1) * (kd 11).1) (newS (newS st0 (kd 6)) (kd 11)) = true := by decide +kernel
theorem e6_12 : enumOk 2 12 ((1 * (kd 6).1) * (kd 12).1) (newS (newS st0 (kd 6)) (kd 12)) = true := by decide +kernel
theorem e6_13 : enumOk 2 13 ((1 * (kd 6).1) * (kd 13).1) (newS (newS st0 (kd 6)) (kd 13)) = true := by decide +kernel
theorem e6c : chk (newS st0 (kd 6)) = true := by decide +kernel
theorem e6 : enumOk 3 6 (1 * (kd 6).1) (newS st0 (kd 6)) = true := enum_intro e6c fun j hj hi hp => by
  have : j = 0 ∨ j = 1 ∨ j = 2 ∨ j = 3 ∨ j = 4 ∨ j = 5 ∨ j = 6 ∨ j = 7 ∨ j = 8 ∨ j = 9 ∨ j = 10 ∨ j = 11 ∨ j = 12 ∨ j = 13 := by omega
  rcases this with rfl | rfl | rfl | rfl | rfl | rfl | rfl | rfl | rfl | rfl | rfl | rfl | rfl | rfl
  · exact absurd hi (by decide)
  · exact absurd hi (by decide)
  · exact absurd hi (by decide)
  · exact absurd hi (by decide)
  · exact absurd hi (by decide)
  · exact absurd hi (by decide)
  · exact e6_6
  · exact e6_7
  · exact e6_8
  · exact e6_9
  · exact e6_10
  · exact e6_11
  · exact e6_12
  · exact e6_13
theorem e7 : enumOk 3 7 (1 * (kd 7).1) (newS st0 (kd 7)) = true := by decide +kernel
theorem e8 : enumOk 3 8 (1 * (kd 8).1) (newS st0 (kd 8)) = true := by decide +kernel
theorem e9 : enumOk 3 9 (1 * (kd 9).1) (newS st0 (kd 9)) = true := by decide +kernel
theorem e10 : enumOk 3 10 (1 * (kd 10).1) (newS st0 (kd 10)) = true := by decide +kernel
theorem e11 : enumOk 3 11 (1 * (kd 11).1) (newS st0 (kd 11)) = true := by decide +kernel
theorem e12 : enumOk 3 12 (1 * (kd 12).1) (newS st0 (kd 12)) = true := by decide +kernel
theorem e13 : enumOk 3 13 (1 * (kd 13).1) (newS st0 (kd 13)) = true := by decide +kernel
theorem eAllc : chk st0 = true := by decide +kernel
theorem eAll : enumOk 4 0 1 st0 = true := enum_intro eAllc fun j hj hi hp => by
  have : j = 0 ∨ j = 1 ∨ j = 2 ∨ j = 3 ∨ j = 4 ∨ j = 5 ∨ j = 6 ∨ j = 7 ∨ j = 8 ∨ j = 9 ∨ j = 10 ∨ j = 11 ∨ j = 12 ∨ j = 13 := by omega
  rcases this with rfl | rfl | rfl | rfl | rfl | rfl | rfl | rfl | rfl | rfl | rfl | rfl | rfl | rfl
  · exact e0
  · exact e1
  · exact e2
  · exact e3
  · exact e4
  · exact e5
  · exact e6
  · exact e7
  · exact e8
  · exact e9
  · exact e10
  · exact e11
  · exact e12
  · exact e13
end Mine
end

section
open PySem
set_option maxRecDepth 100000
set_option linter.unusedVariables false
namespace Mine

/-! floats: one by one -/
def rngI (a : Int) (n : Nat) : List Int := (List.range n).map fun i : Nat => a + (i : Int)
theorem mem_rngI {a x : Int} {n : Nat} (h : a ≤ x) (h' : x < a + n) : x ∈ rngI a n := List.mem_map.mpr ⟨(x - a).toNat, List.mem_range.mpr (by omega), by omega⟩
def quarterOk (n : Nat) (m : Int) : Bool := decide ((m * (n : Int)) % 12 ≠ 0) || quarter (Float64.div (Float64.ofInt (m * (n : Int) / 4)) (Float64.ofInt (n : Int))) m
def halfF (s : Int) : Bool := Float64.cmpInt (Float64.mul (Float64.ofInt 2) (divI s 2)) s == some Ordering.eq
theorem half_all : (rngI (-4) 9).all halfF = true := by decide +kernel
def thK (s : Int) : Bool := (rngI (-2) 5).all fun w => okStep (3 * s) (3 * w)
def wtK (s : Nat) : Bool := (rngI 0 (37 - s)).all fun b => okStep (s : Int) b
theorem q1 : (rngI (-24) 49).all (quarterOk 1) = true := by decide +kernel
theorem q2 : (rngI (-24) 49).all (quarterOk 2) = true := by decide +kernel
theorem q3 : (rngI (-24) 49).all (quarterOk 3) = true := by decide +kernel
theorem q4 : (rngI (-24) 49).all (quarterOk 4) = true := by decide +kernel
theorem q6 : (rngI (-24) 49).all (quarterOk 6) = true := by decide +kernel
theorem q8 : (rngI (-24) 49).all (quarterOk 8) = true := by decide +kernel
theorem q9 : (rngI (-24) 49).all (quarterOk 9) = true := by decide +kernel
theorem q12 : (rngI (-24) 49).all (quarterOk 12) = true := by decide +kernel
theorem q16 : (rngI (-24) 49).all (quarterOk 16) = true := by decide +kernel
theorem q18 : (rngI (-24) 49).all (quarterOk 18) = true := by decide +kernel
theorem q24 : (rngI (-24) 49).all (quarterOk 24) = true := by decide +kernel
theorem q27 : (rngI (-24) 49).all (quarterOk 27) = true := by decide +kernel
theorem q32 : (rngI (-24) 49).all (quarterOk 32) = true := by decide +kernel
theorem q36 : (rngI (-24) 49).all (quarterOk 36) = true := by decide +kernel
theorem quarter_all {n : Nat} (h : n ∈ sizesL) : (rngI (-24) 49).all (quarterOk n) = true := by
  simp only [sizesL, List.mem_cons, List.not_mem_nil, or_false] at h
  rcases h with rfl | rfl | rfl | rfl | rfl | rfl | rfl | rfl | rfl | rfl | rfl | rfl | rfl | rfl
  · exact q1
  · exact q2
  · exact q3
  · exact q4
  · exact q6
  · exact q8
  · exact q9
  · exact q12
  · exact q16
  · exact q18
  · exact q24
  · exact q27
  · exact q32
  · exact q36
theorem th0 : (rngI (-72) 19).all thK = true := by decide +kernel
theorem th1 : (rngI (-53) 19).all thK = true := by decide +kernel
theorem th2 : (rngI (-34) 19).all thK = true := by decide +kernel
theorem th3 : (rngI (-15) 19).all thK = true := by decide +kernel
theorem th4 : (rngI (4) 19).all thK = true := by decide +kernel
theorem th5 : (rngI (23) 19).all thK = true := by decide +kernel
theorem th6 : (rngI (42) 19).all thK = true := by decide +kernel
theorem th7 : (rngI (61) 19).all thK = true := by decide +kernel
theorem th_all {s : Int} (h : -72 ≤ s) (h2 : s ≤ 72) : thK s = true := by
  by_cases k0 : s < -53
  · exact List.all_eq_true.mp th0 s (mem_rngI (by omega) (by omega))
  by_cases k1 : s < -34
  · exact List.all_eq_true.mp th1 s (mem_rngI (by omega) (by omega))
  by_cases k2 : s < -15
  · exact List.all_eq_true.mp th2 s (mem_rngI (by omega) (by omega))
  by_cases k3 : s < 4
  · exact List.all_eq_true.mp th3 s (mem_rngI (by omega) (by omega))
  by_cases k4 : s < 23
  · exact List.all_eq_true.mp th4 s (mem_rngI (by omega) (by omega))
  by_cases k5 : s < 42
  · exact List.all_eq_true.mp th5 s (mem_rngI (by omega) (by omega))
  by_cases k6 : s < 61
  · exact List.all_eq_true.mp th6 s (mem_rngI (by omega) (by omega))
  by_cases k7 : s < 80
  · exact List.all_eq_true.mp th7 s (mem_rngI (by omega) (by omega))
  omega
theorem wt0 : ((List.range 5).map (· + 0)).all (fun s => decide (36 < s) || wtK s) = true := by decide +kernel
theorem wt1 : ((List.range 5).map (· + 5)).all (fun s => decide (36 < s) || wtK s) = true := by decide +kernel
theorem wt2 : ((List.range 5).map (· + 10)).all (fun s => decide (36 < s) || wtK s) = true := by decide +kernel
theorem wt3 : ((List.range 5).map (· + 15)).all (fun s => decide (36 < s) || wtK s) = true := by decide +kernel
theorem wt4 : ((List.range 5).map (· + 20)).all (fun s => decide (36 < s) || wtK s) = true := by decide +kernel
theorem wt5 : ((List.range 5).map (· + 25)).all (fun s => decide (36 < s) || wtK s) = true := by decide +kernel
theorem wt6 : ((List.range 5).map (· + 30)).all (fun s => decide (36 < s) || wtK s) = true := by decide +kernel
theorem wt7 : ((List.range 5).map (· + 35)).all (fun s => decide (36 < s) || wtK s) = true := by decide +kernel
theorem wt_all {s : Nat} (h2 : s ≤ 36) : wtK s = true := by
  by_cases k0 : s < 5
  · have := List.all_eq_true.mp wt0 s (List.mem_map.mpr ⟨s - 0, List.mem_range.mpr (by omega), by omega⟩)
    simp only [Bool.or_eq_true, decide_eq_true_eq] at this
    rcases this with h | h
    · omega
    · exact h
  by_cases k1 : s < 10
  · have := List.all_eq_true.mp wt1 s (List.mem_map.mpr ⟨s - 5, List.mem_range.mpr (by omega), by omega⟩)
    simp only [Bool.or_eq_true, decide_eq_true_eq] at this
    rcases this with h | h
    · omega
    · exact h
  by_cases k2 : s < 15
  · have := List.all_eq_true.mp wt2 s (List.mem_map.mpr ⟨s - 10, List.mem_range.mpr (by omega), by omega⟩)
    simp only [Bool.or_eq_true, decide_eq_true_eq] at this
    rcases this with h | h
    · omega
    · exact h
  by_cases k3 : s < 20
  · have := List.all_eq_true.mp wt3 s (List.mem_map.mpr ⟨s - 15, List.mem_range.mpr (by omega), by omega⟩)
    simp only [Bool.or_eq_true, decide_eq_true_eq] at this
    rcases this with h | h
    · omega
    · exact h
  by_cases k4 : s < 25
  · have := List.all_eq_true.mp wt4 s (List.mem_map.mpr ⟨s - 20, List.mem_range.mpr (by omega), by omega⟩)
    simp only [Bool.or_eq_true, decide_eq_true_eq] at this
    rcases this with h | h
    · omega
    · exact h
  by_cases k5 : s < 30
  · have := List.all_eq_true.mp wt5 s (List.mem_map.mpr ⟨s - 25, List.mem_range.mpr (by omega), by omega⟩)
    simp only [Bool.or_eq_true, decide_eq_true_eq] at this
    rcases this with h | h
    · omega
    · exact h
  by_cases k6 : s < 35
  · have := List.all_eq_true.mp wt6 s (List.mem_map.mpr ⟨s - 30, List.mem_range.mpr (by omega), by omega⟩)
    simp only [Bool.or_eq_true, decide_eq_true_eq] at this
    rcases this with h | h
    · omega
    · exact h
  by_cases k7 : s < 40
  · have := List.all_eq_true.mp wt7 s (List.mem_map.mpr ⟨s - 35, List.mem_range.mpr (by omega), by omega⟩)
    simp only [Bool.or_eq_true, decide_eq_true_eq] at this
    rcases this with h | h
    · omega
    · exact h
  omega

theorem fsum_th : ∀ (l : List Int) (s : Int), (∀ w ∈ l, -2 ≤ w ∧ w ≤ 2) → -72 ≤ s - 2 * (l.length : Int) → s + 2 * (l.length : Int) ≤ 72 → fsumOk (3 * s) (l.map (3 * ·)) = true
  | [], _, _, _, _ => rfl
  | w :: r, s, hw, h1, h2 => by
    obtain ⟨w1, w2⟩ := hw w List.mem_cons_self
    simp only [List.length_cons] at h1 h2
    have k := List.all_eq_true.mp (th_all (s := s) (by omega) (by omega)) w (mem_rngI (by omega) (by omega))
    have ih := fsum_th r (s + w) (fun x hx => hw x (List.mem_cons_of_mem _ hx)) (by omega) (by omega)
    simp only [List.map_cons, fsumOk, k, Bool.true_and]
    rw [show 3 * s + 3 * w = 3 * (s + w) by omega]
    exact ih
theorem fsum_wt : ∀ (l : List Int) (s : Nat), (∀ w ∈ l, 0 ≤ w) → (s : Int) + l.sum ≤ 36 → fsumOk (s : Int) l = true
  | [], _, _, _ => rfl
  | w :: r, s, hw, h1 => by
    have w1 := hw w List.mem_cons_self
    have hr : 0 ≤ r.sum := by
      have : ∀ x ∈ r, 0 ≤ x := fun x hx => hw x (List.mem_cons_of_mem _ hx)
      clear h1 hw
      induction r with
      | nil => simp
      | cons a r ih => rw [List.sum_cons]; have := this a List.mem_cons_self; have := ih fun x hx => ‹∀ x ∈ a :: r, 0 ≤ x› x (List.mem_cons_of_mem _ hx); omega
    rw [List.sum_cons] at h1
    have k := List.all_eq_true.mp (wt_all (s := s) (by omega)) w (mem_rngI (by omega) (by omega))
    have e : (s : Int) + w = ((s + w.toNat : Nat) : Int) := by omega
    have ih := fsum_wt r (s + w.toNat) (fun x hx => hw x (List.mem_cons_of_mem _ hx)) (by omega)
    simp only [fsumOk, k, Bool.true_and]
    rw [e]
    exact ih
end Mine
end

section
open PySem
set_option maxRecDepth 100000
set_option linter.unusedVariables false
namespace Mine

theorem snoc0 (c : List Int) (k : Nat) : (c ++ [0]).getD k 0 = c.getD k 0 := by
  rw [List.getD_eq_getElem?_getD, List.getD_eq_getElem?_getD]
  by_cases h : k < c.length
  · rw [List.getElem?_append_left h]
  · rw [List.getElem?_append_right (Nat.not_lt.mp h), List.getElem?_eq_none (Nat.not_lt.mp h)]
    cases hk : k - c.length with
    | zero => rfl
    | succ n => rfl
theorem cons0 (c : List Int) (k : Nat) : ([0] ++ c).getD k 0 = if k = 0 then 0 else c.getD (k - 1) 0 := by
  cases k with
  | zero => rfl
  | succ k => rfl
theorem getD_out {c : List Int} {k : Nat} (h : c.length ≤ k) : c.getD k 0 = 0 := by rw [List.getD_eq_getElem?_getD, List.getElem?_eq_none h]; rfl
theorem newC_len (c : List Int) (s r : Nat) : (newC c s r).length = c.length + 1 := by simp [newC, rangeL]
theorem getD_newC (c : List Int) (s r k : Nat) : (newC c s r).getD k 0 = ((s - r : Nat) : Int) * c.getD k 0 + (r : Int) * (if k = 0 then 0 else c.getD (k - 1) 0) := by
  by_cases hk : k < c.length + 1
  · have e : (rangeL 0 (c.length + 1))[k]? = some (k : Int) := by simp [rangeL, hk]
    unfold newC
    rw [List.getD_eq_getElem?_getD, List.getElem?_map, e]
    simp only [Option.map_some, Option.getD_some, Int.toNat_natCast]
    rw [snoc0, cons0]
  · rw [getD_out (by rw [newC_len]; omega), getD_out (by omega), if_neg (by omega), getD_out (by omega)]
    simp
theorem ext_getD {l l' : List Int} (h : l.length = l'.length) (k : ∀ i, l.getD i 0 = l'.getD i 0) : l = l' := by
  refine List.ext_getElem h fun i h1 h2 => ?_
  have := k i
  rw [List.getD_eq_getElem?_getD, List.getD_eq_getElem?_getD, List.getElem?_eq_getElem h1, List.getElem?_eq_getElem h2] at this
  exact this
theorem newC_comm (c : List Int) (s r s' r' : Nat) : newC (newC c s r) s' r' = newC (newC c s' r') s r := by
  refine ext_getD (by simp [newC_len]) fun k => ?_
  simp only [getD_newC]
  generalize ((s - r : Nat) : Int) = a
  generalize ((s' - r' : Nat) : Int) = a'
  generalize (r : Int) = b
  generalize (r' : Int) = b'
  by_cases h0 : k = 0
  · simp only [h0, if_true, Int.mul_zero, Int.add_zero]
    rw [Int.mul_left_comm]
  · simp only [h0, if_false]
    by_cases h1 : k - 1 = 0
    · simp only [h1, if_true, Int.mul_zero, Int.add_zero]
      simp only [Int.mul_add]
      have := Int.mul_left_comm a' a (c.getD k 0)
      have := Int.mul_left_comm a' b (c.getD 0 0)
      have := Int.mul_left_comm b' a (c.getD 0 0)
      omega
    · simp only [h1, if_false]
      simp only [Int.mul_add]
      have := Int.mul_left_comm a' a (c.getD k 0)
      have := Int.mul_left_comm a' b (c.getD (k - 1) 0)
      have := Int.mul_left_comm b' a (c.getD (k - 1) 0)
      have := Int.mul_left_comm b' b (c.getD (k - 1 - 1) 0)
      omega
theorem newS_comm (s : St) (a b : Nat × Nat) : newS (newS s a) b = newS (newS s b) a := by
  simp only [newS, St.mk.injEq]
  refine ⟨newC_comm _ _ _ _ _, by omega, by omega, by omega⟩
theorem foldl_perm {l₁ l₂ : List (Nat × Nat)} (p : l₁.Perm l₂) : ∀ s : St, l₁.foldl newS s = l₂.foldl newS s := by
  induction p with
  | nil => intro s; rfl
  | cons x _ ih => intro s; exact ih _
  | swap x y l => intro s; simp only [List.foldl_cons]; rw [newS_comm]
  | trans _ _ h1 h2 => intro s; exact (h1 s).trans (h2 s)

def prodK : List (Nat × Nat) → Nat
  | [] => 1
  | k :: r => k.1 * prodK r
theorem prodK_perm {l₁ l₂ : List (Nat × Nat)} (p : l₁.Perm l₂) : prodK l₁ = prodK l₂ := by
  induction p with
  | nil => rfl
  | cons x _ ih => simp only [prodK, ih]
  | swap x y l => simp only [prodK]; rw [Nat.mul_left_comm]
  | trans _ _ h1 h2 => exact h1.trans h2
theorem prodK_snoc (l : List (Nat × Nat)) (k : Nat × Nat) : prodK (l ++ [k]) = prodK l * k.1 := by
  induction l with
  | nil => simp [prodK]
  | cons x r ih => simp only [List.cons_append, prodK, ih, Nat.mul_assoc]
theorem kd_pos : ∀ j, j < 14 → 1 ≤ (kd j).1 := by decide
theorem prodK_pos : ∀ (js : List Nat), (∀ j ∈ js, j < 14) → 1 ≤ prodK (js.map kd)
  | [], _ => Nat.le_refl _
  | j :: r, h => Nat.mul_pos (kd_pos j (h j List.mem_cons_self)) (prodK_pos r fun j hj => h j (List.mem_cons_of_mem _ hj))

theorem enum_sound : ∀ (js : List Nat) (d i p : Nat) (s : St), enumOk d i p s = true → js.length ≤ d → js.Pairwise (· ≤ ·) → (∀ j ∈ js, i ≤ j ∧ j < 14) → p * prodK (js.map kd) ≤ 36 → chk ((js.map kd).foldl newS s) = true
  | [], d, i, p, s, h, _, _, _, _ => enum_chk h
  | j :: r, 0, i, p, s, h, hl, _, _, _ => by simp at hl
  | j :: r, d + 1, i, p, s, h, hl, hp, hj, hm => by
    obtain ⟨hp1, hp2⟩ := List.pairwise_cons.mp hp
    obtain ⟨h1, h2⟩ := hj j List.mem_cons_self
    have pos := prodK_pos r fun j hj' => (hj j (List.mem_cons_of_mem _ hj')).2
    simp only [List.map_cons, prodK] at hm
    rw [← Nat.mul_assoc] at hm
    have hle : p * (kd j).1 ≤ 36 := Nat.le_trans (Nat.le_mul_of_pos_right _ pos) hm
    have k := enum_kid h h2 h1 hle
    exact enum_sound r d j _ _ k (by simpa using hl) hp2 (fun x hx => ⟨hp1 x hx, (hj x (List.mem_cons_of_mem _ hx)).2⟩) hm

theorem ks_js : ∀ (ks : List (Nat × Nat)), (∀ k ∈ ks, k ∈ kt) → ∃ js : List Nat, ks = js.map kd ∧ ∀ j ∈ js, j < 14
  | [], _ => ⟨[], rfl, by simp⟩
  | k :: r, h => by
    obtain ⟨js, e, hj⟩ := ks_js r fun x hx => h x (List.mem_cons_of_mem _ hx)
    obtain ⟨i, hi, ei⟩ := List.getElem_of_mem (h k List.mem_cons_self)
    refine ⟨i :: js, ?_, ?_⟩
    · rw [List.map_cons, ← e]
      congr 1
      rw [← ei, kd, List.getD_eq_getElem?_getD, List.getElem?_eq_getElem hi]; rfl
    · intro j hj'
      rcases List.mem_cons.mp hj' with rfl | hj'
      · exact hi
      · exact hj j hj'
/-- the same numbers, in order -/
def insN (a : Nat) : List Nat → List Nat
  | [] => [a]
  | b :: r => if a ≤ b then a :: b :: r else b :: insN a r
theorem insN_perm (a : Nat) : ∀ l, (insN a l).Perm (a :: l)
  | [] => .refl _
  | b :: r => by
    unfold insN
    split
    · exact .refl _
    · exact ((insN_perm a r).cons b).trans (.swap _ _ _)
theorem insN_sorted (a : Nat) : ∀ l : List Nat, l.Pairwise (· ≤ ·) → (insN a l).Pairwise (· ≤ ·)
  | [], _ => by simp [insN]
  | b :: r, h => by
    obtain ⟨h1, h2⟩ := List.pairwise_cons.mp h
    unfold insN
    split
    · rename_i hab
      refine List.pairwise_cons.mpr ⟨fun x hx => ?_, h⟩
      rcases List.mem_cons.mp hx with rfl | hx
      · exact hab
      · exact Nat.le_trans hab (h1 x hx)
    · rename_i hab
      refine List.pairwise_cons.mpr ⟨fun x hx => ?_, insN_sorted a r h2⟩
      rcases List.mem_cons.mp ((insN_perm a r).mem_iff.mp hx) with rfl | hx
      · omega
      · exact h1 x hx
theorem sorted_ex : ∀ l : List Nat, ∃ l' : List Nat, l'.Perm l ∧ l'.Pairwise (· ≤ ·)
  | [] => ⟨[], .refl _, .nil⟩
  | a :: r => let ⟨l', p, h⟩ := sorted_ex r; ⟨insN a l', (insN_perm a l').trans (p.cons a), insN_sorted a l' h⟩

theorem chk_all {ks : List (Nat × Nat)} (hl : ks.length ≤ 4) (hk : ∀ k ∈ ks, k ∈ kt) (hp : prodK ks ≤ 36) : chk (ks.foldl newS st0) = true := by
  obtain ⟨js, rfl, hj⟩ := ks_js ks hk
  obtain ⟨js', p, hs⟩ := sorted_ex js
  have pm := p.map kd
  rw [← foldl_perm pm]
  refine enum_sound js' 4 0 1 st0 eAll (by rw [p.length_eq]; simpa using hl) hs (fun j hj' => ⟨Nat.zero_le _, hj j (p.mem_iff.mp hj')⟩) ?_
  rw [prodK_perm pm, Nat.one_mul]; exact hp

/-! the books that a row makes -/
def Book.st (b : Book) : St := ⟨b.counts, b.sure, b.most, b.mean⟩
def cntOk (b : Book) : Prop := ∀ v : Int, (b.ways.count v : Int) = if v < -2 then 0 else b.counts.getD (v + 2).toNat 0
theorem cnt_rep1 (l : List Int) (n : Nat) (v : Int) : (l.flatMap fun a => List.replicate n (a + 1)).count v = n * l.count (v - 1) := by
  induction l with
  | nil => simp
  | cons a r ih =>
    rw [List.flatMap_cons, List.count_append, ih, List.count_replicate, List.count_cons]
    have e : (a + 1 == v) = (a == v - 1) := by rw [Bool.eq_iff_iff]; simp only [beq_iff_eq]; omega
    rw [e]
    split
    · rw [Nat.mul_add, Nat.mul_one, Nat.add_comm]
    · simp
theorem cnt_rep0 (l : List Int) (n : Nat) (v : Int) : (l.flatMap fun a => List.replicate n a).count v = n * l.count v := by
  induction l with
  | nil => simp
  | cons a r ih =>
    rw [List.flatMap_cons, List.count_append, ih, List.count_replicate, List.count_cons]
    split
    · rw [Nat.mul_add, Nat.mul_one, Nat.add_comm]
    · simp
theorem cntOk_new {b : Book} (h : cntOk b) (s r : Nat) : cntOk (newB b s r) := fun v => by
  show (((b.ways.flatMap fun a => List.replicate r (a + 1)) ++ b.ways.flatMap fun a => List.replicate (s - r) a).count v : Int) = if v < -2 then 0 else (newC b.counts s r).getD (v + 2).toNat 0
  rw [List.count_append, cnt_rep1, cnt_rep0]
  push_cast
  have h1 := h v
  have h2 := h (v - 1)
  by_cases hv : v < -2
  · rw [if_pos hv] at h1 ⊢
    rw [if_pos (by omega)] at h2
    rw [h1, h2]; simp
  · rw [if_neg hv] at h1 ⊢
    rw [getD_newC, h1]
    by_cases h0 : v = -2
    · subst h0
      rw [if_pos (by omega)] at h2
      rw [h2]
      simp
    · rw [if_neg (by omega)] at h2
      rw [h2, if_neg (by omega), show (v - 1 + 2).toNat = (v + 2).toNat - 1 by omega]
      exact Int.add_comm _ _

structure Rch (b : Book) (m : Nat) : Prop where
  ex : ∃ ks : List (Nat × Nat), ks.length ≤ m ∧ (∀ k ∈ ks, k ∈ kt) ∧ b.st = ks.foldl newS st0 ∧ b.ways.length = prodK ks
  cnt : cntOk b
  le : b.ways.length ≤ 36
theorem kt_all5 : ((List.range 5).all fun s => (List.range 5).all fun r => decide (s = 0) || decide (s < r) || kt.contains (s, r)) = true := by decide
theorem kt_all (s : Nat) (h : s ≤ 4) (r : Nat) (h' : r ≤ 4) (a : 1 ≤ s) (b : r ≤ s) : (s, r) ∈ kt := by
  have := List.all_eq_true.mp (List.all_eq_true.mp kt_all5 s (List.mem_range.mpr (by omega))) r (List.mem_range.mpr (by omega))
  simp only [Bool.or_eq_true, decide_eq_true_eq] at this
  rcases this with (k | k) | k
  · omega
  · omega
  · exact List.contains_iff_mem.mp k
theorem Rch.step {b : Book} {m : Nat} (x : Rch b m) (number : Int) (h : b.ways.length * sizeOf number ≤ 36) : Rch (newB b (sizeOf number) (redOf number)) (m + 1) := by
  obtain ⟨ks, h1, h2, h3, h4⟩ := x.ex
  obtain ⟨s1, s2⟩ := sizeOf_le number
  have r1 := redOf_le number
  refine ⟨⟨ks ++ [(sizeOf number, redOf number)], by simpa using h1, ?_, ?_, ?_⟩, cntOk_new x.cnt _ _, ?_⟩
  · intro k hk
    rcases List.mem_append.mp hk with hk | hk
    · exact h2 k hk
    · rw [List.mem_singleton.mp hk]; exact kt_all _ s2 _ (Nat.le_trans r1 s2) s1 r1
  · rw [List.foldl_append, ← h3]; rfl
  · rw [newB_ways _ r1, prodK_snoc, h4]
  · rw [newB_ways _ r1]; exact h
theorem Rch.more {b : Book} {m n : Nat} (x : Rch b m) (h : m ≤ n) : Rch b n := ⟨let ⟨ks, h1, r⟩ := x.ex; ⟨ks, Nat.le_trans h1 h, r⟩, x.cnt, x.le⟩
theorem rch0 : Rch book0 0 := by
  refine ⟨⟨[], Nat.le_refl _, by simp, rfl, rfl⟩, fun v => ?_, by decide⟩
  show ((List.count v [-2] : Nat) : Int) = if v < -2 then 0 else [(1 : Int)].getD (v + 2).toNat 0
  rw [List.count_singleton]
  by_cases h : v = -2
  · subst h; rfl
  · rw [if_neg (by simp; omega)]
    split
    · rfl
    · rw [getD_out]
      · rfl
      · simp; omega
theorem fold_rch : ∀ (row : List Int) (st : Book × List Book) (m : Nat), m + row.length ≤ 4 → Rch st.1 m → (∀ b ∈ st.2, Rch b 4) → ∀ b ∈ (row.foldl stepS st).2, Rch b 4
  | [], st, m, _, _, h => h
  | n :: r, st, m, hm, h1, h2 => by
    simp only [List.length_cons] at hm
    rw [List.foldl_cons]
    unfold stepS
    split
    · rename_i hle
      have k := h1.step n hle
      refine fold_rch r _ (m + 1) (by omega) k fun b hb => ?_
      rcases List.mem_append.mp hb with hb | hb
      · exact h2 b hb
      · rw [List.mem_singleton.mp hb]; exact k.more (by omega)
    · exact fold_rch r _ (m + 1) (by omega) (h1.more (Nat.le_succ _)) h2
theorem rows_rch : ∀ (rows : List (List Int)) (out : List Book), (∀ r ∈ rows, r.length ≤ 4) → (∀ b ∈ out, Rch b 4) → ∀ b ∈ rows.foldl rowS out, Rch b 4
  | [], _, _, h => h
  | r :: rs, out, hr, h => rows_rch rs _ (fun x hx => hr x (List.mem_cons_of_mem _ hx)) (fold_rch r (book0, out) 0 (by have := hr r List.mem_cons_self; omega) rch0 h)
theorem books_rch {rows : List (List Int)} (hr : ∀ r ∈ rows, r.length ≤ 4) : ∀ b ∈ booksL rows, Rch b 4 := rows_rch rows [book0] hr fun b hb => by rw [List.mem_singleton.mp hb]; exact rch0.more (by decide)
theorem Rch.chk {b : Book} (x : Rch b 4) : Mine.chk b.st = true := by
  obtain ⟨ks, h1, h2, h3, h4⟩ := x.ex
  rw [h3]
  exact chk_all h1 h2 (h4 ▸ x.le)
end Mine
end

section
open PySem
set_option maxRecDepth 100000
set_option linter.unusedVariables false
namespace Mine

/-! the search, moved -/
theorem bs_shift (p q : Nat → Bool) (k : Nat) : ∀ (f lo hi : Nat), (∀ i, lo ≤ i → i < hi → p (k + i) = q i) → bs p f (k + lo) (k + hi) = k + bs q f lo hi
  | 0, _, _, _ => rfl
  | f + 1, lo, hi, h => by
    unfold bs
    by_cases hlt : lo < hi
    · rw [if_pos hlt, if_pos (by omega)]
      have em : (k + lo + (k + hi)) / 2 = k + (lo + hi) / 2 := by omega
      rw [em, h _ (by omega) (by omega)]
      split
      · have := bs_shift p q k f ((lo + hi) / 2 + 1) hi fun i h1 h2 => h i (by omega) h2
        rw [← this]; congr 1
      · exact bs_shift p q k f lo ((lo + hi) / 2) fun i h1 h2 => h i h1 (by omega)
    · rw [if_neg hlt, if_neg (by omega)]
theorem bsr_shift (p q : Nat → Bool) (k lo hi : Nat) (h : ∀ i, lo ≤ i → i < hi → p (k + i) = q i) : bsr p (k + lo) (k + hi) = k + bsr q lo hi := by
  unfold bsr
  rw [show k + hi - (k + lo) = hi - lo by omega]
  exact bs_shift p q k _ lo hi h
theorem bs_le (p : Nat → Bool) : ∀ (f lo hi : Nat), lo ≤ hi → bs p f lo hi ≤ hi
  | 0, _, _, h => h
  | f + 1, lo, hi, h => by
    unfold bs
    split
    · split
      · exact bs_le p f _ _ (by omega)
      · exact Nat.le_trans (bs_le p f lo _ (by omega)) (by omega)
    · exact h

theorem getD_mid {α : Type} (a b c : List α) (d : α) {i : Nat} (h : i < b.length) : (a ++ b ++ c).getD (a.length + i) d = b.getD i d := by
  rw [List.getD_eq_getElem?_getD, List.getD_eq_getElem?_getD, List.append_assoc, List.getElem?_append_right (by omega), show a.length + i - a.length = i by omega, List.getElem?_append_left h]

theorem cut_at {bs : List Book} {i : Nat} {b : Book} (h : bs[i]? = some b) : bs = bs.take i ++ [b] ++ bs.drop (i + 1) := by
  obtain ⟨hi, e⟩ := List.getElem?_eq_some_iff.mp h
  rw [← take_snoc h, List.take_append_drop]
theorem sums_cut {bs : List Book} {i : Nat} {b : Book} (h : bs[i]? = some b) : sumsL bs = sumsL (bs.take i) ++ accL 0 b.counts ++ sumsL (bs.drop (i + 1)) := by
  conv => lhs; rw [cut_at h]
  simp [sumsL]
theorem pairs_cut {bs : List Book} {i : Nat} {b : Book} (h : bs[i]? = some b) : pairsL bs = pairsL (bs.take i) ++ pairL b.counts ++ pairsL (bs.drop (i + 1)) := by
  conv => lhs; rw [cut_at h]
  simp [pairsL]
theorem high_is {bs : List Book} {i : Nat} {b : Book} (h : bs[i]? = some b) : (highOf bs i).getD (sumsL bs).length = lowOf bs i + b.counts.length := by
  have hi := (List.getElem?_eq_some_iff.mp h).1
  unfold highOf lowOf
  split
  · rw [Option.getD_some, sumsL_succ h, List.length_append, accL_len]
  · rw [Option.getD_none, sums_cut h, List.drop_eq_nil_of_le (by omega)]
    simp [sumsL, accL_len]
theorem left_is {bs : List Book} {i : Nat} {b : Book} (h : bs[i]? = some b) (t : Int) : leftL (sumsL bs) (lowOf bs i) (highOf bs i) t = (locLeft (accL 0 b.counts) t : Int) := by
  unfold leftL locLeft
  rw [high_is h, accL_len]
  have := bsr_shift (fun i => decide ((sumsL bs).getD i 0 < t)) (fun j => decide ((accL 0 b.counts).getD j 0 < t)) (lowOf bs i) 0 b.counts.length fun j _ hj => by
    rw [sums_cut h, lowOf, getD_mid _ _ _ _ (by rw [accL_len]; exact hj)]
  rw [Nat.add_zero] at this
  rw [this]; omega
theorem right_is {bs : List Book} {i : Nat} {b : Book} (h : bs[i]? = some b) (t : Int) : rightL (sumsL bs) (lowOf bs i) (highOf bs i) t = (locRight (accL 0 b.counts) t : Int) := by
  unfold rightL locRight
  rw [high_is h, accL_len]
  have := bsr_shift (fun i => !decide (t < (sumsL bs).getD i 0)) (fun j => !decide (t < (accL 0 b.counts).getD j 0)) (lowOf bs i) 0 b.counts.length fun j _ hj => by
    rw [sums_cut h, lowOf, getD_mid _ _ _ _ (by rw [accL_len]; exact hj)]
  rw [Nat.add_zero] at this
  rw [this]; omega
theorem falls_at {bs : List Book} {i : Nat} {b : Book} (h : bs[i]? = some b) {j : Nat} (hj : j < b.counts.length) : falls (pairsL bs) (lowOf bs i + j) = falls (pairL b.counts) j := by
  unfold falls
  rw [pairs_cut h, lowOf, ← pairsL_len, getD_mid _ _ _ _ (by rw [pairL_len]; exact hj)]
theorem first_is {bs : List Book} {i : Nat} {b : Book} (h : bs[i]? = some b) (hm : b.most ≤ b.counts.length) : firstL (pairsL bs) (lowOf bs i) b.sure b.most = (locF b.counts b.sure b.most : Int) := by
  unfold firstL locF
  rw [bsr_shift _ (fun j => decide (falls (pairL b.counts) j < 0)) (lowOf bs i) b.sure b.most fun j _ hj => by rw [falls_at h (by omega)]]
  omega
theorem last_is {bs : List Book} {i : Nat} {b : Book} (h : bs[i]? = some b) (hm : b.most ≤ b.counts.length) : lastL (pairsL bs) (lowOf bs i) b.sure b.most = (locL b.counts b.sure b.most : Int) := by
  unfold lastL locL
  rw [bsr_shift _ (fun j => !decide (0 < falls (pairL b.counts) j)) (lowOf bs i) b.sure b.most fun j _ hj => by rw [falls_at h (by omega)]]
  omega

/-! the ways in order -/
theorem ex_count (f : Nat → Nat) (v : Int) : ∀ n : Nat, ((List.range n).flatMap fun k => List.replicate (f k) ((k : Int) - 2)).count v = if v < -2 then 0 else if (v + 2).toNat < n then f (v + 2).toNat else 0
  | 0 => by simp
  | n + 1 => by
    rw [List.range_succ, List.flatMap_append, List.count_append, ex_count f v n]
    simp only [List.flatMap_cons, List.flatMap_nil, List.append_nil]
    rw [List.count_replicate]
    by_cases hv : v < -2
    · rw [if_pos hv, if_pos hv, if_neg (by simp; omega)]
    · rw [if_neg hv, if_neg hv]
      by_cases e : (n : Int) - 2 = v
      · have hb : ((n : Int) - 2 == v) = true := beq_iff_eq.mpr e
        have e' : (v + 2).toNat = n := by omega
        rw [hb, e']; simp
      · have hb : ((n : Int) - 2 == v) = false := by simpa using e
        rw [hb]
        by_cases h1 : (v + 2).toNat < n
        · rw [if_pos h1, if_pos (show (v + 2).toNat < n + 1 by omega)]; simp
        · rw [if_neg h1, if_neg (show ¬ (v + 2).toNat < n + 1 by omega)]; simp
theorem ex_mem (f : Nat → Nat) (n : Nat) (x : Int) (h : x ∈ (List.range n).flatMap fun k => List.replicate (f k) ((k : Int) - 2)) : -2 ≤ x ∧ x < (n : Int) - 2 := by
  obtain ⟨k, hk, hx⟩ := List.mem_flatMap.mp h
  have := List.mem_range.mp hk
  have := List.eq_of_mem_replicate hx
  omega
theorem ex_sorted (f : Nat → Nat) : ∀ n : Nat, ((List.range n).flatMap fun k => List.replicate (f k) ((k : Int) - 2)).Pairwise (· ≤ ·)
  | 0 => by simp
  | n + 1 => by
    rw [List.range_succ, List.flatMap_append]
    simp only [List.flatMap_cons, List.flatMap_nil, List.append_nil]
    refine List.pairwise_append.mpr ⟨ex_sorted f n, List.pairwise_replicate.mpr (.inr (Int.le_refl _)), fun x hx y hy => ?_⟩
    have := ex_mem f n x hx
    rw [List.eq_of_mem_replicate hy]
    omega
theorem ways_perm {b : Book} (h : cntOk b) (hp : ∀ x ∈ b.counts, 0 ≤ x) : (expand b.counts).Perm b.ways := by
  refine List.perm_iff_count.mpr fun v => ?_
  have e := h v
  have := ex_count (fun k => (b.counts.getD k 0).toNat) v b.counts.length
  unfold expand
  rw [this]
  by_cases hv : v < -2
  · rw [if_pos hv] at e ⊢; omega
  · rw [if_neg hv] at e ⊢
    by_cases h1 : (v + 2).toNat < b.counts.length
    · rw [if_pos h1]
      have : 0 ≤ b.counts.getD (v + 2).toNat 0 := by
        rw [List.getD_eq_getElem?_getD, List.getElem?_eq_getElem h1]
        exact hp _ (List.getElem_mem h1)
      omega
    · rw [if_neg h1]
      rw [getD_out (Nat.not_lt.mp h1)] at e
      omega
theorem sum_perm {l l' : List Int} (p : l.Perm l') : l.sum = l'.sum := by
  induction p with
  | nil => rfl
  | cons x _ ih => simp only [List.sum_cons, ih]
  | swap x y l => simp only [List.sum_cons]; omega
  | trans _ _ h1 h2 => exact h1.trans h2
theorem sum_bound : ∀ l : List Int, (∀ x ∈ l, -2 ≤ x ∧ x ≤ 2) → -2 * (l.length : Int) ≤ l.sum ∧ l.sum ≤ 2 * (l.length : Int)
  | [], _ => by simp
  | x :: r, h => by
    have := h x List.mem_cons_self
    have := sum_bound r fun y hy => h y (List.mem_cons_of_mem _ hy)
    simp only [List.sum_cons, List.length_cons]
    omega
theorem sum_thrice : ∀ l : List Int, (thriceL l).sum = 3 * l.sum
  | [] => rfl
  | x :: r => by
    have := sum_thrice r
    simp only [thriceL, List.map_cons, List.sum_cons] at this ⊢
    omega
theorem getD_bound {l : List Int} (h : ∀ x ∈ l, -2 ≤ x ∧ x ≤ 2) (i : Nat) : -2 ≤ l.getD i 0 ∧ l.getD i 0 ≤ 2 := by
  rw [List.getD_eq_getElem?_getD]
  cases e : l[i]? with
  | none => exact ⟨by decide, by decide⟩
  | some x => exact h x (List.mem_of_getElem? e)

theorem told_of {bs : List Book} {i : Nat} {b : Book} (h : bs[i]? = some b) (hr : Rch b 4) (hs : (sumsL bs).length ≤ 1000) :
    ToldOk b.ways b.counts b.sure b.most b.mean (sumsL bs) (pairsL bs) (lowOf bs i) (highOf bs i) := by
  have hc := hr.chk
  unfold chk chkA at hc
  simp only [Bool.and_eq_true, decide_eq_true_eq, Bool.or_eq_true] at hc
  obtain ⟨⟨⟨⟨⟨⟨⟨⟨⟨⟨⟨⟨⟨⟨⟨⟨k1, k2⟩, k3⟩, k4⟩, k5⟩, k6⟩, k7⟩, k8⟩, k9⟩, k10⟩, k11⟩, k12⟩, k13⟩, k14⟩, k15⟩, k16⟩, _⟩ := hc
  simp only [Book.st] at k1 k2 k3 k4 k5 k6 k7 k8 k9 k10 k11 k12 k13 k14 k15 k16
  have hp : ∀ x ∈ b.counts, 0 ≤ x := fun x hx => of_decide_eq_true (List.all_eq_true.mp k2 x hx)
  have pm := ways_perm hr.cnt hp
  have hso : expand b.counts = isort b.ways := isort_of pm (ex_sorted _ _)
  have hlen : (expand b.counts).length = b.ways.length := pm.length_eq
  have hel : ∀ x ∈ expand b.counts, -2 ≤ x ∧ x ≤ 2 := fun x hx => by have := ex_mem _ _ x hx; omega
  have hwl : ∀ x ∈ b.ways, -2 ≤ x ∧ x ≤ 2 := fun x hx => hel x (pm.mem_iff.mpr hx)
  have hle := hr.le
  have hn0 : 0 < b.ways.length := by
    rw [← hlen]
    simp only [sizesL, List.mem_cons, List.not_mem_nil, or_false] at k1
    omega
  have hsum := sum_perm pm
  have hML : medLow b.ways = lowM (expand b.counts) := by unfold medLow lowM; rw [hso, isort_len]
  have hMH : medHigh b.ways = (expand b.counts).getD ((expand b.counts).length / 2) 0 := by unfold medHigh; rw [hso, isort_len]
  have hlb := getD_bound hel
  have hF := first_is h k5
  have hLs := last_is h k5
  have bF : locF b.counts b.sure b.most ≤ 5 := Nat.le_trans (bs_le _ _ _ _ k6) (by omega)
  have bL : locL b.counts b.sure b.most ≤ 5 := Nat.le_trans (bs_le _ _ _ _ k6) (by omega)
  have hw : (weightsL b.counts).sum = b.counts.sum := by
    have : (weightsL b.counts).Perm b.counts := by
      have p := List.perm_append_comm (l₁ := b.counts.drop 1) (l₂ := b.counts.take 1)
      rw [List.take_append_drop] at p
      exact p
    exact sum_perm this
  have hwn : (weightsL b.counts).sum = (b.ways.length : Int) := by rw [hw, ← k7, hlen]
  have hq := List.all_eq_true.mp (quarter_all k1) (b.mean - 24) (mem_rngI k13.1 (by omega))
  rw [hlen, hsum] at k14
  rw [hlen] at hq
  have hq' : quarter (Float64.div (Float64.ofInt (3 * b.ways.sum)) (Float64.ofInt (b.ways.length : Int))) (b.mean - 24) = true := by
    unfold quarterOk at hq
    simp only [Bool.or_eq_true, decide_eq_true_eq] at hq
    rw [← k14] at hq
    rcases hq with hq | hq
    · omega
    · rw [show 4 * (3 * b.ways.sum) / 4 = 3 * b.ways.sum by omega] at hq
      exact hq
  have sb := sum_bound b.ways hwl
  have hmS : b.ways.length % 2 = 0 → medSum b.ways = medLow b.ways + medHigh b.ways := fun he => by
    unfold medSum medLow medHigh
    rw [if_neg (by omega)]
  have msb : -4 ≤ medSum b.ways ∧ medSum b.ways ≤ 4 := by
    unfold medSum
    rw [← hso]
    have := hlb (b.ways.length / 2 - 1)
    have := hlb (b.ways.length / 2)
    omega
  have hcut := high_is h
  have hpl := pairsL_len bs
  have hlow : lowOf bs i + b.counts.length ≤ (sumsL bs).length := by
    rw [sums_cut h, List.length_append, List.length_append, accL_len]
    unfold lowOf; omega
  refine ⟨hn0, by omega, k3, by omega, hs, by omega, by rw [hcut]; exact hlow, by omega, by omega, ?_, ?_, ?_, ?_, ?_, ?_, ?_, ?_, ?_, k16, ?_, ?_, ?_, ?_, ?_⟩
  · rw [hMH]; have := hlb ((expand b.counts).length / 2); omega
  · rw [hF, hLs]; omega
  · rw [hF, hLs, hML, hMH]; exact k8
  · rw [hF, hLs]; exact k9
  · rw [← hlen, ← hso, ← k10]
    exact List.map_congr_left fun t _ => left_is h _
  · rw [← hlen, ← hso, ← k11]
    exact List.map_congr_left fun t _ => right_is h _
  · rw [left_is h, right_is h, hML, hMH, ← hlen]; exact k12
  · have := fsum_th b.ways 0 hwl (by omega) (by omega)
    simpa [thriceL] using this
  · refine fsum_wt (weightsL b.counts) 0 (fun x hx => ?_) (by rw [hwn]; omega)
    rcases List.mem_append.mp hx with hx | hx
    · exact hp x (List.mem_of_mem_drop hx)
    · exact hp x (List.mem_of_mem_take hx)
  · rw [k15, hsum]; omega
  · rw [hwn]; omega
  · unfold mean1
    rw [sum_thrice, show (thriceL b.ways).length = b.ways.length by simp [thriceL]]
    exact hq'
  · unfold mean2
    rw [k15, hsum, hwn]
    exact hq'
  · unfold halfOk
    split
    · rename_i ho
      have : medLow b.ways = medHigh b.ways := by unfold medLow medHigh; rw [if_pos ho]
      rw [this, beq_iff_eq]; omega
    · rename_i ho
      rw [← hmS (by omega)]
      exact List.all_eq_true.mp half_all _ (mem_rngI msb.1 (by omega))

theorem law_ok (script : List Int) : (booksL (rowsOf script)).length ≤ 100 ∧ (∀ b ∈ booksL (rowsOf script), b.counts.length ≤ 100) ∧
    ∀ (i : Nat) (b : Book), (booksL (rowsOf script))[i]? = some b → ToldOk b.ways b.counts b.sure b.most b.mean (sumsL (booksL (rowsOf script))) (pairsL (booksL (rowsOf script))) (lowOf (booksL (rowsOf script)) i) (highOf (booksL (rowsOf script)) i) := by
  have hrow : ∀ r ∈ rowsOf script, r.length ≤ 4 := by
    intro r hr'
    simp only [rowsOf, List.mem_cons, List.not_mem_nil, or_false] at hr'
    rcases hr' with rfl | rfl | rfl | rfl
    · rw [List.length_take]; omega
    all_goals decide
  have hbf := (books_fit (rowsOf script) [book0] 0 hrow (by decide) rfl).1
  have hlen : (booksL (rowsOf script)).length ≤ 17 := hbf
  have hrch := books_rch hrow
  have hcl : ∀ b ∈ booksL (rowsOf script), b.counts.length ≤ 5 := fun b hb => by
    have hc := (hrch b hb).chk
    unfold chk chkA at hc
    simp only [Bool.and_eq_true, decide_eq_true_eq] at hc
    exact hc.1.1.1.1.1.1.1.1.1.1.1.1.1.2
  have hsl : ∀ bs : List Book, (∀ b ∈ bs, b.counts.length ≤ 5) → (sumsL bs).length ≤ 5 * bs.length := fun bs hb => by
    induction bs with
    | nil => simp [sumsL]
    | cons b r ih =>
      have h1 := hb b List.mem_cons_self
      have h2 := ih fun b hb' => hb b (List.mem_cons_of_mem _ hb')
      simp only [sumsL, List.flatMap_cons, List.length_append, accL_len, List.length_cons] at h2 ⊢
      omega
  have := hsl _ hcl
  exact ⟨by omega, fun b hb => by have := hcl b hb; omega, fun i b h => told_of h (hrch b (List.mem_of_getElem? h)) (by omega)⟩
end Mine
end

section
open PySem PySem.W PyProof.Rows
set_option maxRecDepth 100000
set_option maxHeartbeats 8000000
namespace Mine
open_top hd for PySem.Challenge.rw_sc0049_01
end Mine
end

section
open PySem PySem.W PyProof.Rows PySem.Calls
set_option maxRecDepth 100000
set_option maxHeartbeats 4000000
namespace Mine
theorem ns_some_of {K : Frag} {h : Heap} {N : Addr} {mg : Str → Option Value} {n : Str} {v : Value} (X : K.In h) (G : h.Ns N mg) (e : nsIn K N n = some (some v)) : mg n = some v := by
  obtain ⟨o, es, ep, ho, hd, _, hf⟩ := G
  unfold nsIn at e
  split at e
  · rename_i c d es' n' sl q
    have := X _ _ q
    rw [ho] at this
    cases this
    cases hd
    split at e
    · rename_i en he
      rw [← hf]
      unfold nsFind findBy
      rw [← Array.find?_toList, he]
      injection e
    · split at e <;> cases e
  · cases e
theorem key_ns {h : Heap} {a : Addr} {k : Str} {v : Value} {hs : Int} {t : Tok} {n : Nat} (e : h.get? a = some { cls := .type "dict", data := .dict #[{ hash := hs, key := .str k t, val := v }] n }) : h.Ns a (nsFind #[{ hash := hs, key := .str k t, val := v }]) :=
  ⟨_, _, _, e, rfl, by intro e he; simp at he; subst he; exact ⟨_, _, rfl⟩, fun _ => rfl⟩
def tab : Tab := ⟨63, 70, 77, 84, 93, 102, 109, 114, 121, 128, 133, 140⟩
theorem wz_of {P : Params} {h : Heap} (X : (hd.heap_39 P).In h) {p : Program} {loose : List Str} {mean : ExcName → Option Value} {mg mb : Str → Option Value} (T : Top p loose mean mg mb h) : Wz mg mb tab h := by
  have nn : ∀ x ∈ builtNames, mg x = none := by
    intro x hx
    simp only [builtNames, List.mem_cons, List.not_mem_nil, or_false] at hx
    rcases hx with rfl | rfl | rfl | rfl | rfl | rfl | rfl | rfl | rfl | rfl
    all_goals exact ns_none_of X T.g (by rfl)
  refine ⟨⟨⟨T.g, T.b, fun x hx => T.builtins x hx, T.nolimit⟩, nn, ns_some_of X T.g (by rfl), ns_some_of X T.g (by rfl), ⟨ns_some_of X T.g (by rfl), ns_some_of X T.g (by rfl), ns_some_of X T.g (by rfl), ns_some_of X T.g (by rfl), ns_some_of X T.g (by rfl), ns_some_of X T.g (by rfl), ns_some_of X T.g (by rfl), ns_some_of X T.g (by rfl), ns_some_of X T.g (by rfl), ns_some_of X T.g (by rfl), ns_some_of X T.g (by rfl), ns_some_of X T.g (by rfl)⟩, ?_, ?_, ?_, ?_, ?_, ?_, ?_, ?_, ?_⟩, ?_, ?_, ?_⟩
  · exact ⟨_, _, X 70 _ (by rfl), rfl, rfl, rfl, rfl, rfl, rfl, rfl, rfl, rfl, rfl, _, _, _, _, rfl, X _ _ (by rfl), rfl, rfl⟩
  · exact ⟨_, _, X 77 _ (by rfl), rfl, rfl, rfl, rfl, rfl, rfl, rfl, rfl, rfl, rfl, _, _, _, _, rfl, X _ _ (by rfl), rfl, rfl⟩
  · exact ⟨_, _, X 84 _ (by rfl), rfl, rfl, rfl, rfl, rfl, rfl, rfl, rfl, rfl, rfl, _, _, _, _, rfl, X _ _ (by rfl), rfl, rfl⟩
  · exact ⟨_, _, X 109 _ (by rfl), rfl, rfl, rfl, rfl, rfl, rfl, rfl, rfl, rfl, rfl, _, _, _, _, rfl, X _ _ (by rfl), rfl, rfl⟩
  · exact ⟨_, _, X 114 _ (by rfl), rfl, rfl, rfl, rfl, rfl, rfl, rfl, rfl, rfl, rfl, _, _, _, _, rfl, X _ _ (by rfl), rfl, rfl⟩
  · exact ⟨_, _, X 121 _ (by rfl), rfl, rfl, rfl, rfl, rfl, rfl, rfl, rfl, rfl, rfl, _, _, _, _, rfl, X _ _ (by rfl), rfl, rfl⟩
  · exact ⟨_, _, X 128 _ (by rfl), rfl, rfl, rfl, rfl, rfl, rfl, rfl, rfl, rfl, rfl, _, _, _, _, rfl, X _ _ (by rfl), rfl, rfl⟩
  · exact ⟨_, _, X 133 _ (by rfl), rfl, rfl, rfl, rfl, rfl, rfl, rfl, rfl, rfl, rfl, _, _, _, _, rfl, X _ _ (by rfl), rfl, rfl⟩
  · exact ⟨_, _, X 140 _ (by rfl), rfl, rfl, rfl, rfl, rfl, rfl, rfl, rfl, rfl, rfl, _, _, _, _, rfl, X _ _ (by rfl), rfl, rfl⟩
  · exact ⟨_, ⟨_, _, X 63 _ (by rfl), rfl, rfl, rfl, rfl, rfl, rfl, rfl, rfl, rfl, rfl, _, _, _, _, rfl, X _ _ (by rfl), rfl, rfl⟩, _, _, _, rfl, X _ _ (by rfl), rfl⟩
  · exact ⟨_, _, ⟨_, _, X 93 _ (by rfl), rfl, rfl, rfl, rfl, rfl, rfl, rfl, rfl, rfl, rfl, _, _, _, _, rfl, X _ _ (by rfl), rfl, rfl⟩, _, _, _, _, _, _, rfl, rfl, X _ _ (by rfl), rfl, key_ns (X _ _ (by rfl)), by rfl⟩
  · exact ⟨_, _, ⟨_, _, X 102 _ (by rfl), rfl, rfl, rfl, rfl, rfl, rfl, rfl, rfl, rfl, rfl, _, _, _, _, rfl, X _ _ (by rfl), rfl, rfl⟩, _, _, _, _, _, _, rfl, rfl, X _ _ (by rfl), rfl, key_ns (X _ _ (by rfl)), by rfl⟩
end Mine
end

section
open PySem PySem.W PyProof.Rows PySem.Calls
set_option maxRecDepth 100000
set_option maxHeartbeats 8000000
namespace Mine
theorem ns_lit {h : Heap} {a : Addr} {l : List DictEntry} {n : Nat} (e : h.get? a = some { cls := .type "dict", data := .dict l.toArray n }) (hk : l.all (fun e => match e.key with | .str _ _ => true | _ => false) = true) : h.Ns a (nsFind l.toArray) := by
  refine ⟨_, _, _, e, rfl, fun x hx => ?_, fun _ => rfl⟩
  have := List.all_eq_true.mp hk x (by simpa using hx)
  split at this
  · rename_i n t q; exact ⟨n, t, q⟩
  · cases this
theorem own_at {P : Params} {h : Heap} (X : (hd.heap_39 P).In h) {mg : Str → Option Value} (G : h.Ns mainGlobals mg) : OwnClsQ "StatisticsError" 52 [.type "ValueError", .type "Exception", .type "BaseException", .type "object"] "ValueError.__new__" mg h :=
  ⟨ns_some_of X G (by rfl), _, 51, _, _, _, _, _, _, _, _, _, _, _, _, _, _, _, X 52 _ (by rfl), ns_lit (X 51 _ (by rfl)) (by rfl), (by intro n hn; simp only [quietNames, List.mem_cons, List.not_mem_nil, or_false] at hn; rcases hn with rfl | rfl | rfl | rfl <;> rfl), .base⟩
end Mine
end

section
open PySem PySem.W PyProof.Rows PySem.Calls
set_option maxRecDepth 100000
set_option maxHeartbeats 8000000
namespace Mine
theorem fs_of {s₀ s : Shared} {L a l : Addr} {cd : Value} {m : Str → Option Value} {xs : List Value} {ns : List Int} (F : Fr s₀.heap L s.heap m) (hs : ∃ h t, s = { s₀ with heap := h, toks := t }) (hm : m "script" = some (.ref l)) (hl : s₀.heap.IsList l xs.toArray) (hI : IntsAre xs ns) :
    FS (lawEnv L a cd) s₀ [] s.heap s [("script", IntsV ns)] := by
  refine ⟨⟨m, fun _ => none, ⟨⟨hs, F.ns, F.keep, F.above⟩, fun n c h => ?_, .nil, fun n c h => nomatch h⟩, fun x P q => ?_⟩, fun _ _ _ _ _ e => e, fun p hp => nomatch hp⟩
  · simp [lawEnv, envOf] at h
  · rw [List.lookup_cons] at q
    cases hx : x == "script" with
    | false => rw [hx] at q; cases q
    | true =>
      rw [hx] at q; cases q
      obtain rfl : x = "script" := by simpa using hx
      refine .inl ⟨rfl, _, hm, l, xs.toArray, rfl, ⟨by simp, ?_⟩, ?_⟩
      · obtain ⟨o, e, r⟩ := hl; exact ⟨o, F.keep _ _ e, r⟩
      · exact of_intsAre (by simpa using hI)
end Mine
theorem PySem.Challenge.cw_sc0049_01_holds : PySem.Challenge.rw_sc0049_01.Holds := by
  refine Mine.hd ?_
  k_go0
  rename (Mine.hd.heap_39 _).In _ => X'
  rename Top _ _ _ _ _ _ => T'
  rename Fr _ _ _ _ => F'
  rename News _ _ _ _ => N'
  rename IntsAre _ _ => hI
  rename _ = #[] => hg
  rename ¬ _ < _ => hc
  obtain ⟨l1, l2, l3⟩ := Mine.law_ok _
  refine Mine.law_walk (s₀ := { ‹Shared› with heap := _ }) (A₀ := callerA) (Mine.wz_of X' T') (Mine.own_at X' T'.g) PySem.F.excBase_ValueError ⟨rfl, Nat.le_of_ble_eq_true rfl, Nat.le_of_ble_eq_true rfl⟩ rfl _ (by omega) (Mine.fs_of F' ⟨_, _, rfl⟩ rfl lifted hI) l1 l2 l3 fun h tk kept old => ?_
  refine ⟨⟨.inl ⟨.bool true, .bool true, [], rfl, fun _ => ?_, .bool true, ?_, fun _ => ⟨.nil, fun _ h => nomatch h⟩⟩, old, rfl, hg⟩, ⟨_, kept 58 _ ?_ (N' _ (.head _)).1⟩, trivial⟩
  · rfl
  · first | (wrow_post; done) | (kc_post; done)
  · exact (N' _ (.head _)).2.1
end
