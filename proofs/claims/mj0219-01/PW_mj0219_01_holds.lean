import PyProof.Rows.All
import Wide.All
import OpenK.KMore
import PySem.Challenge.RW_mj0219_01

set_option Elab.async false

section
open PySem PySem.W PyProof.Rows PySem.SeqAt
set_option Elab.async false
set_option linter.all false
set_option autoImplicit false
namespace Mine

abbrev Ext (h h' : Heap) : Prop := ∀ b o, h.get? b = some o → h'.get? b = some o
theorem Ext.refl (h : Heap) : Ext h h := fun _ _ e => e
theorem Ext.trans {a b c : Heap} (x : Ext a b) (y : Ext b c) : Ext a c := fun p o e => y p o (x p o e)
theorem Ext.push (h : Heap) (o : Obj) : Ext h (h.push o) := fun _ _ e => Heap.get?_push_of_some o e

noncomputable def Rd (h : Heap) (v : Value) (d : PyData) : Prop := (∃ as, Reads h v d as) ∧ d.canLay0 = true
noncomputable def RdAll (h : Heap) (vs : List Value) (ds : List PyData) : Prop := (∃ as, ReadsAll h vs ds as) ∧ PyData.canLayAll0 ds = true
theorem Rd.ext {h h' : Heap} {v d} (x : Rd h v d) (e : Ext h h') : Rd h' v d := let ⟨⟨as, r⟩, c⟩ := x; ⟨⟨as, Reads.keeps e r⟩, c⟩
theorem RdAll.ext {h h' : Heap} {v d} (x : RdAll h v d) (e : Ext h h') : RdAll h' v d := let ⟨⟨as, r⟩, c⟩ := x; ⟨⟨as, ReadsAll.keeps e r⟩, c⟩
theorem Rd.int {h : Heap} {i : Int} {t : Tok} : Rd h (.int i t) (.int i) := ⟨⟨_, .int i t⟩, rfl⟩
theorem Rd.bool {h : Heap} {b : Bool} : Rd h (.bool b) (.bool b) := ⟨⟨_, .bool b⟩, rfl⟩
theorem Rd.none {h : Heap} : Rd h .none .none := ⟨⟨_, .none⟩, rfl⟩
theorem Rd.inv_int {h : Heap} {v} {i : Int} (x : Rd h v (.int i)) : ∃ t, v = .int i t := by
  obtain ⟨⟨_, r⟩, _⟩ := x; cases r; exact ⟨_, rfl⟩
theorem Rd.inv_bool {h : Heap} {v} {i : Bool} (x : Rd h v (.bool i)) : v = .bool i := by
  obtain ⟨⟨_, r⟩, _⟩ := x; cases r; rfl
theorem Rd.inv_none {h : Heap} {v} (x : Rd h v .none) : v = .none := by
  obtain ⟨⟨_, r⟩, _⟩ := x; cases r; rfl
theorem Rd.inv_list {h : Heap} {v} {xs} (x : Rd h v (.list xs)) : ∃ a vs, v = .ref a ∧ h.IsList a vs ∧ RdAll h vs.toList xs := by
  obtain ⟨⟨_, r⟩, c⟩ := x
  cases r with
  | list h1 h2 h3 h4 => exact ⟨_, _, rfl, ⟨_, h1, h2, _, h3⟩, ⟨_, h4⟩, by simpa [PyData.canLay0] using c⟩
theorem Rd.inv_tuple {h : Heap} {v} {xs} (x : Rd h v (.tuple xs)) : ∃ a vs, v = .ref a ∧ h.IsTuple a vs ∧ RdAll h vs.toList xs := by
  obtain ⟨⟨_, r⟩, c⟩ := x
  cases r with
  | tuple h1 h2 h3 h4 => exact ⟨_, _, rfl, ⟨_, h1, h2, _, h3⟩, ⟨_, h4⟩, by simpa [PyData.canLay0] using c⟩
theorem Rd.list {h : Heap} {a vs xs} (hl : h.IsList a vs) (r : RdAll h vs.toList xs) : Rd h (.ref a) (.list xs) := by
  obtain ⟨o, h1, h2, n, h3⟩ := hl
  obtain ⟨⟨as, r⟩, c⟩ := r
  exact ⟨⟨_, .list h1 h2 h3 r⟩, by simpa [PyData.canLay0] using c⟩
theorem Rd.tuple {h : Heap} {a vs xs} (hl : h.IsTuple a vs) (r : RdAll h vs.toList xs) : Rd h (.ref a) (.tuple xs) := by
  obtain ⟨o, h1, h2, n, h3⟩ := hl
  obtain ⟨⟨as, r⟩, c⟩ := r
  exact ⟨⟨_, .tuple h1 h2 h3 r⟩, by simpa [PyData.canLay0] using c⟩
theorem RdAll.nil {h : Heap} : RdAll h [] [] := ⟨⟨_, .nil⟩, rfl⟩
theorem RdAll.cons {h : Heap} {v d vs ds} (x : Rd h v d) (y : RdAll h vs ds) : RdAll h (v :: vs) (d :: ds) := by
  obtain ⟨⟨_, x⟩, c⟩ := x; obtain ⟨⟨_, y⟩, c'⟩ := y; exact ⟨⟨_, .cons x y⟩, by simp [PyData.canLayAll0, c, c']⟩
theorem RdAll.inv_cons {h : Heap} {vs d ds} (x : RdAll h vs (d :: ds)) : ∃ v vs', vs = v :: vs' ∧ Rd h v d ∧ RdAll h vs' ds := by
  obtain ⟨⟨_, x⟩, c⟩ := x
  simp [PyData.canLayAll0] at c
  cases x with
  | cons a b => exact ⟨_, _, rfl, ⟨⟨_, a⟩, c.1⟩, ⟨⟨_, b⟩, c.2⟩⟩
theorem RdAll.inv_nil {h : Heap} {vs} (x : RdAll h vs []) : vs = [] := by
  obtain ⟨⟨_, x⟩, _⟩ := x; cases x; rfl
theorem RdAll.length {h : Heap} {vs ds} (x : RdAll h vs ds) : vs.length = ds.length := by
  obtain ⟨⟨_, x⟩, _⟩ := x; exact ReadsAll.length _ _ _ x
/-- lists and tuples stay -/
noncomputable def keptObj (o : Obj) : Bool := match o.data with
  | .seq .. => true
  | _ => false
noncomputable def Pres (h h' : Heap) : Prop := ∀ b o, keptObj o = true → h.get? b = some o → h'.get? b = some o
theorem Ext.pres {h h' : Heap} (e : Ext h h') : Pres h h' := fun b o _ x => e b o x
theorem Pres.trans {a b c : Heap} (x : Pres a b) (y : Pres b c) : Pres a c := fun p o k e => y p o k (x p o k e)
theorem Pres.refl (h : Heap) : Pres h h := fun _ _ _ e => e
theorem reads_pres {h h' : Heap} (e : Pres h h') {v : Value} {d : PyData} {as : List Addr} (r : Reads h v d as) : d.canLay0 = true → Reads h' v d as :=
  Reads.rec (motive_1 := fun v d as _ => d.canLay0 = true → Reads h' v d as) (motive_2 := fun vs ds as _ => PyData.canLayAll0 ds = true → ReadsAll h' vs ds as)
    (fun _ => .none) (fun b _ => .bool b) (fun i t _ => .int i t) (fun x t _ => .str x t)
    (fun h1 h2 h3 _ ih c => .list (e _ _ (by rw [keptObj, h3]) h1) h2 h3 (ih c)) (fun h1 h2 h3 _ ih c => .tuple (e _ _ (by rw [keptObj, h3]) h1) h2 h3 (ih c))
    (fun _ _ _ _ _ _ _ c => by cases c) (fun _ => .nil) (fun _ _ i1 i2 c => .cons (i1 (Bool.and_eq_true_iff.mp c).1) (i2 (Bool.and_eq_true_iff.mp c).2)) r
theorem readsAll_pres {h h' : Heap} (e : Pres h h') {vs : List Value} {ds : List PyData} {as : List Addr} (r : ReadsAll h vs ds as) : PyData.canLayAll0 ds = true → ReadsAll h' vs ds as :=
  ReadsAll.rec (motive_1 := fun v d as _ => d.canLay0 = true → Reads h' v d as) (motive_2 := fun vs ds as _ => PyData.canLayAll0 ds = true → ReadsAll h' vs ds as)
    (fun _ => .none) (fun b _ => .bool b) (fun i t _ => .int i t) (fun x t _ => .str x t)
    (fun h1 h2 h3 _ ih c => .list (e _ _ (by rw [keptObj, h3]) h1) h2 h3 (ih c)) (fun h1 h2 h3 _ ih c => .tuple (e _ _ (by rw [keptObj, h3]) h1) h2 h3 (ih c))
    (fun _ _ _ _ _ _ _ c => by cases c) (fun _ => .nil) (fun _ _ i1 i2 c => .cons (i1 (Bool.and_eq_true_iff.mp c).1) (i2 (Bool.and_eq_true_iff.mp c).2)) r
theorem Rd.pres {h h' : Heap} {v d} (x : Rd h v d) (e : Pres h h') : Rd h' v d := let ⟨⟨as, r⟩, c⟩ := x; ⟨⟨as, reads_pres e r c⟩, c⟩
theorem RdAll.pres {h h' : Heap} {v d} (x : RdAll h v d) (e : Pres h h') : RdAll h' v d := let ⟨⟨as, r⟩, c⟩ := x; ⟨⟨as, readsAll_pres e r c⟩, c⟩
theorem RdAll.get {h : Heap} : ∀ {vs ds} (_ : RdAll h vs ds) {i : Nat} {d}, ds[i]? = some d → ∃ v, vs[i]? = some v ∧ Rd h v d
  | _, [], _, i, d, e => by simp at e
  | _, d :: ds, x, 0, d', e => by
    obtain ⟨v, vs', rfl, a, b⟩ := x.inv_cons
    simp at e; subst e; exact ⟨v, rfl, a⟩
  | _, d :: ds, x, i + 1, d', e => by
    obtain ⟨v, vs', rfl, a, b⟩ := x.inv_cons
    simp at e
    obtain ⟨v', h1, h2⟩ := b.get (i := i) e
    exact ⟨v', by simpa using h1, h2⟩
theorem RdAll.append {h : Heap} : ∀ {vs ds vs' ds'} (_ : RdAll h vs ds) (_ : RdAll h vs' ds'), RdAll h (vs ++ vs') (ds ++ ds')
  | _, [], _, _, x, y => by rw [x.inv_nil]; exact y
  | _, d :: ds, _, _, x, y => by
    obtain ⟨v, vs', rfl, a, b⟩ := x.inv_cons
    exact RdAll.cons a (b.append y)
theorem RdAll.snoc {h : Heap} {vs ds v d} (x : RdAll h vs ds) (y : Rd h v d) : RdAll h (vs ++ [v]) (ds ++ [d]) := x.append (.cons y .nil)
theorem RdAll.drop {h : Heap} : ∀ {vs ds} (_ : RdAll h vs ds) (n : Nat), RdAll h (vs.drop n) (ds.drop n)
  | _, [], x, n => by rw [x.inv_nil]; simpa using RdAll.nil
  | _, d :: ds, x, 0 => by simpa using x
  | _, d :: ds, x, n + 1 => by
    obtain ⟨v, vs', rfl, a, b⟩ := x.inv_cons
    simpa using b.drop n
theorem RdAll.take {h : Heap} : ∀ {vs ds} (_ : RdAll h vs ds) (n : Nat), RdAll h (vs.take n) (ds.take n)
  | _, [], x, n => by rw [x.inv_nil]; simpa using RdAll.nil
  | _, d :: ds, x, 0 => by simpa using RdAll.nil
  | _, d :: ds, x, n + 1 => by
    obtain ⟨v, vs', rfl, a, b⟩ := x.inv_cons
    simpa using RdAll.cons a (b.take n)
theorem isList_ext {h h' : Heap} {a vs} (x : h.IsList a vs) (e : Ext h h') : h'.IsList a vs := x.at fun o q => e a o q
theorem isTuple_ext {h h' : Heap} {a vs} (x : h.IsTuple a vs) (e : Ext h h') : h'.IsTuple a vs := by
  obtain ⟨o, h1, r⟩ := x; exact ⟨o, e _ _ h1, r⟩

/-- room for k more calls inside each other -/
structure Room (k : Nat) (A : Around) : Prop where
  handled : A.handled = none
  depth : A.depth + k < 900
  units : A.units + 8 * k < 9000
theorem Room.deeper {k : Nat} {A : Around} (r : Room (k + 1) A) (env : Env) : Room k (A.deeper env) :=
  ⟨r.handled, by have := r.depth; simp [Around.deeper]; omega, by have := r.units; simp [Around.deeper]; omega⟩
theorem Room.le {k j : Nat} {A : Around} (r : Room k A) (h : j ≤ k) : Room j A :=
  ⟨r.handled, by have := r.depth; omega, by have := r.units; omega⟩
theorem Room.lim {k : Nat} {A : Around} (r : Room k A) : A.depth < recursionLimit := by have := r.depth; simp [recursionLimit]; omega
theorem Room.cl {k : Nat} {A : Around} (r : Room k A) : A.units + 500 < cLine := by have := r.units; simp [cLine]; omega

section
variable (prog : Program) (w : World)
/-- e gives a value of which P is told; no object that stood is changed -/
noncomputable def EvP (k : Nat) (env : Env) (h : Heap) (e : Expr) (P : Value → Heap → Prop) : Prop :=
  ∀ (A : Around) (s : Shared) (E : Value → Shared → Prop) (Q : Value → Shared → Prop), Room k A → Ext h s.heap →
    (∀ v h' tk, Ext s.heap h' → P v h' → Q v { s with heap := h', toks := tk }) → wpAny (model prog w) A (eval e env) Q E s
abbrev IsD (d : PyData) : Value → Heap → Prop := fun v h => Rd h v d
abbrev EvD (k : Nat) (env : Env) (h : Heap) (e : Expr) (d : PyData) : Prop := EvP prog w k env h e (IsD d)
/-- a test -/
noncomputable def Ts (k : Nat) (env : Env) (h : Heap) (e : Expr) (b : Bool) : Prop :=
  ∀ (A : Around) (s : Shared) (E : Value → Shared → Prop) (Q : Bool → Shared → Prop), Room k A → Ext h s.heap →
    (∀ h' tk, Ext s.heap h' → Q b { s with heap := h', toks := tk }) → wpAny (model prog w) A (isTrue e env (eval e env)) Q E s
/-- arguments -/
noncomputable def EvA (k : Nat) (env : Env) (h : Heap) (es : List Expr) (P : List Value → Heap → Prop) : Prop :=
  ∀ (pos : Pos) (A : Around) (s : Shared) (E : Value → Shared → Prop) (Q : List Value → Shared → Prop), Room k A → Ext h s.heap →
    (∀ vs h' tk, Ext s.heap h' → P vs h' → Q vs { s with heap := h', toks := tk }) → wpAny (model prog w) A (spliced (backTo pos (starEach es env))) Q E s
/-- a call -/
noncomputable def FnP (k : Nat) (h : Heap) (f : Value) (PA : List Value → Heap → Prop) (P : Value → Heap → Prop) : Prop :=
  ∀ (A : Around) (s : Shared) (vs : List Value) (E : Value → Shared → Prop) (Q : Value → Shared → Prop), Room k A → Ext h s.heap → PA vs s.heap →
    (∀ v h' tk, Ext s.heap h' → P v h' → Q v { s with heap := h', toks := tk }) → wpAny (model prog w) A (call f vs) Q E s
/-- a name can be read -/
noncomputable def Has (h : Heap) (env : Env) (x : Str) (v : Value) : Prop :=
  ∀ (A : Around) (s : Shared) (E : Value → Shared → Prop) (Q : Value → Shared → Prop), Ext h s.heap → Q v s → wpAny (model prog w) A (loadName env x) Q E s
end

section
variable {prog : Program} {w : World} {k : Nat} {env : Env} {h : Heap}

theorem EvP.ext {e P} {h' : Heap} (x : EvP prog w k env h e P) (y : Ext h h') : EvP prog w k env h' e P := fun A s E Q r hx => x A s E Q r (y.trans hx)
theorem EvP.mono {e} {P P' : Value → Heap → Prop} (x : EvP prog w k env h e P) (y : ∀ v h', Ext h h' → P v h' → P' v h') : EvP prog w k env h e P' :=
  fun A s E Q r hx hq => x A s E Q r hx fun v h' tk e p => hq v h' tk e (y v h' (hx.trans e) p)
theorem EvP.le {e P} {j : Nat} (x : EvP prog w j env h e P) (y : j ≤ k) : EvP prog w k env h e P := fun A s E Q r => x A s E Q (r.le y)
theorem Has.ext {x v} {h' : Heap} (a : Has prog w h env x v) (y : Ext h h') : Has prog w h' env x v := fun A s E Q hx => a A s E Q (y.trans hx)
theorem Ts.ext {e b} {h' : Heap} (x : Ts prog w k env h e b) (y : Ext h h') : Ts prog w k env h' e b := fun A s E Q r hx => x A s E Q r (y.trans hx)
theorem FnP.ext {f PA P} {h' : Heap} (x : FnP prog w k h f PA P) (y : Ext h h') : FnP prog w k h' f PA P := fun A s vs E Q r hx => x A s vs E Q r (y.trans hx)

theorem ev_name {x : Str} {pos : Pos} {v : Value} {P : Value → Heap → Prop} (hv : Has prog w h env x v) (hp : ∀ h', Ext h h' → P v h')
    (hd : (x == ("__debug__" : Str)) = false := by decide) : EvP prog w k env h (.Name x pos) P := fun A s E Q _ hx hq =>
  wpAny_Name (hv A s E Q hx (hq v s.heap s.toks (.refl _) (hp _ hx))) hd

theorem ev_int {i : Int} {n : Nat} {pos : Pos} : EvD prog w k env h (.Constant (.int i) n pos) (.int i) := fun _ s _ _ _ _ hq =>
  wpAny_Constant_int (hq _ s.heap _ (.refl _) Rd.int)
theorem ev_true {b : Bool} {n : Nat} {pos : Pos} : EvD prog w k env h (.Constant (.bool b) n pos) (.bool b) := fun _ s _ _ _ _ hq =>
  wpAny_Constant_bool (hq _ s.heap s.toks (.refl _) Rd.bool)
theorem ev_none {n : Nat} {pos : Pos} : EvD prog w k env h (.Constant .none n pos) .none := fun _ s _ _ _ _ hq =>
  wpAny_Constant_none (hq _ s.heap s.toks (.refl _) Rd.none)

theorem ev_bin {l r : Expr} {op : Operator} {pos : Pos} {P1 P2 P : Value → Heap → Prop} (hl : EvP prog w k env h l P1) (hr : EvP prog w k env h r P2)
    (m1 : ∀ v h h', Ext h h' → P1 v h → P1 v h')
    (hop : ∀ (A : Around) (s : Shared) E Q a b, Room k A → Ext h s.heap → P1 a s.heap → P2 b s.heap → (∀ v h' tk, Ext s.heap h' → P v h' → Q v { s with heap := h', toks := tk }) → wpAny (model prog w) A (binaryOp op a b) Q E s) :
    EvP prog w k env h (.BinOp l op r pos) P := fun A s E Q rm hx hq =>
  wpAny_BinOp (hl A s E _ rm hx fun a h1 t1 e1 p1 => hr A _ E _ rm (hx.trans e1) fun b h2 t2 e2 p2 =>
    hop A _ E Q a b rm ((hx.trans e1).trans e2) (m1 _ _ _ e2 p1) p2 fun v h3 t3 e3 p3 => hq v h3 t3 ((e1.trans e2).trans e3) p3)

theorem isD_mono {d : PyData} : ∀ v h h', Ext h h' → IsD d v h → IsD d v h' := fun _ _ _ e x => Rd.ext x e

theorem ev_add {l r : Expr} {pos : Pos} {a b : Int} (hl : EvD prog w k env h l (.int a)) (hr : EvD prog w k env h r (.int b)) :
    EvD prog w k env h (.BinOp l .Add r pos) (.int (a + b)) := ev_bin hl hr isD_mono fun A s E Q x y _ _ px py hq => by
  obtain ⟨t, rfl⟩ := px.inv_int; obtain ⟨u, rfl⟩ := py.inv_int
  exact add_int (hq _ s.heap _ (.refl _) Rd.int)
theorem ev_sub {l r : Expr} {pos : Pos} {a b : Int} (hl : EvD prog w k env h l (.int a)) (hr : EvD prog w k env h r (.int b)) :
    EvD prog w k env h (.BinOp l .Sub r pos) (.int (a - b)) := ev_bin hl hr isD_mono fun A s E Q x y _ _ px py hq => by
  obtain ⟨t, rfl⟩ := px.inv_int; obtain ⟨u, rfl⟩ := py.inv_int
  exact sub_int (hq _ s.heap _ (.refl _) Rd.int)
theorem ev_mul {l r : Expr} {pos : Pos} {a b : Int} (hl : EvD prog w k env h l (.int a)) (hr : EvD prog w k env h r (.int b)) (hm : IntMulOk a b) :
    EvD prog w k env h (.BinOp l .Mult r pos) (.int (a * b)) := ev_bin hl hr isD_mono fun A s E Q x y _ _ px py hq => by
  obtain ⟨t, rfl⟩ := px.inv_int; obtain ⟨u, rfl⟩ := py.inv_int
  exact mul_int (hq _ s.heap _ (.refl _) Rd.int) hm
theorem ev_fdiv {l r : Expr} {pos : Pos} {a b : Int} (hl : EvD prog w k env h l (.int a)) (hr : EvD prog w k env h r (.int b)) (hb : b ≠ 0) (hp : Builtin.divisionGoesByPylong a b = false) :
    EvD prog w k env h (.BinOp l .FloorDiv r pos) (.int (a.fdiv b)) := ev_bin hl hr isD_mono fun A s E Q x y _ _ px py hq => by
  obtain ⟨t, rfl⟩ := px.inv_int; obtain ⟨u, rfl⟩ := py.inv_int
  exact floordiv_int hb (hq _ s.heap _ (.refl _) Rd.int) (.inl hp)
theorem ev_mod {l r : Expr} {pos : Pos} {a b : Int} (hl : EvD prog w k env h l (.int a)) (hr : EvD prog w k env h r (.int b)) (hb : b ≠ 0) :
    EvD prog w k env h (.BinOp l .Mod r pos) (.int (a.fmod b)) := ev_bin hl hr isD_mono fun A s E Q x y rm _ px py hq => by
  obtain ⟨t, rfl⟩ := px.inv_int; obtain ⟨u, rfl⟩ := py.inv_int
  exact mod_int_or rm.handled (fun h => absurd h hb) fun _ => hq _ s.heap _ (.refl _) Rd.int
theorem ev_neg {l : Expr} {pos : Pos} {a : Int} (hl : EvD prog w k env h l (.int a)) : EvD prog w k env h (.UnaryOp .USub l pos) (.int (-a)) :=
  fun A s E Q rm hx hq => wpAny_UnaryOp (hl A s E _ rm hx fun v h1 t1 e1 p1 => by
    obtain ⟨t, rfl⟩ := p1.inv_int
    exact neg_int (hq _ h1 _ e1 Rd.int))

/-- comparisons, as values and as tests -/
noncomputable def Cmp (k : Nat) (op : CmpOp) (h : Heap) (P1 P2 : Value → Heap → Prop) (b : Bool) : Prop :=
  ∀ (A : Around) (s : Shared) E Q (x y : Value), Room k A → Ext h s.heap → P1 x s.heap → P2 y s.heap → (∀ h' tk, Ext s.heap h' → Q (.bool b) { s with heap := h', toks := tk }) → wpAny (model prog w) A (compareOp op x y) Q E s

theorem ts_cmp {l r : Expr} {op : CmpOp} {pos : Pos} {P1 P2 : Value → Heap → Prop} {b : Bool} (hl : EvP prog w k env h l P1) (hr : EvP prog w k env h r P2)
    (m1 : ∀ v h h', Ext h h' → P1 v h → P1 v h') (hop : Cmp (prog := prog) (w := w) k op h P1 P2 b) (hm : behindInMarks op r = false := by with_unfolding_all rfl) :
    Ts prog w k env h (.Compare l [op] [r] pos) b := fun A s E Q rm hx hq =>
  wpAny_isTrue_Compare1 (hl A s E _ rm hx fun a h1 t1 e1 p1 => hr A _ E _ rm (hx.trans e1) fun b h2 t2 e2 p2 =>
    hop A _ E _ a b rm ((hx.trans e1).trans e2) (m1 _ _ _ e2 p1) p2 fun h3 t3 e3 => wpAny_truthy_bool (hq h3 t3 ((e1.trans e2).trans e3))) hm
theorem ev_cmp {l r : Expr} {op : CmpOp} {pos : Pos} {P1 P2 : Value → Heap → Prop} {b : Bool} (hl : EvP prog w k env h l P1) (hr : EvP prog w k env h r P2)
    (m1 : ∀ v h h', Ext h h' → P1 v h → P1 v h') (hop : Cmp (prog := prog) (w := w) k op h P1 P2 b) (hm : behindInMarks op r = false := by with_unfolding_all rfl) :
    EvD prog w k env h (.Compare l [op] [r] pos) (.bool b) := fun A s E Q rm hx hq =>
  wpAny_Compare1 (hl A s E _ rm hx fun a h1 t1 e1 p1 => hr A _ E _ rm (hx.trans e1) fun b h2 t2 e2 p2 =>
    hop A _ E _ a b rm ((hx.trans e1).trans e2) (m1 _ _ _ e2 p1) p2 fun h3 t3 e3 => hq _ h3 t3 ((e1.trans e2).trans e3) Rd.bool) hm

theorem cmp_eqI {a b : Int} : Cmp (prog := prog) (w := w) k .Eq h (IsD (.int a)) (IsD (.int b)) (decide (a = b)) := fun A s E Q x y _ _ px py hq => by
  obtain ⟨t, rfl⟩ := px.inv_int; obtain ⟨u, rfl⟩ := py.inv_int
  refine eq_int ?_
  have : (a == b) = decide (a = b) := by by_cases q : a = b <;> simp [q]
  rw [this]; exact hq _ _ (.refl _)
theorem cmp_neI {a b : Int} : Cmp (prog := prog) (w := w) k .NotEq h (IsD (.int a)) (IsD (.int b)) (decide (a ≠ b)) := fun A s E Q x y _ _ px py hq => by
  obtain ⟨t, rfl⟩ := px.inv_int; obtain ⟨u, rfl⟩ := py.inv_int
  refine ne_int ?_
  have : (a != b) = decide (a ≠ b) := by by_cases q : a = b <;> simp [q]
  rw [this]; exact hq _ _ (.refl _)
theorem cmp_ltI {a b : Int} : Cmp (prog := prog) (w := w) k .Lt h (IsD (.int a)) (IsD (.int b)) (decide (a < b)) := fun A s E Q x y _ _ px py hq => by
  obtain ⟨t, rfl⟩ := px.inv_int; obtain ⟨u, rfl⟩ := py.inv_int
  exact lt_int (hq _ _ (.refl _))
theorem cmp_leI {a b : Int} : Cmp (prog := prog) (w := w) k .LtE h (IsD (.int a)) (IsD (.int b)) (decide (a ≤ b)) := fun A s E Q x y _ _ px py hq => by
  obtain ⟨t, rfl⟩ := px.inv_int; obtain ⟨u, rfl⟩ := py.inv_int
  exact le_int (hq _ _ (.refl _))
theorem cmp_gtI {a b : Int} : Cmp (prog := prog) (w := w) k .Gt h (IsD (.int a)) (IsD (.int b)) (decide (b < a)) := fun A s E Q x y _ _ px py hq => by
  obtain ⟨t, rfl⟩ := px.inv_int; obtain ⟨u, rfl⟩ := py.inv_int
  exact gt_int (hq _ _ (.refl _))
theorem cmp_geI {a b : Int} : Cmp (prog := prog) (w := w) k .GtE h (IsD (.int a)) (IsD (.int b)) (decide (b ≤ a)) := fun A s E Q x y _ _ px py hq => by
  obtain ⟨t, rfl⟩ := px.inv_int; obtain ⟨u, rfl⟩ := py.inv_int
  exact ge_int (hq _ _ (.refl _))
theorem cmp_eqD {a b : PyData} (ha : a.depth ≤ 64 := by decide) (hb : b.depth ≤ 64 := by decide) : Cmp (prog := prog) (w := w) k .Eq h (IsD a) (IsD b) (PyData.eqv a b) := fun A s E Q x y rm _ px py hq => by
  obtain ⟨⟨_, px⟩, ca⟩ := px; obtain ⟨⟨_, py⟩, cb⟩ := py
  exact compareEq_shaped px py (by simp [shaped, ca, ha]) (by simp [shaped, cb, hb]) (by have := rm.cl; omega) (hq _ _ (.refl _))
theorem cmp_neD {a b : PyData} (ha : a.depth ≤ 64 := by decide) (hb : b.depth ≤ 64 := by decide) : Cmp (prog := prog) (w := w) k .NotEq h (IsD a) (IsD b) (!PyData.eqv a b) := fun A s E Q x y rm _ px py hq => by
  obtain ⟨⟨_, px⟩, ca⟩ := px; obtain ⟨⟨_, py⟩, cb⟩ := py
  exact compareNe_shaped px py (by simp [shaped, ca, ha]) (by simp [shaped, cb, hb]) (by have := rm.cl; omega) (hq _ _ (.refl _))
theorem cmp_inD {x : PyData} {xs : List PyData} (ha : x.depth ≤ 64) : Cmp (prog := prog) (w := w) k .In h (IsD x) (IsD (.list xs)) (xs.any fun y => PyData.eqv y x) := fun A s E Q a b rm _ px py hq => by
  obtain ⟨⟨_, px⟩, ca⟩ := px; obtain ⟨⟨_, py⟩, cb⟩ := py
  exact in_list_reads py px (by simpa [PyData.canLay0] using cb) ca (by have := rm.cl; omega) (hq _ _ (.refl _))
theorem cmp_notInD {x : PyData} {xs : List PyData} (ha : x.depth ≤ 64) : Cmp (prog := prog) (w := w) k .NotIn h (IsD x) (IsD (.list xs)) (!xs.any fun y => PyData.eqv y x) := fun A s E Q a b rm _ px py hq => by
  obtain ⟨⟨_, px⟩, ca⟩ := px; obtain ⟨⟨_, py⟩, cb⟩ := py
  exact notIn_list_reads py px (by simpa [PyData.canLay0] using cb) ca (by have := rm.cl; omega) (hq _ _ (.refl _))
noncomputable def isNoneD : PyData → Bool
  | .none => true
  | _ => false
theorem cmp_isNone {x : PyData} : Cmp (prog := prog) (w := w) k .Is h (IsD x) (IsD .none) (isNoneD x) := fun A s E Q a b rm _ px py hq => by
  rw [py.inv_none]
  refine is_none ?_
  have : (a == .none) = isNoneD x := by obtain ⟨⟨_, px⟩, _⟩ := px; cases px <;> rfl
  rw [this]; exact hq _ _ (.refl _)
theorem cmp_isNotNone {x : PyData} : Cmp (prog := prog) (w := w) k .IsNot h (IsD x) (IsD .none) (!isNoneD x) := fun A s E Q a b rm _ px py hq => by
  rw [py.inv_none]
  refine isNot_none ?_
  have : (a == .none) = isNoneD x := by obtain ⟨⟨_, px⟩, _⟩ := px; cases px <;> rfl
  rw [this]; exact hq _ _ (.refl _)

/-- tests put together -/
theorem ts_bool {e : Expr} {b : Bool} (he : EvD prog w k env h e (.bool b)) (hi : ∀ whole, isTrue e env whole = (do let v ← whole; standAt e.pos; holding [v] (truthy v)) := by intro _; rfl) : Ts prog w k env h e b :=
  fun A s E Q rm hx hq => wpAny_isTrue_value (he A s E _ rm hx fun v h1 t1 e1 p1 => by
    rw [p1.inv_bool]; exact wpAny_truthy_bool (hq h1 t1 e1)) (hi _)
theorem ts_not {x : Expr} {pos : Pos} {b : Bool} (hx : Ts prog w k env h x b) : Ts prog w k env h (.UnaryOp .Not x pos) (!b) :=
  fun A s E Q rm hxx hq => wpAny_isTrue_Not (hx A s E _ rm hxx fun h' tk e => hq h' tk e)
theorem ts_and {x y : Expr} {pos : Pos} {b c : Bool} (hx : Ts prog w k env h x b) (hy : b = true → Ts prog w k env h y c) : Ts prog w k env h (.BoolOp .And [x, y] pos) (b && c) :=
  fun A s E Q rm hxx hq => wpAny_isTrue_BoolOp (wpAny_allTrue_And_cons (hx A s E _ rm hxx fun h1 t1 e1 => by
    cases b with
    | false => exact hq h1 t1 e1
    | true => exact wpAny_allTrue_And_cons (hy rfl A _ E _ rm (hxx.trans e1) fun h2 t2 e2 => by
        cases c with
        | false => exact hq h2 t2 (e1.trans e2)
        | true => exact wpAny_allTrue_And_nil (hq h2 t2 (e1.trans e2)))))
theorem ts_or {x y : Expr} {pos : Pos} {b c : Bool} (hx : Ts prog w k env h x b) (hy : b = false → Ts prog w k env h y c) : Ts prog w k env h (.BoolOp .Or [x, y] pos) (b || c) :=
  fun A s E Q rm hxx hq => wpAny_isTrue_BoolOp (wpAny_allTrue_Or_cons (hx A s E _ rm hxx fun h1 t1 e1 => by
    cases b with
    | true => exact hq h1 t1 e1
    | false => exact wpAny_allTrue_Or_cons (hy rfl A _ E _ rm (hxx.trans e1) fun h2 t2 e2 => by
        cases c with
        | true => exact hq h2 t2 (e1.trans e2)
        | false => exact wpAny_allTrue_Or_nil (hq h2 t2 (e1.trans e2)))))
theorem ev_ifexp {t x y : Expr} {pos : Pos} {b : Bool} {P : Value → Heap → Prop} (ht : Ts prog w k env h t b) (hx : b = true → EvP prog w k env h x P) (hy : b = false → EvP prog w k env h y P) :
    EvP prog w k env h (.IfExp t x y pos) P := fun A s E Q rm hxx hq => wpAny_IfExp (ht A s E _ rm hxx fun h1 t1 e1 => by
    cases b with
    | true => exact hx rfl A _ E _ rm (hxx.trans e1) fun v h2 t2 e2 p2 => hq v h2 t2 (e1.trans e2) p2
    | false => exact hy rfl A _ E _ rm (hxx.trans e1) fun v h2 t2 e2 p2 => hq v h2 t2 (e1.trans e2) p2)
end
end Mine

end

section
open PySem PySem.W PyProof.Rows PySem.SeqAt
set_option Elab.async false
set_option linter.all false
set_option autoImplicit false
namespace Mine
section
variable {prog : Program} {w : World} {k : Nat} {env : Env} {h : Heap}

abbrev EvAD (prog : Program) (w : World) (k : Nat) (env : Env) (h : Heap) (es : List Expr) (ds : List PyData) : Prop := EvA prog w k env h es (fun vs h' => RdAll h' vs ds)
theorem eva_nil : EvAD prog w k env h [] [] := fun pos A s E Q _ _ hq => args_nil (hq [] s.heap s.toks (.refl _) RdAll.nil)
theorem eva_cons {e : Expr} {rest : List Expr} {d ds} (h1 : EvD prog w k env h e d) (h2 : EvAD prog w k env h rest ds)
    (he : starEach (e :: rest) env = (false, eval e env) :: starEach rest env := by rfl) : EvAD prog w k env h (e :: rest) (d :: ds) := fun pos A s E Q rm hx hq =>
  args_cons (h1 A s E _ rm hx fun v ha ta ea pa => h2 pos A _ E _ rm (hx.trans ea) fun vs hb tb eb pb => hq _ hb tb (ea.trans eb) (RdAll.cons (pa.ext eb) pb)) he
/-- arguments of any kind -/
theorem evp_nil {P : List Value → Heap → Prop} (hp : ∀ h', Ext h h' → P [] h') : EvA prog w k env h [] P := fun pos A s E Q _ hx hq => args_nil (hq [] s.heap s.toks (.refl _) (hp _ hx))
theorem evp_cons {e : Expr} {rest : List Expr} {P1 : Value → Heap → Prop} {P2 P : List Value → Heap → Prop} (h1 : EvP prog w k env h e P1) (h2 : EvA prog w k env h rest P2)
    (m1 : ∀ v h h', Ext h h' → P1 v h → P1 v h') (hp : ∀ v vs h', P1 v h' → P2 vs h' → P (v :: vs) h')
    (he : starEach (e :: rest) env = (false, eval e env) :: starEach rest env := by rfl) : EvA prog w k env h (e :: rest) P := fun pos A s E Q rm hx hq =>
  args_cons (h1 A s E _ rm hx fun v ha ta ea pa => h2 pos A _ E _ rm (hx.trans ea) fun vs hb tb eb pb => hq _ hb tb (ea.trans eb) (hp _ _ _ (m1 _ _ _ eb pa) pb)) he

theorem ev_tuple {elts : List Expr} {n : Nat} {pos : Pos} {ds : List PyData} (ha : EvAD prog w k env h elts ds) (hn : ds.length ≤ sizeLine := by simp [sizeLine]) :
    EvD prog w k env h (.Tuple elts n pos) (.tuple ds) := fun A s E Q rm hx hq =>
  wpAny_Tuple (ha pos A s E _ rm hx fun vs h1 t1 e1 p1 => ⟨by rw [p1.length]; exact hn, hq _ _ _ (e1.trans (Ext.push _ _))
    (Rd.tuple ⟨_, Heap.get?_push_size _ rfl, rfl, _, rfl⟩ (by simpa using p1.ext (Ext.push _ _)))⟩)
theorem ev_list {elts : List Expr} {pos : Pos} {ds : List PyData} (ha : EvAD prog w k env h elts ds) (hn : ds.length ≤ sizeLine := by simp [sizeLine]) :
    EvD prog w k env h (.List elts pos) (.list ds) := fun A s E Q rm hx hq =>
  wpAny_List (ha pos A s E _ rm hx fun vs h1 t1 e1 p1 => ⟨by rw [p1.length]; exact hn, hq _ _ _ (e1.trans (Ext.push _ _))
    (Rd.list ⟨_, Heap.get?_push_size _ rfl, rfl, _, rfl⟩ (by simpa using p1.ext (Ext.push _ _)))⟩)

theorem ev_item {v sl : Expr} {pos : Pos} {i : Int} {ds : List PyData} {d : PyData} (hv : EvD prog w k env h v (.list ds)) (hi : EvD prog w k env h sl (.int i))
    (h0 : 0 ≤ i) (hlt : i < 2 ^ 63) (hd : ds[i.toNat]? = some d)
    (hs : ∀ a u, subscripted sl false (.ref a) (.int i u) = operate [.ref a, .int i u] (getItem (.ref a) (.int i u)) := by intro _ _; with_unfolding_all rfl) :
    EvD prog w k env h (.Subscript v sl pos) d := fun A s E Q rm hx hq =>
  Subscript_ (hv A s E _ rm hx fun o h1 t1 e1 p1 => hi A _ E _ rm (hx.trans e1) fun iv h2 t2 e2 p2 => by
    obtain ⟨t, rfl⟩ := p2.inv_int
    obtain ⟨a, vs, rfl, hl, hr⟩ := (p1.ext e2).inv_list
    obtain ⟨x, hx1, hx2⟩ := hr.get hd
    exact tail_any hl.typeIs slot_list_getitem.lookup (wpAny_getItem_list hl h0 hlt (by simpa using hx1) (hq _ _ _ (e1.trans e2) hx2)) (hs _ _))
theorem ev_itemT {v sl : Expr} {pos : Pos} {i : Int} {ds : List PyData} {d : PyData} (hv : EvD prog w k env h v (.tuple ds)) (hi : EvD prog w k env h sl (.int i))
    (h0 : 0 ≤ i) (hlt : i < 2 ^ 63) (hd : ds[i.toNat]? = some d)
    (hs : ∀ a u, subscripted sl false (.ref a) (.int i u) = operate [.ref a, .int i u] (getItem (.ref a) (.int i u)) := by intro _ _; with_unfolding_all rfl) :
    EvD prog w k env h (.Subscript v sl pos) d := fun A s E Q rm hx hq =>
  Subscript_ (hv A s E _ rm hx fun o h1 t1 e1 p1 => hi A _ E _ rm (hx.trans e1) fun iv h2 t2 e2 p2 => by
    obtain ⟨t, rfl⟩ := p2.inv_int
    obtain ⟨a, vs, rfl, hl, hr⟩ := (p1.ext e2).inv_tuple
    obtain ⟨x, hx1, hx2⟩ := hr.get hd
    have hlen : i.toNat < ds.length := by
      rcases Nat.lt_or_ge i.toNat ds.length with q | q
      · exact q
      · rw [List.getElem?_eq_none q] at hd; cases hd
    have hsz : vs.size = ds.length := by simpa using hr.length
    have hj : seqIndex? i vs.size = some i.toNat := by
      unfold seqIndex?
      have a1 : ¬ i < 0 := by omega
      have a2 : 0 ≤ i ∧ i < (vs.size : Int) := by omega
      simp [a1, a2.1, a2.2]
    exact tail_any hl.typeIs slot_tuple_getitem.lookup (getItem_tuple hl (by omega) hlt hj (by simpa using hx1) (hq _ _ _ (e1.trans e2) hx2)) (hs _ _))
/-- xs[-1] -/
theorem ev_last {v sl : Expr} {pos : Pos} {ds : List PyData} {d : PyData} (hv : EvD prog w k env h v (.list (ds ++ [d]))) (hi : EvD prog w k env h sl (.int (-1)))
    (hs : ∀ a u, subscripted sl false (.ref a) (.int (-1) u) = operate [.ref a, .int (-1) u] (getItem (.ref a) (.int (-1) u)) := by intro _ _; with_unfolding_all rfl) :
    EvD prog w k env h (.Subscript v sl pos) d := fun A s E Q rm hx hq =>
  Subscript_ (hv A s E _ rm hx fun o h1 t1 e1 p1 => hi A _ E _ rm (hx.trans e1) fun iv h2 t2 e2 p2 => by
    obtain ⟨t, rfl⟩ := p2.inv_int
    obtain ⟨a, vs, rfl, hl, hr⟩ := (p1.ext e2).inv_list
    have hsz : vs.size = ds.length + 1 := by simpa using hr.length
    obtain ⟨x, hx1, hx2⟩ := hr.get (i := ds.length) (d := d) (by simp)
    exact tail_any hl.typeIs slot_list_getitem.lookup (wpAny_getItem_list_neg hl (by decide) (by rw [hsz]; omega) (by decide) (by
      have e : ((-1 : Int) + (vs.size : Int)).toNat = ds.length := by rw [hsz]; omega
      rw [e]; simpa using hx1) (hq _ _ _ (e1.trans e2) hx2)) (hs _ _))

/-- slices of a list -/
theorem ev_slice {v : Expr} {lo hi : Option Expr} {p pos : Pos} {ds : List PyData} {l u : Option Int} {ds' : List PyData} (hv : EvD prog w k env h v (.list ds))
    (hl : match lo, l with | none, none => True | some e, some i => EvD prog w k env h e (.int i) | _, _ => False)
    (hu : match hi, u with | none, none => True | some e, some i => EvD prog w k env h e (.int i) | _, _ => False)
    (hsz : ds.length ≤ sizeLine)
    (hp : ∀ h' (vs : Array Value), RdAll h' vs.toList ds → RdAll h' (slicePick vs l u none).toList ds')
    (ht : ∀ o r, letTemporaryGo v o r = pure () := by intro _ _; rfl) :
    EvD prog w k env h (.Subscript v (.Slice lo hi none p) pos) (.list ds') := fun A s E Q rm hx hq => by
  have part : ∀ (x : Option Expr) (i : Option Int), (match x, i with | none, none => True | some e, some i => EvD prog w k env h e (.int i) | _, _ => False) →
      ∀ (s : Shared) (Q : Value → Shared → Prop), Ext h s.heap → (∀ v h' tk, Ext s.heap h' → IsPart v i → Q v { s with heap := h', toks := tk }) → wpAny (model prog w) A (evalPart x env) Q E s := by
    intro x i hm s Q hx hq
    cases x with
    | none =>
      cases i with
      | none => exact wpAny_evalPart_none (hq _ s.heap s.toks (.refl _) .none)
      | some i => exact hm.elim
    | some e =>
      cases i with
      | none => exact hm.elim
      | some i => exact wpAny_evalPart_some (hm A s E _ rm hx fun v h1 t1 e1 p1 => by
          obtain ⟨t, rfl⟩ := p1.inv_int
          exact hq _ _ _ e1 (.int i t))
  refine wpAny_Subscript_list_slice (hv A s E _ rm hx fun o h1 t1 e1 p1 => part lo l hl _ _ (hx.trans e1) fun vl h2 t2 e2 p2 => part hi u hu _ _ ((hx.trans e1).trans e2) fun vu h3 t3 e3 p3 => ?_) ht
  obtain ⟨a, vs, rfl, hli, hr⟩ := (p1.ext (e2.trans e3)).inv_list
  refine ⟨a, vs, l, u, rfl, hli, by have := hr.length; simp at this; omega, p2, p3, ?_⟩
  refine hq _ _ _ (((e1.trans e2).trans e3).trans ((Ext.push _ _).trans (Ext.push _ _))) (Rd.list (vs := slicePick vs l u none) ⟨{ cls := .type "list", data := .seq (slicePick vs l u none) }, ?_, rfl, 0, rfl⟩ ?_)
  · have := Heap.get?_push_size (h3.push { cls := .type "slice", data := .fields #[vl, vu, .none] }) (o := { cls := .type "list", data := .seq (slicePick vs l u none) }) rfl
    rw [Heap.size_push] at this; exact this
  · exact (hp _ _ hr).ext ((Ext.push _ _).trans (Ext.push _ _))

theorem pick_upto (vs : Array Value) (b : Nat) : (slicePick vs none (some (b : Int)) none).toList = vs.toList.take b := by rw [slicePick_upto']
theorem pick_butlast (vs : Array Value) (hn : 0 < vs.size) : (slicePick vs none (some (-1)) none).toList = vs.toList.dropLast := by
  have e : slicePick vs none (some (-1)) none = slicePick vs none (some ((vs.size - 1 : Nat) : Int)) none := by
    unfold slicePick
    have a1 : (-1 : Int) + (vs.size : Int) = ((vs.size - 1 : Nat) : Int) := by omega
    have : sliceBounds none (some (-1)) none vs.size = sliceBounds none (some ((vs.size - 1 : Nat) : Int)) none vs.size := by
      unfold sliceBounds
      simp only [show ((-1 : Int) < 0) = True from eq_true (by decide), if_true, a1, if_neg (Int.not_lt.mpr (Int.natCast_nonneg (vs.size - 1)))]
    rw [this]
  rw [e, pick_upto, List.dropLast_eq_take]; simp
theorem pick_from (vs : Array Value) (a : Nat) (ha : a ≤ vs.size) : (slicePick vs (some (a : Int)) none none).toList = vs.toList.drop a := by
  rw [slicePick_from vs a ha]

theorem ev_upto {v e : Expr} {p pos : Pos} {ds : List PyData} {b : Nat} (hv : EvD prog w k env h v (.list ds)) (he : EvD prog w k env h e (.int b)) (hsz : ds.length ≤ sizeLine)
    (ht : ∀ o r, letTemporaryGo v o r = pure () := by intro _ _; rfl) : EvD prog w k env h (.Subscript v (.Slice none (some e) none p) pos) (.list (ds.take b)) :=
  ev_slice (l := none) (u := some (b : Int)) hv trivial he hsz (fun h' vs r => by rw [pick_upto]; exact r.take b) ht
theorem ev_butlast {v e : Expr} {p pos : Pos} {ds : List PyData} {d : PyData} (hv : EvD prog w k env h v (.list (ds ++ [d]))) (he : EvD prog w k env h e (.int (-1))) (hsz : (ds ++ [d]).length ≤ sizeLine)
    (ht : ∀ o r, letTemporaryGo v o r = pure () := by intro _ _; rfl) : EvD prog w k env h (.Subscript v (.Slice none (some e) none p) pos) (.list ds) :=
  ev_slice (l := none) (u := some (-1)) hv trivial he hsz (fun h' vs r => by
    have e : vs.size = ds.length + 1 := by simpa using r.length
    rw [pick_butlast vs (by omega), List.dropLast_eq_take]
    have := r.take ds.length
    simpa [e] using this) ht
theorem ev_from {v e : Expr} {p pos : Pos} {ds : List PyData} {a : Nat} (hv : EvD prog w k env h v (.list ds)) (he : EvD prog w k env h e (.int a)) (hsz : ds.length ≤ sizeLine) (ha : a ≤ ds.length)
    (ht : ∀ o r, letTemporaryGo v o r = pure () := by intro _ _; rfl) : EvD prog w k env h (.Subscript v (.Slice (some e) none none p) pos) (.list (ds.drop a)) :=
  ev_slice (l := some (a : Int)) (u := none) hv he trivial hsz (fun h' vs r => by
    have e : vs.size = ds.length := by simpa using r.length
    rw [pick_from vs a (by omega)]; exact r.drop a) ht

/-- calls -/
theorem ev_call_builtin {x : Str} {px pos : Pos} {id : String} {e : Expr} {rest : List Expr} {PA : List Value → Heap → Prop} {P : Value → Heap → Prop}
    (hf : Has prog w h env x (.builtin id)) (ha : EvA prog w k env h (e :: rest) PA) (hc : FnP prog w k h (.builtin id) PA P)
    (he : starEach (e :: rest) env = (false, eval e env) :: starEach rest env := by rfl) (hplain : (backTo pos (starEach rest env)).any (·.1) = false := by rfl)
    (hd : (x == ("__debug__" : Str)) = false := by decide) : EvP prog w k env h (.Call (.Name x px) (e :: rest) [] pos) P := fun A s E Q rm hx hq =>
  Call_ (wpAny_Name (hf A s E _ hx (callWith_builtin1 (ha pos A s E _ rm hx fun vs h1 t1 e1 p1 =>
    hc A _ vs E Q rm (hx.trans e1) p1 fun v h2 t2 e2 p2 => hq v h2 t2 (e1.trans e2) p2) he hplain)) hd)
theorem ev_call_type {x : Str} {px pos : Pos} {T : String} {e : Expr} {rest : List Expr} {PA : List Value → Heap → Prop} {P : Value → Heap → Prop}
    (hf : Has prog w h env x (.type T)) (ha : EvA prog w k env h (e :: rest) PA) (hc : FnP prog w k h (.type T) PA P)
    (he : starEach (e :: rest) env = (false, eval e env) :: starEach rest env := by rfl) (hplain : (backTo pos (starEach rest env)).any (·.1) = false := by rfl)
    (hd : (x == ("__debug__" : Str)) = false := by decide) : EvP prog w k env h (.Call (.Name x px) (e :: rest) [] pos) P := fun A s E Q rm hx hq =>
  Call_ (wpAny_Name (hf A s E _ hx (callWith_type1 (ha pos A s E _ rm hx fun vs h1 t1 e1 p1 =>
    hc A _ vs E Q rm (hx.trans e1) p1 fun v h2 t2 e2 p2 => hq v h2 t2 (e1.trans e2) p2) he hplain)) hd)
theorem ev_call_own {x : Str} {px pos : Pos} {a : Addr} {o : Obj} {fd : FuncData} {e : Expr} {rest : List Expr} {PA : List Value → Heap → Prop} {P : Value → Heap → Prop}
    (hf : Has prog w h env x (.ref a)) (ho : h.get? a = some o) (hdat : o.data = .func fd) (ha : EvA prog w k env h (e :: rest) PA) (hc : FnP prog w k h (.ref a) PA P)
    (he : starEach (e :: rest) env = (false, eval e env) :: starEach rest env := by rfl)
    (hd : (x == ("__debug__" : Str)) = false := by decide) : EvP prog w k env h (.Call (.Name x px) (e :: rest) [] pos) P := fun A s E Q rm hx hq =>
  Call_ (wpAny_Name (hf A s E _ hx (callWith_def hdat (ha pos A s E _ rm hx fun vs h1 t1 e1 p1 => ⟨e1 _ _ (hx _ _ ho),
    hc A _ vs E Q rm (hx.trans e1) p1 fun v h2 t2 e2 p2 => hq v h2 t2 (e1.trans e2) p2⟩) he)) hd)

theorem fn_len {ds : List PyData} (hn : ds.length < 2 ^ 62) : FnP prog w k h (.builtin "len") (fun vs h' => RdAll h' vs [.list ds]) (IsD (.int ds.length)) := fun A s vs E Q rm hx pa hq => by
  obtain ⟨v, _, rfl, hv, hr⟩ := pa.inv_cons
  rw [hr.inv_nil]
  obtain ⟨a, vs, rfl, hl, hr⟩ := hv.inv_list
  have e : vs.size = ds.length := by simpa using hr.length
  refine Calls.call_len_list hl (by omega) ?_
  rw [e]; exact hq _ _ _ (.refl _) Rd.int

theorem ints_of {h : Heap} : ∀ {ns : List Int} {vs : List Value}, RdAll h vs (ns.map .int) → IntsAre vs ns
  | [], vs, r => by rw [r.inv_nil]; exact .nil
  | n :: ns, vs, r => by
    obtain ⟨v, vs', rfl, a, b⟩ := r.inv_cons
    obtain ⟨t, rfl⟩ := a.inv_int
    exact .cons n t (ints_of b)
theorem of_ints {h : Heap} : ∀ {ns : List Int} {vs : List Value}, IntsAre vs ns → RdAll h vs (ns.map .int)
  | _, _, .nil => RdAll.nil
  | _, _, .cons n t r => RdAll.cons Rd.int (of_ints r)

theorem fn_max {ns : List Int} {m : Int} (hm : m ∈ ns) (hle : ∀ a ∈ ns, a ≤ m) : FnP prog w k h (.builtin "max") (fun vs h' => RdAll h' vs [.list (ns.map .int)]) (IsD (.int m)) := fun A s vs E Q rm hx pa hq => by
  obtain ⟨v, _, rfl, hv, hr⟩ := pa.inv_cons
  rw [hr.inv_nil]
  obtain ⟨a, vs, rfl, hl, hr⟩ := hv.inv_list
  have hi := ints_of hr
  obtain ⟨xs, e⟩ := hi.allInts.items
  have hns : ns = xs.toList.map (·.1) := by rw [← hi.numsOf, ← nums_intItems, ← e]
  have hsz : 0 < xs.size := by
    have := List.length_pos_of_mem hm
    rw [hns, List.length_map, Array.length_toList] at this; exact this
  have e' : vs = intItems xs := by rw [← e]
  rw [e'] at hl
  refine max_intList rm.handled hl hsz fun v h' tk hv hk => ?_
  obtain ⟨t, rfl⟩ := intItems_at hv
  obtain ⟨h1, h2⟩ := argBest_gt (numAt xs) (xs.size - 1)
  have e3 : numAt xs (argBest (fun i j => decide (numAt xs i > numAt xs j)) (xs.size - 1)) = m := by
    apply Int.le_antisymm
    · apply hle
      rw [hns, numAt_eq]; exact getD_mem (by rw [List.length_map, Array.length_toList]; omega)
    · rw [hns] at hm
      obtain ⟨j, hj, rfl⟩ := mem_getD hm
      rw [List.length_map, Array.length_toList] at hj
      rw [← numAt_eq]; exact h2 j (by omega)
  rw [e3]; exact hq _ _ _ hk Rd.int
theorem fn_min {ns : List Int} {m : Int} (hm : m ∈ ns) (hle : ∀ a ∈ ns, m ≤ a) : FnP prog w k h (.builtin "min") (fun vs h' => RdAll h' vs [.list (ns.map .int)]) (IsD (.int m)) := fun A s vs E Q rm hx pa hq => by
  obtain ⟨v, _, rfl, hv, hr⟩ := pa.inv_cons
  rw [hr.inv_nil]
  obtain ⟨a, vs, rfl, hl, hr⟩ := hv.inv_list
  have hi := ints_of hr
  obtain ⟨xs, e⟩ := hi.allInts.items
  have hns : ns = xs.toList.map (·.1) := by rw [← hi.numsOf, ← nums_intItems, ← e]
  have hsz : 0 < xs.size := by
    have := List.length_pos_of_mem hm
    rw [hns, List.length_map, Array.length_toList] at this; exact this
  have e' : vs = intItems xs := by rw [← e]
  rw [e'] at hl
  refine min_intList rm.handled hl hsz fun v h' tk hv hk => ?_
  obtain ⟨t, rfl⟩ := intItems_at hv
  obtain ⟨h1, h2⟩ := argBest_lt (numAt xs) (xs.size - 1)
  have e3 : numAt xs (argBest (fun i j => decide (numAt xs i < numAt xs j)) (xs.size - 1)) = m := by
    apply Int.le_antisymm
    · rw [hns] at hm
      obtain ⟨j, hj, rfl⟩ := mem_getD hm
      rw [List.length_map, Array.length_toList] at hj
      rw [← numAt_eq]; exact h2 j (by omega)
    · apply hle
      rw [hns, numAt_eq]; exact getD_mem (by rw [List.length_map, Array.length_toList]; omega)
  rw [e3]; exact hq _ _ _ hk Rd.int
theorem fn_sum {ns : List Int} : FnP prog w k h (.builtin "sum") (fun vs h' => RdAll h' vs [.list (ns.map .int)]) (IsD (.int ns.sum)) := fun A s vs E Q rm hx pa hq => by
  obtain ⟨v, _, rfl, hv, hr⟩ := pa.inv_cons
  rw [hr.inv_nil]
  obtain ⟨a, vs, rfl, hl, hr⟩ := hv.inv_list
  have hi := ints_of hr
  obtain ⟨xs, e⟩ := hi.allInts.items
  have hns : ns = xs.toList.map (·.1) := by rw [← hi.numsOf, ← nums_intItems, ← e]
  have e' : vs = intItems xs := by rw [← e]
  rw [e'] at hl
  refine sum_intListG rm.handled hl fun h' tk t' hk => ?_
  rw [preSum_eq, List.take_of_length_le (by simp), ← hns]
  exact hq _ _ _ hk Rd.int
end
end Mine

end

section
open PySem PySem.W PyProof.Rows PySem.SeqAt
set_option Elab.async false
set_option linter.all false
set_option autoImplicit false
namespace Mine

/-- what is told of a value; it stays told while lists, tuples and the like stay -/
structure Pr where
  P : Value → Heap → Prop
  st : ∀ v h h', Pres h h' → P v h → P v h'
noncomputable def prD (d : PyData) : Pr := ⟨IsD d, fun _ _ _ e x => Rd.pres x e⟩
noncomputable def prV (v : Value) : Pr := ⟨fun u _ => u = v, fun _ _ _ _ x => x⟩
abbrev Locs := List (Str × Pr)

noncomputable def Offs (env : Env) (h h' : Heap) : Prop := ∀ b o, b ≠ env.locals → (∀ y, env.cells.lookup y ≠ some b) → h.get? b = some o → h'.get? b = some o
theorem Ext.offs {env : Env} {h h' : Heap} (e : Ext h h') : Offs env h h' := fun b o _ _ x => e b o x
theorem Offs.trans {env : Env} {a b c : Heap} (x : Offs env a b) (y : Offs env b c) : Offs env a c := fun p o n1 n2 e => y p o n1 n2 (x p o n1 n2 e)

structure Fm (h0 h : Heap) (env : Env) (ρ : Locs) : Prop where
  base : Ext h0 h
  kind : env.scope.kind = .function
  ns : ∃ m, h.Ns env.locals m ∧ ∀ x p, ρ.lookup x = some p → env.kindOf x = some .local → ∃ v, m x = some v ∧ p.P v h
  cel : ∀ x, env.kindOf x = some .cell → ∃ c ov, env.cells.lookup x = some c ∧ h.IsCell c ov ∧ h0.get? c = none ∧ ∀ p, ρ.lookup x = some p → ∃ v, ov = some v ∧ p.P v h
  dom : ∀ x p, ρ.lookup x = some p → env.kindOf x = some .local ∨ env.kindOf x = some .cell
  inj : ∀ x y c, env.cells.lookup x = some c → env.cells.lookup y = some c → x = y
  freshL : h0.get? env.locals = none
  cin : ∀ z c, env.cells.lookup z = some c → ∃ ov, h.IsCell c ov

theorem lk_cons {ρ : Locs} {x y : Str} {p : Pr} : ((x, p) :: ρ).lookup y = if y = x then some p else ρ.lookup y := by
  rw [List.lookup_cons]
  by_cases h : y = x
  · subst h; simp
  · have : (y == x) = false := by simpa using h
    simp [this, h]

section
variable {prog : Program} {w : World} {k : Nat} {env : Env} {h0 h : Heap} {ρ : Locs}

theorem Fm.ext {h' : Heap} (F : Fm h0 h env ρ) (e : Ext h h') : Fm h0 h' env ρ where
  base := F.base.trans e
  kind := F.kind
  ns := by
    obtain ⟨m, hn, hm⟩ := F.ns
    exact ⟨m, hn.keeps e, fun x p a b => let ⟨v, c, d⟩ := hm x p a b; ⟨v, c, p.st _ _ _ e.pres d⟩⟩
  cel := fun x hx => by
    obtain ⟨c, ov, h1, h2, h3, h4⟩ := F.cel x hx
    exact ⟨c, ov, h1, h2.keeps e, h3, fun p a => let ⟨v, c, d⟩ := h4 p a; ⟨v, c, p.st _ _ _ e.pres d⟩⟩
  dom := F.dom
  inj := F.inj
  freshL := F.freshL
  cin := fun z c e' => let ⟨ov, x⟩ := F.cin z c e'; ⟨ov, x.keeps e⟩
theorem Fm.weaken {ρ' : Locs} (F : Fm h0 h env ρ) (hs : ∀ x p, ρ'.lookup x = some p → ∃ q, ρ.lookup x = some q ∧ ∀ v, q.P v h → p.P v h) : Fm h0 h env ρ' where
  base := F.base
  kind := F.kind
  ns := by
    obtain ⟨m, hn, hm⟩ := F.ns
    exact ⟨m, hn, fun x p a b => let ⟨q, hq, hp⟩ := hs x p a; let ⟨v, c, d⟩ := hm x q hq b; ⟨v, c, hp _ d⟩⟩
  cel := fun x hx => by
    obtain ⟨c, ov, h1, h2, h3, h4⟩ := F.cel x hx
    exact ⟨c, ov, h1, h2, h3, fun p a => let ⟨q, hq, hp⟩ := hs x p a; let ⟨v, c, d⟩ := h4 q hq; ⟨v, c, hp _ d⟩⟩
  dom := fun x p a => let ⟨q, hq, _⟩ := hs x p a; F.dom x q hq
  inj := F.inj
  freshL := F.freshL
  cin := F.cin
theorem Fm.has {x : Str} {p : Pr} (F : Fm h0 h env ρ) (hx : ρ.lookup x = some p) : ∃ v, Has prog w h env x v ∧ p.P v h := by
  rcases F.dom x p hx with hl | hl
  · obtain ⟨m, hn, hm⟩ := F.ns
    obtain ⟨v, hv, hp⟩ := hm x p hx hl
    exact ⟨v, fun A s E Q he hq => wpAny_loadName_local F.kind hl (hn.keeps he) hv hq, hp⟩
  · obtain ⟨c, ov, h1, h2, _, h4⟩ := F.cel x hl
    obtain ⟨v, rfl, hp⟩ := h4 p hx
    exact ⟨v, fun A s E Q he hq => wpAny_loadName_cell F.kind hl h1 (h2.keeps he) hq, hp⟩
theorem ev_var {x : Str} {pos : Pos} {p : Pr} (F : Fm h0 h env ρ) (hx : ρ.lookup x = some p) (hd : (x == ("__debug__" : Str)) = false := by decide) :
    EvP prog w k env h (.Name x pos) p.P := by
  obtain ⟨v, hv, hp⟩ := F.has (prog := prog) (w := w) hx
  exact ev_name hv (fun h' e => p.st _ _ _ e.pres hp) hd
theorem ev_varD {x : Str} {pos : Pos} {d : PyData} (F : Fm h0 h env ρ) (hx : ρ.lookup x = some (prD d)) (hd : (x == ("__debug__" : Str)) = false := by decide) :
    EvD prog w k env h (.Name x pos) d := ev_var (p := prD d) F hx hd

theorem Fm.store {A : Around} {s : Shared} {E : Value → Shared → Prop} {Q : Unit → Shared → Prop} {x : Str} {v : Value} {p : Pr} (F : Fm h0 s.heap env ρ)
    (hk : env.kindOf x = some .local ∨ env.kindOf x = some .cell) (hp : p.P v s.heap)
    (hq : ∀ h' tk, Fm h0 h' env ((x, p) :: ρ) → Pres s.heap h' → Offs env s.heap h' → Q () { s with heap := h', toks := tk }) : wpAny (model prog w) A (storeName env x v) Q E s := by
  obtain ⟨m, hn, hm⟩ := id F.ns
  rcases hk with hl | hl
  · refine wpAny_storeName_local hl hn (fun h' hn' hs' => ?_) (by rw [F.kind]; rfl)
    have off : Offs env s.heap h' := fun b o n1 _ e => (hs'.2 b n1).trans e
    have pr : Pres s.heap h' := fun b o hb e => by
      refine (hs'.2 b fun q => ?_).trans e
      obtain ⟨o1, es, ep, ho, hd, _⟩ := hn
      subst q; rw [ho] at e; cases e; simp [keptObj, hd] at hb
    have cne : ∀ z c, env.cells.lookup z = some c → c ≠ env.locals := fun z c e q => by
      obtain ⟨ov, h2⟩ := F.cin z c e
      obtain ⟨o1, es, ep, ho, hd, _⟩ := hn
      obtain ⟨o2, ho2, hd2⟩ := h2
      rw [q, ho] at ho2; cases ho2; rw [hd] at hd2; cases hd2
    refine hq h' _ ⟨fun b o e => (hs'.2 b fun q => ?_).trans (F.base b o e), F.kind, ⟨_, hn', fun y q hy hk => ?_⟩, fun y hy => ?_, fun y q hy => ?_, F.inj, F.freshL,
      fun z c e => let ⟨ov, x⟩ := F.cin z c e; ⟨ov, x.sameBut hs' (cne z c e)⟩⟩ pr off
    · have := F.freshL; rw [← q, e] at this; cases this
    · rw [lk_cons] at hy
      by_cases e : y = x
      · simp only [e, if_true] at hy ⊢; cases hy; exact ⟨v, rfl, p.st _ _ _ pr hp⟩
      · simp only [e, if_false] at hy ⊢
        obtain ⟨u, h1, h2⟩ := hm y q hy hk
        exact ⟨u, h1, q.st _ _ _ pr h2⟩
    · obtain ⟨c, ov, h1, h2, h3, h4⟩ := F.cel y hy
      have hne : c ≠ env.locals := fun q => by
        obtain ⟨o1, es, ep, ho, hd, _⟩ := hn
        obtain ⟨o2, ho2, hd2⟩ := h2
        rw [q, ho] at ho2; cases ho2; rw [hd] at hd2; cases hd2
      refine ⟨c, ov, h1, h2.sameBut hs' hne, h3, fun q a => ?_⟩
      rw [lk_cons] at a
      by_cases e : y = x
      · subst e; rw [hl] at hy; cases hy
      · simp only [e, if_false] at a
        obtain ⟨u, h5, h6⟩ := h4 q a
        exact ⟨u, h5, q.st _ _ _ pr h6⟩
    · rw [lk_cons] at hy
      by_cases e : y = x
      · subst e; exact .inl hl
      · simp only [e, if_false] at hy; exact F.dom y q hy
  · obtain ⟨c, ov, h1, h2, h3, h4⟩ := F.cel x hl
    refine wpAny_storeName_cell F.kind hl h1 h2 fun h' hc' hs' => ?_
    have hne : c ≠ env.locals := fun q => by
      obtain ⟨o1, es, ep, ho, hd, _⟩ := hn
      obtain ⟨o2, ho2, hd2⟩ := h2
      rw [q, ho] at ho2; cases ho2; rw [hd] at hd2; cases hd2
    have off : Offs env s.heap h' := fun b o _ n2 e => (hs'.2 b fun q => n2 x (q ▸ h1)).trans e
    have pr : Pres s.heap h' := fun b o hb e => by
      refine (hs'.2 b fun q => ?_).trans e
      obtain ⟨o1, ho, hd⟩ := h2
      subst q; rw [ho] at e; cases e; simp [keptObj, hd] at hb
    refine hq h' s.toks ⟨fun b o e => (hs'.2 b fun q => ?_).trans (F.base b o e), F.kind, ⟨_, hn.sameBut hs' (Ne.symm hne), fun y q hy hk => ?_⟩, fun y hy => ?_, fun y q hy => ?_, F.inj, F.freshL,
      fun z d e => by
        by_cases q : d = c
        · subst q; exact ⟨_, hc'⟩
        · obtain ⟨ov, x⟩ := F.cin z d e; exact ⟨ov, x.sameBut hs' q⟩⟩ pr off
    · have := h3; rw [← q, e] at this; cases this
    · rw [lk_cons] at hy
      by_cases e : y = x
      · subst e; rw [hl] at hk; cases hk
      · simp only [e, if_false] at hy
        obtain ⟨u, h1, h2⟩ := hm y q hy hk
        exact ⟨u, h1, q.st _ _ _ pr h2⟩
    · by_cases e : y = x
      · subst e
        refine ⟨c, some v, h1, hc', h3, fun q a => ?_⟩
        rw [lk_cons] at a
        simp only [if_true] at a; cases a
        exact ⟨v, rfl, p.st _ _ _ pr hp⟩
      · obtain ⟨c2, ov2, g1, g2, g3, g4⟩ := F.cel y hy
        refine ⟨c2, ov2, g1, g2.sameBut hs' (fun q => e (F.inj y x c (q ▸ g1) h1)), g3, fun q a => ?_⟩
        rw [lk_cons] at a
        simp only [e, if_false] at a
        obtain ⟨u, h5, h6⟩ := g4 q a
        exact ⟨u, h5, q.st _ _ _ pr h6⟩
    · rw [lk_cons] at hy
      by_cases e : y = x
      · subst e; exact .inr hl
      · simp only [e, if_false] at hy; exact F.dom y q hy

/-- statements -/
theorem wp_assign {A : Around} {s : Shared} {E : Value → Shared → Prop} {Q : Flow → Shared → Prop} {x : Str} {px pos : Pos} {e : Expr} {rest : List Stmt} {p : Pr}
    (rm : Room k A) (F : Fm h0 s.heap env ρ) (he : EvP prog w k env s.heap e p.P) (hk : env.kindOf x = some .local ∨ env.kindOf x = some .cell)
    (h : ∀ h' tk, Fm h0 h' env ((x, p) :: ρ) → Pres s.heap h' → Offs env s.heap h' → wpAny (model prog w) A (execs rest env) Q E { s with heap := h', toks := tk })
    (hs : swapsWith e (some (.Name x px)) pos.line env = pure false := by rfl) : wpAny (model prog w) A (execs (.Assign [.Name x px] e pos :: rest) env) Q E s :=
  wpAny_execs_cons (wpAny_Assign_Name (he A s E _ rm (.refl _) fun v h1 t1 e1 p1 =>
    Fm.store (F.ext e1) hk p1 fun h2 t2 F2 pr2 off2 => h h2 t2 F2 (e1.pres.trans pr2) (e1.offs.trans off2)) hs)
theorem wp_if {A : Around} {s : Shared} {E : Value → Shared → Prop} {Q : Flow → Shared → Prop} {test : Expr} {body orelse rest : List Stmt} {pos : Pos} {b : Bool}
    (rm : Room k A) (ht : Ts prog w k env s.heap test b)
    (h1 : b = true → ∀ h' tk, Ext s.heap h' → wpAny (model prog w) A (execs body env) (fun f s' => match f with | .next => wpAny (model prog w) A (execs rest env) Q E s' | f => Q f s') E { s with heap := h', toks := tk })
    (h2 : b = false → ∀ h' tk, Ext s.heap h' → wpAny (model prog w) A (execs orelse env) (fun f s' => match f with | .next => wpAny (model prog w) A (execs rest env) Q E s' | f => Q f s') E { s with heap := h', toks := tk }) :
    wpAny (model prog w) A (execs (.If test body orelse pos :: rest) env) Q E s :=
  wpAny_execs_cons (wpAny_If (ht A s E _ rm (.refl _) fun h' tk e => by
    cases b with
    | true => exact h1 rfl h' tk e
    | false => exact h2 rfl h' tk e))
theorem wp_ret {A : Around} {s : Shared} {E : Value → Shared → Prop} {Q : Flow → Shared → Prop} {e : Expr} {rest : List Stmt} {pos : Pos} {P : Value → Heap → Prop}
    (rm : Room k A) (he : EvP prog w k env s.heap e P) (h : ∀ v h' tk, Ext s.heap h' → P v h' → Q (.ret v) { s with heap := h', toks := tk }) :
    wpAny (model prog w) A (execs (.Return (some e) pos :: rest) env) Q E s :=
  wpAny_execs_cons (wpAny_Return_some (he A s E _ rm (.refl _) fun v h' tk e p => h v h' tk e p))
theorem wp_nil {A : Around} {s : Shared} {E : Value → Shared → Prop} {Q : Flow → Shared → Prop} (h : Q .next s) : wpAny (model prog w) A (execs [] env) Q E s := wpAny_execs_nil h

/-- a body that gives back a value and changes nothing that stood -/
noncomputable def BodyP (prog : Program) (w : World) (k : Nat) (h0 : Heap) (env : Env) (ρ : Locs) (stmts : List Stmt) (P : Value → Heap → Prop) : Prop :=
  ∀ (A : Around) (s : Shared) (E : Value → Shared → Prop) (Q : Flow → Shared → Prop), Room k A → Fm h0 s.heap env ρ →
    (∀ v h' tk, Ext h0 h' → P v h' → Q (.ret v) { s with heap := h', toks := tk }) → wpAny (model prog w) A (execs stmts env) Q E s
theorem body_assign {x : Str} {px pos : Pos} {e : Expr} {rest : List Stmt} {p : Pr} {P : Value → Heap → Prop}
    (he : ∀ h, Fm h0 h env ρ → EvP prog w k env h e p.P) (h : BodyP prog w k h0 env ((x, p) :: ρ) rest P) (hk : env.kindOf x = some .local ∨ env.kindOf x = some .cell)
    (hs : swapsWith e (some (.Name x px)) pos.line env = pure false := by rfl) : BodyP prog w k h0 env ρ (.Assign [.Name x px] e pos :: rest) P := fun A s E Q rm F hq =>
  wp_assign rm F (he _ F) hk (fun h' tk F' _ _ => h A _ E Q rm F' hq) hs
theorem body_ret {e : Expr} {rest : List Stmt} {pos : Pos} {P : Value → Heap → Prop} (he : ∀ h, Fm h0 h env ρ → EvP prog w k env h e P) :
    BodyP prog w k h0 env ρ (.Return (some e) pos :: rest) P := fun A s E Q rm F hq => wp_ret rm (he _ F) fun v h' tk e p => hq v h' tk (F.base.trans e) p
theorem body_if_ret {test : Expr} {body rest : List Stmt} {pos : Pos} {b : Bool} {P : Value → Heap → Prop} (ht : ∀ h, Fm h0 h env ρ → Ts prog w k env h test b)
    (h1 : b = true → BodyP prog w k h0 env ρ body P) (h2 : b = false → BodyP prog w k h0 env ρ rest P) : BodyP prog w k h0 env ρ (.If test body [] pos :: rest) P := fun A s E Q rm F hq =>
  wp_if rm (ht _ F) (fun e h' tk x => h1 e A _ E _ rm (F.ext x) fun v h'' tk' y p => hq v h'' tk' y p) (fun e h' tk x => wp_nil (h2 e A _ E _ rm (F.ext x) hq))
/-- a branch that falls through to the rest -/
theorem body_if_else {test : Expr} {body orelse rest : List Stmt} {pos : Pos} {b : Bool} {P : Value → Heap → Prop} (ρ1 : Locs) (ht : ∀ h, Fm h0 h env ρ → Ts prog w k env h test b)
    (h1 : b = true → ∀ (A : Around) (s : Shared) E (Q : Flow → Shared → Prop), Room k A → Fm h0 s.heap env ρ → (∀ h' tk, Fm h0 h' env ρ1 → Q .next { s with heap := h', toks := tk }) → wpAny (model prog w) A (execs body env) Q E s)
    (h2 : b = false → ∀ (A : Around) (s : Shared) E (Q : Flow → Shared → Prop), Room k A → Fm h0 s.heap env ρ → (∀ h' tk, Fm h0 h' env ρ1 → Q .next { s with heap := h', toks := tk }) → wpAny (model prog w) A (execs orelse env) Q E s)
    (h3 : BodyP prog w k h0 env ρ1 rest P) : BodyP prog w k h0 env ρ (.If test body orelse pos :: rest) P := fun A s E Q rm F hq =>
  wp_if rm (ht _ F) (fun e h' tk x => h1 e A _ E _ rm (F.ext x) fun h'' tk' F' => h3 A _ E _ rm F' hq) (fun e h' tk x => h2 e A _ E _ rm (F.ext x) fun h'' tk' F' => h3 A _ E _ rm F' hq)

/-- the entry of a call -/
theorem bindL_eq (kindOf : Str → Option NameKind) : ∀ (binds : List (Str × Value)) (m : Str → Option Value) (x : Str) (v : Value), (binds.map (·.1)).Nodup → (x, v) ∈ binds → kindOf x = some .local → bindL kindOf binds m x = some v := by
  have stay : ∀ (binds : List (Str × Value)) (m : Str → Option Value) (x : Str), x ∉ binds.map (·.1) → bindL kindOf binds m x = m x := by
    intro binds
    induction binds with
    | nil => intro m x _; rfl
    | cons b r ih =>
      intro m x hx
      obtain ⟨n, v⟩ := b
      simp at hx
      rw [bindL, ih _ _ (by simpa using hx.2)]
      split
      · simp [hx.1]
      · rfl
  intro binds
  induction binds with
  | nil => intro m x v _ hm; cases hm
  | cons b r ih =>
    intro m x v hnd hm hk
    obtain ⟨n, u⟩ := b
    simp only [List.map_cons, List.nodup_cons] at hnd
    rcases List.mem_cons.mp hm with e | e
    · cases e
      rw [bindL, stay _ _ _ hnd.1, if_pos hk]; simp
    · rw [bindL]; exact ih _ x v hnd.2 e hk
theorem bindC_eq (kindOf : Str → Option NameKind) : ∀ (binds : List (Str × Value)) (m : Str → Option Value) (x : Str) (v : Value), (binds.map (·.1)).Nodup → (x, v) ∈ binds → kindOf x ≠ some .local → bindC kindOf binds m x = some v := by
  have stay : ∀ (binds : List (Str × Value)) (m : Str → Option Value) (x : Str), x ∉ binds.map (·.1) → bindC kindOf binds m x = m x := by
    intro binds
    induction binds with
    | nil => intro m x _; rfl
    | cons b r ih =>
      intro m x hx
      obtain ⟨n, v⟩ := b
      simp at hx
      rw [bindC, ih _ _ (by simpa using hx.2)]
      split
      · rfl
      · simp [hx.1]
  intro binds
  induction binds with
  | nil => intro m x v _ hm; cases hm
  | cons b r ih =>
    intro m x v hnd hm hk
    obtain ⟨n, u⟩ := b
    simp only [List.map_cons, List.nodup_cons] at hnd
    rcases List.mem_cons.mp hm with e | e
    · cases e
      rw [bindC, stay _ _ _ hnd.1, if_neg hk]; simp
    · rw [bindC]; exact ih _ x v hnd.2 e hk

theorem cells_isSome {x : Str} : ∀ (names : List (Str × NameKind)) (n : Nat) (acc : List (Str × Addr)), names.lookup x = some .cell ∨ (acc.lookup x).isSome = true → ((cellsFrom n names acc).lookup x).isSome = true
  | [], _, _, h => h.elim (fun e => by cases e) id
  | (y, kd) :: r, n, acc, h => by
    unfold cellsFrom
    by_cases hk : (kd == NameKind.cell) = true
    · rw [if_pos hk]
      refine cells_isSome r (n + 1) _ ?_
      by_cases hy : x = y
      · subst hy; exact .inr (by simp)
      · have hb : (x == y) = false := by simpa using hy
        rw [List.lookup_cons, hb] at h
        rw [List.lookup_cons, hb]; exact h
    · rw [if_neg hk]
      refine cells_isSome r n acc ?_
      by_cases hy : x = y
      · subst hy
        refine h.elim (fun e => ?_) .inr
        simp at e; exact absurd (by rw [e]; rfl) hk
      · have hb : (x == y) = false := by simpa using hy
        rw [List.lookup_cons, hb] at h; exact h
structure FnAt (h : Heap) (a : Addr) (name : Str) (params : Arguments) (body : List Stmt) (scope : Scope) : Prop where
  fn : ∃ o fd, h.get? a = some o ∧ o.data = .func fd ∧ fd.params = params ∧ fd.body = .stmts body ∧ fd.scope = scope ∧ fd.globals = mainGlobals ∧ fd.closure = [] ∧ fd.builtins = builtinsNs ∧
    fd.qualname = name ∧ h.CodeRec fd.code fd.qualname ∧ fd.defaults = .none ∧ fd.kwdefaults = .none
theorem FnAt.ext {h h' : Heap} {a name params body scope} (x : FnAt h a name params body scope) (e : Ext h h') : FnAt h' a name params body scope := by
  obtain ⟨o, fd, h1, h2, h3, h4, h5, h6, h7, h8, h9, h10, h11⟩ := x
  exact ⟨o, fd, e _ _ h1, h2, h3, h4, h5, h6, h7, h8, h9, h10.keeps e, h11⟩
theorem cellsFrom_lookup_lt (x : Str) (c : Addr) : ∀ (names : List (Str × NameKind)) (n : Nat) (acc : List (Str × Addr)), (∀ y b, acc.lookup y = some b → b < n) → (∀ y z b, acc.lookup y = some b → acc.lookup z = some b → y = z) →
    ((∀ y b, (cellsFrom n names acc).lookup y = some b → acc.lookup y = some b ∨ n ≤ b) ∧ ∀ y z b, (cellsFrom n names acc).lookup y = some b → (cellsFrom n names acc).lookup z = some b → y = z)
  | [], n, acc, _, hi => ⟨fun y b e => .inl e, hi⟩
  | (nm, kd) :: r, n, acc, hlt, hi => by
    unfold cellsFrom
    by_cases hk : (kd == NameKind.cell) = true
    · rw [if_pos hk]
      have look : ∀ y b, ((nm, n) :: acc).lookup y = some b → (y = nm ∧ b = n) ∨ acc.lookup y = some b := fun y b e => by
        rw [List.lookup_cons] at e
        by_cases q : (y == nm) = true
        · rw [q] at e; exact .inl ⟨by simpa using q, (Option.some.inj e).symm⟩
        · simp only [q] at e; exact .inr e
      have ih := cellsFrom_lookup_lt x c r (n + 1) ((nm, n) :: acc) (fun y b e => by
        rcases look y b e with ⟨_, q⟩ | q
        · rw [q]; exact Nat.lt_succ_self n
        · exact Nat.lt_succ_of_lt (hlt y b q)) (fun y z b e1 e2 => by
        rcases look y b e1 with ⟨q1, q2⟩ | q
        · rcases look z b e2 with ⟨q3, q4⟩ | q'
          · rw [q1, q3]
          · have := hlt z b q'; rw [q2] at this; exact absurd this (Nat.lt_irrefl n)
        · rcases look z b e2 with ⟨q3, q4⟩ | q'
          · have := hlt y b q; rw [q4] at this; exact absurd this (Nat.lt_irrefl n)
          · exact hi y z b q q')
      refine ⟨fun y b e => ?_, ih.2⟩
      rcases ih.1 y b e with q | q
      · rcases look y b q with ⟨_, q⟩ | q
        · exact .inr (Nat.le_of_eq q.symm)
        · exact .inl q
      · exact .inr (Nat.le_of_succ_le q)
    · rw [if_neg hk]
      exact cellsFrom_lookup_lt x c r n acc hlt hi

/-- what the callee finds -/
theorem fm_entry {s s1 : Shared} {fd : FuncData} {a : Addr} {binds : List (Str × Value)} {ρ : Locs}
    (x : InCallC s (callEnvC fd s.heap.objs.size a).locals (bindL (callEnvC fd s.heap.objs.size a).kindOf binds fun _ => none) (callEnvC fd s.heap.objs.size a).cells
        (bindC (callEnvC fd s.heap.objs.size a).kindOf binds fun _ => none) s1) (hk : fd.scope.kind = .function) (hnd : (binds.map (·.1)).Nodup)
    (hcells : ∀ y, fd.scope.names.lookup y = some .cell → ((cellsFrom 0 fd.scope.names []).lookup y).isSome = true)
    (hρ : ∀ y p, ρ.lookup y = some p → (fd.scope.names.lookup y = some .local ∨ fd.scope.names.lookup y = some .cell) ∧ ∃ v, (y, v) ∈ binds ∧ p.P v s.heap) :
    Fm s.heap s1.heap (callEnvC fd s.heap.objs.size a) ρ := by
  have ext : Ext s.heap s1.heap := x.toInCall.keep
  have fresh : ∀ b, s.heap.objs.size ≤ b → s.heap.get? b = none := fun b hb => by
    cases e : s.heap.get? b with
    | none => rfl
    | some o => exact absurd (Heap.lt_size e) (Nat.not_lt.mpr hb)
  have inj := cellsFrom_lookup_lt default 0 fd.scope.names (s.heap.objs.size + 1) [] (fun y b e => by simp at e) (fun y z b e => by simp at e)
  refine ⟨ext, hk, ⟨_, x.toInCall.ns, fun y p hy hl => ?_⟩, fun y hy => ?_, fun y p hy => (hρ y p hy).1, inj.2, fresh _ (Nat.le_refl _), fun z c e => ⟨_, x.cell z c e⟩⟩
  · obtain ⟨_, v, hv, hp⟩ := hρ y p hy
    exact ⟨v, bindL_eq _ _ _ _ _ hnd hv hl, p.st _ _ _ ext.pres hp⟩
  · have hs : (cellsFrom (s.heap.objs.size + 1) fd.scope.names []).lookup y ≠ none := by
      have := cells_isSome (x := y) fd.scope.names (s.heap.objs.size + 1) [] (.inl hy)
      intro e; rw [e] at this; cases this
    obtain ⟨c, hc⟩ := Option.ne_none_iff_exists'.mp hs
    refine ⟨c, _, hc, x.cell y c hc, ?_, fun p hp => ?_⟩
    · rcases inj.1 y c hc with q | q
      · simp at q
      · exact fresh _ (Nat.le_of_succ_le q)
    · obtain ⟨_, v, hv, hq⟩ := hρ y p hp
      refine ⟨v, bindC_eq _ _ _ _ _ hnd hv ?_, p.st _ _ _ ext.pres hq⟩
      intro q
      have q' : fd.scope.names.lookup y = some .local := q
      rw [show fd.scope.names.lookup y = some .cell from hy] at q'; cases q'

noncomputable def PAll : List Pr → List Value → Heap → Prop
  | [], [], _ => True
  | p :: ps, v :: vs, h => p.P v h ∧ PAll ps vs h
  | _, _, _ => False
theorem PAll.length : ∀ {ps : List Pr} {vs : List Value} {h : Heap}, PAll ps vs h → vs.length = ps.length
  | [], [], _, _ => rfl
  | p :: ps, v :: vs, h, x => by simp [PAll.length x.2]
  | [], _ :: _, _, x => x.elim
  | _ :: _, [], _, x => x.elim
theorem PAll.of_rd : ∀ {ds : List PyData} {vs : List Value} {h : Heap}, RdAll h vs ds → PAll (ds.map prD) vs h
  | [], vs, h, x => by rw [x.inv_nil]; trivial
  | d :: ds, vs, h, x => by
    obtain ⟨v, vs', rfl, a, b⟩ := x.inv_cons
    exact ⟨a, PAll.of_rd b⟩
theorem zip_lookup : ∀ {xs : List Str} {ps : List Pr} {vs : List Value} {h : Heap} {y : Str} {p : Pr}, PAll ps vs h → (xs.zip ps).lookup y = some p → y ∈ xs ∧ ∃ v, (y, v) ∈ xs.zip vs ∧ p.P v h
  | [], ps, vs, h, y, p, _, e => by simp at e
  | x :: xs, [], vs, h, y, p, _, e => by simp at e
  | x :: xs, q :: ps, [], h, y, p, a, _ => a.elim
  | x :: xs, q :: ps, v :: vs, h, y, p, a, e => by
    rw [List.zip_cons_cons, lk_cons] at e
    by_cases hy : y = x
    · subst hy; simp at e; subst e
      exact ⟨List.mem_cons_self, v, by simp, a.1⟩
    · simp only [hy, if_false] at e
      obtain ⟨h1, u, h2, h3⟩ := zip_lookup a.2 e
      exact ⟨List.mem_cons_of_mem _ h1, u, by simp [h2], h3⟩
theorem zip_names {xs : List Str} {vs : List Value} (h : vs.length = xs.length) : (xs.zip vs).map (·.1) = xs := by
  rw [List.map_fst_zip (by omega)]

theorem fn_own {a : Addr} {name : Str} {params : Arguments} {body : List Stmt} {scope : Scope} {xs : List Str} {ps : List Pr} {P : Value → Heap → Prop}
    (X : FnAt h a name params body scope) (hlim : h.NoLimit) (hlen : xs.length = ps.length)
    (hbind : ∀ (fd : FuncData) (vs : List Value), fd.params = params → fd.defaults = .none → fd.kwdefaults = .none → vs.length = xs.length → bindArgs fd ⟨vs, []⟩ = pure (xs.zip vs))
    (hnd : xs.Nodup) (hkd : ∀ y ∈ xs, scope.names.lookup y = some .local ∨ scope.names.lookup y = some .cell)
    (hco : scope.isCoroutine = false) (hgen : scope.isGenerator = false) (hk : scope.kind = .function)
    (hb : ∀ (env : Env) (h0 : Heap), Ext h h0 → env.scope = scope → env.globals = mainGlobals → env.builtins = builtinsNs → BodyP prog w k h0 env (xs.zip ps) body P) :
    FnP prog w (k + 1) h (.ref a) (PAll ps) P := fun A s vs E Q rm hx pa hq => by
  obtain ⟨o, fd, h1, h2, h3, h4, h5, h6, h7, h8, h9, h10, h11, h12⟩ := X.ext hx
  have hvl : vs.length = xs.length := by rw [pa.length, hlen]
  have cs : ∀ y, scope.names.lookup y = some .cell → ∀ n, ((cellsFrom n scope.names []).lookup y).isSome = true := fun y hy n => cells_isSome scope.names n [] (.inl hy)
  refine wpAny_call (codeAny_call_cells rm.lim h1 h2 (hlim.keeps hx) h10 h4 (hbind fd vs h3 h11 h12 hvl) h7 (fun b hb => ?_) (fun s1 x => ?_) (by rw [h5]; exact hco) (by rw [h5]; exact hgen) (by rw [h5]; exact hk))
  · have hm : b.1 ∈ xs := by
      have := List.mem_map_of_mem (f := (·.1)) hb
      rwa [zip_names hvl] at this
    rw [h5]
    rcases hkd _ hm with q | q
    · exact .inl q
    · exact .inr ⟨q, cs _ q _⟩
  · have F := fm_entry (ρ := xs.zip ps) x (by rw [h5]; exact hk) (by rw [zip_names hvl]; exact hnd) (fun y hy => by rw [h5] at hy ⊢; exact cs y hy 0) (fun y p hy => by
      obtain ⟨q1, q2⟩ := zip_lookup pa hy
      rw [h5]; exact ⟨hkd y q1, q2⟩)
    obtain ⟨hs, tk, rfl⟩ := x.toInCall.same
    refine hb (callEnvC fd s.heap.objs.size a) s.heap hx h5 h6 h8 _ _ _ _ (rm.deeper _) F fun v h' tk' e p => ?_
    exact hq v h' tk' e p
end
end Mine

end

section
open PySem PySem.W PyProof.Rows PySem.SeqAt
set_option Elab.async false
set_option linter.all false
set_option autoImplicit false
namespace Mine
abbrev pw : Program := PySem.Challenge.pw_mj0219_01
noncomputable def defParams : List Stmt → Arguments
  | .FunctionDef _ a _ _ _ _ _ _ _ _ :: _ => a
  | _ => default
noncomputable def defBody : List Stmt → List Stmt
  | .FunctionDef _ _ b _ _ _ _ _ _ _ :: _ => b
  | _ => []
noncomputable def defScope : List Stmt → Scope
  | .FunctionDef _ _ _ _ _ _ s _ _ _ :: _ => s
  | _ => default
noncomputable def clsBody : List Stmt → List Stmt
  | .ClassDef _ _ _ b _ _ _ _ _ _ _ :: _ => b
  | _ => []
noncomputable def tops : List Stmt := pw.main.body
noncomputable def leftD : List Stmt := tops.drop 12

theorem mulOk_small {a b : Int} (h : a.natAbs < 2 ^ 60) : IntMulOk a b := .of_left (by
  unfold Builtin.Int.intBits
  split
  · omega
  · have : a.natAbs.log2 < 60 := (Nat.log2_lt (by simp_all)).mpr h
    omega)


/-- the module's names and the builtins that the text uses -/
noncomputable def bnames : List Str := ["max", "min", "len", "sum", "range", "int", "tuple", "set", "iter", "bool", "ValueError", "StopIteration"]
structure Glo (G : List (Str × Value)) (h : Heap) : Prop where
  ns : ∃ mg mb, h.Ns mainGlobals mg ∧ h.Ns builtinsNs mb ∧ (∀ x v, G.lookup x = some v → mg x = some v) ∧ ∀ x : Str, x ∈ bnames → mg x = none ∧ mb x = bootBuiltins x
  lim : h.NoLimit
theorem Glo.ext {G : List (Str × Value)} {h h' : Heap} (x : Glo G h) (e : Ext h h') : Glo G h' := by
  obtain ⟨⟨mg, mb, h1, h2, h3, h4⟩, h5⟩ := x
  exact ⟨⟨mg, mb, h1.keeps e, h2.keeps e, h3, h4⟩, h5.keeps e⟩
section
variable {prog : Program} {w : World} {h : Heap} {G : List (Str × Value)} {env : Env}
theorem load_global {A : Around} {E : Value → Shared → Prop} {s : Shared} {x : Str} {Q : Value → Shared → Prop} (hk : env.scope.kind = .function) (hx : env.kindOf x = some .globalImplicit)
    (h : wpAny (model prog w) A (loadGlobal env x) Q E s) : wpAny (model prog w) A (loadName env x) Q E s := by
  unfold loadName
  simp only [Env.blockKind, hk, hx, ScopeKind.isAnnotationScope, Bool.false_and, Bool.false_eq_true, if_false]
  exact h
theorem has_g {x : Str} {v : Value} (g : Glo G h) (hl : G.lookup x = some v) (hk : env.scope.kind = .function) (hx : env.kindOf x = some .globalImplicit) (hg : env.globals = mainGlobals) : Has prog w h env x v :=
  fun A s E Q e hq => by
  obtain ⟨⟨mg, mb, h1, h2, h3, h4⟩, h5⟩ := g.ext e
  exact load_global hk hx (Calls.loadGlobal_global (hg ▸ h1) (h3 x v hl) hq)
theorem has_b {x : Str} {v : Value} (g : Glo G h) (hm : x ∈ bnames) (hv : bootBuiltins x = some v) (hk : env.scope.kind = .function) (hx : env.kindOf x = some .globalImplicit) (hg : env.globals = mainGlobals)
    (hb : env.builtins = builtinsNs) : Has prog w h env x v :=
  fun A s E Q e hq => by
  obtain ⟨⟨mg, mb, h1, h2, h3, h4⟩, h5⟩ := g.ext e
  exact load_global hk hx (Calls.loadGlobal_builtin (hg ▸ h1) (h4 x hm).1 (hb ▸ h2) ((h4 x hm).2.trans hv) hq)
end

noncomputable def pointD' : List Stmt := tops.drop 10
noncomputable def placeD : List Stmt := tops.drop 11
noncomputable def coloursD : List Stmt := tops.drop 13
noncomputable def dueD : List Stmt := tops.drop 14
noncomputable def lawD : List Stmt := tops.drop 15
noncomputable def rgbD : List Stmt := tops.drop 2
noncomputable def nodeC : List Stmt := clsBody (tops.drop 6)
noncomputable def sortC : List Stmt := clsBody (tops.drop 8)
noncomputable def nameOf : List Stmt → Option Str
  | .FunctionDef n .. :: _ => some n
  | .ClassDef n .. :: _ => some n
  | _ => none

section
variable {w : World} {h : Heap}
noncomputable def pt (a b : Int) : PyData := .tuple [.int a, .int b]
theorem left_ok {a : Addr} (X : FnAt h a "_law_left" (defParams leftD) (defBody leftD) (defScope leftD)) (hlim : h.NoLimit) {a0 a1 b0 b1 : Int} (h1 : a0.natAbs < 2 ^ 60) (h2 : a1.natAbs < 2 ^ 60) :
    FnP pw w 1 h (.ref a) (PAll [prD (pt a0 a1), prD (pt b0 b1)]) (IsD (.int (a0 * b1 - a1 * b0))) := by
  refine fn_own (xs := ["one", "other"]) X hlim rfl (fun fd vs e e1 e2 hl => ?_) (by decide) (by decide) rfl rfl rfl fun env h0 hx hs hg hb => ?_
  · obtain ⟨_, _, _, _, _, _, _, _, _, _, _, _, _, _, _⟩ := fd
    dsimp only at e e1 e2; subst e e1 e2
    match vs, hl with
    | [v1, v2], _ => rfl
  · refine body_ret fun h F => ?_
    have v1 := fun p => ev_varD (prog := pw) (w := w) (k := 0) (x := "one") (d := pt a0 a1) (pos := p) F rfl
    have v2 := fun p => ev_varD (prog := pw) (w := w) (k := 0) (x := "other") (d := pt b0 b1) (pos := p) F rfl
    refine ev_sub (ev_mul (ev_itemT (v1 _) ev_int (by decide) (by decide) rfl) (ev_itemT (v2 _) ev_int (by decide) (by decide) rfl) (mulOk_small h1)) (ev_mul (ev_itemT (v1 _) ev_int (by decide) (by decide) rfl) (ev_itemT (v2 _) ev_int (by decide) (by decide) rfl) (mulOk_small h2))

noncomputable def mx3 (r g b : Int) : Int := max r (max g b)
noncomputable def mn3 (r g b : Int) : Int := min r (min g b)
noncomputable def ptX (r g b : Int) : Int := if mx3 r g b - mn3 r g b = 0 then 0 else ((2 * r - g - b) * 840).fdiv (mx3 r g b - mn3 r g b)
noncomputable def ptY (r g b : Int) : Int := if mx3 r g b - mn3 r g b = 0 then 0 else ((g - b) * 840).fdiv (mx3 r g b - mn3 r g b)
theorem mx3_mem {a b c : Int} : mx3 a b c ∈ [a, b, c] := by
  have two : ∀ x y : Int, max x y = x ∨ max x y = y := fun x y => (Int.le_total x y).elim (fun q => .inr (Int.max_eq_right q)) (fun q => .inl (Int.max_eq_left q))
  unfold mx3
  rcases two a (max b c) with q | q
  · rw [q]; exact .head _
  · rw [q]
    rcases two b c with q | q
    · rw [q]; exact .tail _ (.head _)
    · rw [q]; exact .tail _ (.tail _ (.head _))
theorem mn3_mem {a b c : Int} : mn3 a b c ∈ [a, b, c] := by
  have two : ∀ x y : Int, min x y = x ∨ min x y = y := fun x y => (Int.le_total x y).elim (fun q => .inl (Int.min_eq_left q)) (fun q => .inr (Int.min_eq_right q))
  unfold mn3
  rcases two a (min b c) with q | q
  · rw [q]; exact .head _
  · rw [q]
    rcases two b c with q | q
    · rw [q]; exact .tail _ (.head _)
    · rw [q]; exact .tail _ (.tail _ (.head _))
theorem mx3_le {a b c : Int} : ∀ x ∈ [a, b, c], x ≤ mx3 a b c := by
  intro x hx
  rcases List.mem_cons.mp hx with rfl | hx
  · exact Int.le_max_left _ _
  rcases List.mem_cons.mp hx with rfl | hx
  · exact Int.le_trans (Int.le_max_left _ _) (Int.le_max_right _ _)
  · rw [List.mem_singleton.mp hx]; exact Int.le_trans (Int.le_max_right _ _) (Int.le_max_right _ _)
theorem mn3_le {a b c : Int} : ∀ x ∈ [a, b, c], mn3 a b c ≤ x := by
  intro x hx
  rcases List.mem_cons.mp hx with rfl | hx
  · exact Int.min_le_left _ _
  rcases List.mem_cons.mp hx with rfl | hx
  · exact Int.le_trans (Int.min_le_right _ _) (Int.min_le_left _ _)
  · rw [List.mem_singleton.mp hx]; exact Int.le_trans (Int.min_le_right _ _) (Int.min_le_right _ _)
theorem span_lt {c0 c1 c2 : Int} (h0 : 0 ≤ c0 ∧ c0 ≤ 8) (h1 : 0 ≤ c1 ∧ c1 ≤ 8) (h2 : 0 ≤ c2 ∧ c2 ≤ 8) : (mx3 c0 c1 c2 - mn3 c0 c1 c2).natAbs < 1073741824 := by
  have bd : ∀ x ∈ [c0, c1, c2], 0 ≤ x ∧ x ≤ 8 := fun x hx => by
    rcases List.mem_cons.mp hx with rfl | hx
    · exact h0
    rcases List.mem_cons.mp hx with rfl | hx
    · exact h1
    · rw [List.mem_singleton.mp hx]; exact h2
  have q1 := bd _ mx3_mem
  have q2 := bd _ mn3_mem
  omega
theorem point_ok {G : List (Str × Value)} {a : Addr} (X : FnAt h a "_law_point" (defParams pointD') (defBody pointD') (defScope pointD')) (g : Glo G h) {c0 c1 c2 : Int}
    (h0 : 0 ≤ c0 ∧ c0 ≤ 8) (h1 : 0 ≤ c1 ∧ c1 ≤ 8) (h2 : 0 ≤ c2 ∧ c2 ≤ 8) :
    FnP pw w 1 h (.ref a) (PAll [prD (.list [.int c0, .int c1, .int c2])]) (IsD (pt (ptX c0 c1 c2) (ptY c0 c1 c2))) := by
  refine fn_own (xs := ["colour"]) X g.lim rfl (fun fd vs e e1 e2 hl => ?_) (by decide) (by decide) rfl rfl rfl fun env h0' hx hs hg hb => ?_
  · obtain ⟨_, _, _, _, _, _, _, _, _, _, _, _, _, _, _⟩ := fd
    dsimp only at e e1 e2; subst e e1 e2
    match vs, hl with
    | [v1], _ => rfl
  · have kd : ∀ x, env.kindOf x = (defScope pointD').names.lookup x := fun x => by rw [Env.kindOf, hs]
    have g' := g.ext hx
    refine body_assign (p := prD (.int (mx3 c0 c1 c2 - mn3 c0 c1 c2))) (fun h F => ?_) ?_ (.inl (kd _))
    · have v := fun p => ev_varD (prog := pw) (w := w) (k := 0) (x := "colour") (d := .list [.int c0, .int c1, .int c2]) (pos := p) F rfl
      refine ev_sub (ev_call_builtin (has_b (g'.ext F.base) (by decide) boot_max F.kind (kd _) hg hb) (eva_cons (v _) eva_nil) (fn_max (ns := [c0, c1, c2]) ?_ ?_))
        (ev_call_builtin (has_b (g'.ext F.base) (by decide) boot_min F.kind (kd _) hg hb) (eva_cons (v _) eva_nil) (fn_min (ns := [c0, c1, c2]) ?_ ?_))
      · exact mx3_mem
      · exact mx3_le
      · exact mn3_mem
      · exact mn3_le
    refine body_if_ret (b := decide (mx3 c0 c1 c2 - mn3 c0 c1 c2 = 0)) (fun h F => ?_) (fun e => body_ret fun h F => ?_) (fun e => body_ret fun h F => ?_)
    · exact ts_cmp (ev_varD F rfl) ev_int isD_mono cmp_eqI
    · have e := of_decide_eq_true e
      simp only [ptX, ptY, e, if_true]
      exact ev_tuple (eva_cons ev_int (eva_cons ev_int eva_nil))
    · have e := of_decide_eq_false e
      simp only [ptX, ptY, e, if_false]
      have v := fun p => ev_varD (prog := pw) (w := w) (k := 0) (x := "colour") (d := .list [.int c0, .int c1, .int c2]) (pos := p) F rfl
      have i0 := fun p1 p2 p3 => ev_item (pos := p1) (v p2) (ev_int (i := 0) (n := 0) (pos := p3)) (by decide) (by decide) rfl
      have i1 := fun p1 p2 p3 => ev_item (pos := p1) (v p2) (ev_int (i := 1) (n := 0) (pos := p3)) (by decide) (by decide) rfl
      have i2 := fun p1 p2 p3 => ev_item (pos := p1) (v p2) (ev_int (i := 2) (n := 0) (pos := p3)) (by decide) (by decide) rfl
      have np : ∀ x : Int, Builtin.divisionGoesByPylong x (mx3 c0 c1 c2 - mn3 c0 c1 c2) = false := fun x => PyProof.noPylong_small (span_lt h0 h1 h2)
      exact ev_tuple (eva_cons (ev_fdiv (ev_mul (ev_sub (ev_sub (ev_mul ev_int (i0 _ _ _) (mulOk_small (by decide))) (i1 _ _ _)) (i2 _ _ _)) ev_int (mulOk_small (by omega))) (ev_varD F rfl) e (np _))
        (eva_cons (ev_fdiv (ev_mul (ev_sub (i1 _ _ _) (i2 _ _ _)) ev_int (mulOk_small (by omega))) (ev_varD F rfl) e (np _)) eva_nil))
end
end Mine

end

section
open PySem PySem.W PyProof.Rows PySem.SeqAt
set_option Elab.async false
set_option linter.all false
set_option autoImplicit false
namespace Mine
section
variable {w : World} {h : Heap}
noncomputable def plc (x y : Int) : Int := if x = 0 ∧ y = 0 then -1 else if 840 ≤ x then y.fmod 5040 else if x ≤ -840 then 2520 - y else if 0 < y then 1260 - x.fdiv 2 else 3780 + x.fdiv 2
theorem eqv_pt (a b c d : Int) : PyData.eqv (pt a b) (pt c d) = decide (a = c ∧ b = d) := by
  simp only [pt, PyData.eqv, PyData.eqvAll, Bool.and_true]
  by_cases h1 : a = c <;> by_cases h2 : b = d <;> simp [h1, h2]
theorem place_ok {a : Addr} (X : FnAt h a "_law_place" (defParams placeD) (defBody placeD) (defScope placeD)) (hlim : h.NoLimit) {x y : Int} :
    FnP pw w 1 h (.ref a) (PAll [prD (pt x y)]) (IsD (.int (plc x y))) := by
  refine fn_own (xs := ["point"]) X hlim rfl (fun fd vs e e1 e2 hl => ?_) (by decide) (by decide) rfl rfl rfl fun env h0' hx hs hg hb => ?_
  · obtain ⟨_, _, _, _, _, _, _, _, _, _, _, _, _, _, _⟩ := fd
    dsimp only at e e1 e2; subst e e1 e2
    match vs, hl with
    | [v1], _ => rfl
  · have v := fun (h : Heap) F p => ev_varD (prog := pw) (w := w) (k := 0) (h := h) (h0 := h0') (env := env) (ρ := [(Str.ofString "point", prD (pt x y))]) (x := "point") (d := pt x y) (pos := p) F rfl
    have i0 := fun (h : Heap) F p1 p2 p3 => ev_itemT (pos := p1) (v h F p2) (ev_int (i := 0) (n := 0) (pos := p3)) (by decide) (by decide) rfl
    have i1 := fun (h : Heap) F p1 p2 p3 => ev_itemT (pos := p1) (v h F p2) (ev_int (i := 1) (n := 0) (pos := p3)) (by decide) (by decide) rfl
    refine body_if_ret (b := PyData.eqv (pt x y) (pt 0 0)) (fun h F => ?_) (fun e => body_ret fun h F => ?_) fun e => ?_
    · exact ts_cmp (v h F _) (ev_tuple (eva_cons ev_int (eva_cons ev_int eva_nil))) isD_mono (cmp_eqD (by simp [pt, PyData.depth, PyData.depthAll]) (by simp [PyData.depth, PyData.depthAll]))
    · rw [eqv_pt] at e
      have e := of_decide_eq_true e
      rw [plc, if_pos e]
      exact ev_neg ev_int
    rw [eqv_pt] at e
    have e := of_decide_eq_false e
    rw [plc, if_neg e]
    refine body_if_ret (b := decide (840 ≤ x)) (fun h F => ?_) (fun e => body_ret fun h F => ?_) fun e => ?_
    · exact ts_cmp (i0 h F _ _ _) ev_int isD_mono cmp_geI
    · rw [if_pos (of_decide_eq_true e)]
      exact ev_mod (i1 h F _ _ _) ev_int (by decide)
    rw [if_neg (of_decide_eq_false e)]
    refine body_if_ret (b := decide (x ≤ -840)) (fun h F => ?_) (fun e => body_ret fun h F => ?_) fun e => ?_
    · exact ts_cmp (i0 h F _ _ _) (ev_neg ev_int) isD_mono cmp_leI
    · rw [if_pos (of_decide_eq_true e)]
      exact ev_sub ev_int (i1 h F _ _ _)
    rw [if_neg (of_decide_eq_false e)]
    refine body_ret fun h F => ?_
    refine ev_ifexp (b := decide (0 < y)) (ts_cmp (i1 h F _ _ _) ev_int isD_mono cmp_gtI) (fun e => ?_) (fun e => ?_)
    · rw [if_pos (of_decide_eq_true e)]
      exact ev_sub ev_int (ev_fdiv (i0 h F _ _ _) ev_int (by decide) (PyProof.noPylong_small (by decide)))
    · rw [if_neg (of_decide_eq_false e)]
      exact ev_add ev_int (ev_fdiv (i0 h F _ _ _) ev_int (by decide) (PyProof.noPylong_small (by decide)))
end
end Mine

end

section
open PySem PySem.W PyProof.Rows PySem.SeqAt
set_option Elab.async false
set_option linter.all false
set_option autoImplicit false
namespace Mine

/-- own cells of a new environment -/
theorem own_cells (x : Str) : ∀ (names : List (Str × NameKind)) (h : Heap) (acc : List (Str × Addr)), (x, NameKind.cell) ∈ names →
    ∃ c, (cellsFrom h.objs.size names acc).lookup x = some c ∧ h.objs.size ≤ c ∧ (pushCells h names).IsCell c none := by
  have pass : ∀ (names : List (Str × NameKind)) (h : Heap) (acc : List (Str × Addr)) (c : Addr) (lo : Nat), acc.lookup x = some c → lo ≤ c → h.IsCell c none → lo ≤ h.objs.size →
      ∃ c, (cellsFrom h.objs.size names acc).lookup x = some c ∧ lo ≤ c ∧ (pushCells h names).IsCell c none := by
    intro names
    induction names with
    | nil => intro h acc c lo h1 h2 h3 _; exact ⟨c, h1, h2, h3⟩
    | cons b r ih =>
      intro h acc c lo h1 h2 h3 h4
      obtain ⟨nm, kd⟩ := b
      unfold cellsFrom pushCells
      by_cases hk : (kd == NameKind.cell) = true
      · rw [if_pos hk, if_pos hk]
        have e := Heap.size_push h { cls := .type "cell", data := .cell none }
        rw [← e]
        by_cases q : x = nm
        · subst q
          exact ih _ _ h.objs.size lo (by simp) h4 ⟨_, Heap.get?_push_size _ rfl, rfl⟩ (by rw [e]; omega)
        · refine ih _ _ c lo ?_ h2 (h3.keeps (Ext.push _ _)) (by rw [e]; omega)
          rw [List.lookup_cons]
          have : (x == nm) = false := by simpa using q
          rw [this]; exact h1
      · rw [if_neg hk, if_neg hk]; exact ih h acc c lo h1 h2 h3 h4
  intro names
  induction names with
  | nil => intro h acc hm; cases hm
  | cons b r ih =>
    intro h acc hm
    obtain ⟨nm, kd⟩ := b
    unfold cellsFrom pushCells
    by_cases hk : (kd == NameKind.cell) = true
    · rw [if_pos hk, if_pos hk]
      have e := Heap.size_push h { cls := .type "cell", data := .cell none }
      rw [← e]
      by_cases q : x = nm
      · subst q
        exact pass r _ _ h.objs.size h.objs.size (by simp) (Nat.le_refl _) ⟨_, Heap.get?_push_size _ rfl, rfl⟩ (by rw [e]; omega)
      · rcases List.mem_cons.mp hm with z | z
        · cases z; exact absurd rfl q
        · obtain ⟨c, h1, h2, h3⟩ := ih _ ((nm, h.objs.size) :: acc) z
          exact ⟨c, h1, Nat.le_of_succ_le (by rw [e] at h2; exact h2), h3⟩
    · rw [if_neg hk, if_neg hk]
      rcases List.mem_cons.mp hm with z | z
      · cases z; exact absurd rfl hk
      · exact ih h acc z
theorem other_cells (x : Str) : ∀ (names : List (Str × NameKind)) (n : Nat) (acc : List (Str × Addr)), (∀ kd, (x, kd) ∈ names → kd ≠ .cell) → (cellsFrom n names acc).lookup x = acc.lookup x
  | [], _, _, _ => rfl
  | (nm, kd) :: r, n, acc, hn => by
    unfold cellsFrom
    by_cases hk : (kd == NameKind.cell) = true
    · rw [if_pos hk, other_cells x r (n + 1) _ fun kd hm => hn kd (List.mem_cons_of_mem _ hm), List.lookup_cons]
      have : (x == nm) = false := by
        simp only [beq_eq_false_iff_ne]
        intro q; subst q
        exact hn kd List.mem_cons_self (by simpa using hk)
      rw [this]
    · rw [if_neg hk]; exact other_cells x r n acc fun kd hm => hn kd (List.mem_cons_of_mem _ hm)

/-- a comprehension's environment -/
noncomputable def cEnv (scope : Scope) (cl : List (Str × Addr)) (C n : Addr) (env : Env) : Env :=
  { scope := relabel scope env, locals := C, globals := env.globals, cells := cellsFrom n scope.names cl, qual := env.qual, func := none, code := env.code, frame := env.frame, builtins := env.builtins }

/-- elements -/
noncomputable def Fa (F : Nat → Value → Heap → Prop) : List Nat → List Value → Heap → Prop
  | [], [], _ => True
  | j :: js, v :: vs, h => F j v h ∧ Fa F js vs h
  | _, _, _ => False
theorem Fa.length {F} : ∀ {js : List Nat} {vs : List Value} {h : Heap}, Fa F js vs h → vs.length = js.length
  | [], [], _, _ => rfl
  | _ :: _, _ :: _, _, x => by simp [Fa.length x.2]
  | [], _ :: _, _, x => x.elim
  | _ :: _, [], _, x => x.elim
theorem Fa.snoc {F} : ∀ {js : List Nat} {vs : List Value} {h : Heap} {j v}, Fa F js vs h → F j v h → Fa F (js ++ [j]) (vs ++ [v]) h
  | [], [], _, _, _, _, y => ⟨y, trivial⟩
  | _ :: _, _ :: _, _, _, _, x, y => ⟨x.1, Fa.snoc x.2 y⟩
  | [], _ :: _, _, _, _, x, _ => x.elim
  | _ :: _, [], _, _, _, x, _ => x.elim
theorem Fa.imp {F F' : Nat → Value → Heap → Prop} {h h' : Heap} : ∀ {js : List Nat} {vs : List Value}, (∀ j v, j ∈ js → v ∈ vs → F j v h → F' j v h') → Fa F js vs h → Fa F' js vs h'
  | [], [], _, _ => trivial
  | _ :: _, _ :: _, e, x => ⟨e _ _ List.mem_cons_self List.mem_cons_self x.1, Fa.imp (fun j v a b => e j v (List.mem_cons_of_mem _ a) (List.mem_cons_of_mem _ b)) x.2⟩
  | [], _ :: _, _, x => x.elim
  | _ :: _, [], _, x => x.elim
theorem Fa.mem {F} {h : Heap} : ∀ {js : List Nat} {vs : List Value}, Fa F js vs h → ∀ v ∈ vs, ∃ j, j ∈ js ∧ F j v h
  | [], [], _, v, hv => by cases hv
  | j :: _, _ :: _, x, v, hv => by
    rcases List.mem_cons.mp hv with rfl | hv
    · exact ⟨j, List.mem_cons_self, x.1⟩
    · obtain ⟨j', a, b⟩ := Fa.mem x.2 v hv; exact ⟨j', List.mem_cons_of_mem _ a, b⟩
  | [], _ :: _, x, _, _ => x.elim
  | _ :: _, [], x, _, _ => x.elim
theorem Fa.get {F} {h : Heap} : ∀ {js : List Nat} {vs : List Value}, Fa F js vs h → ∀ {i : Nat} {v}, vs[i]? = some v → ∃ j, js[i]? = some j ∧ F j v h
  | [], [], _, i, v, e => by simp at e
  | j :: js, u :: vs, x, 0, v, e => by simp at e; subst e; exact ⟨j, rfl, x.1⟩
  | j :: js, u :: vs, x, i + 1, v, e => by
    simp at e
    obtain ⟨j', a, b⟩ := Fa.get x.2 e
    exact ⟨j', by simpa using a, b⟩
  | [], _ :: _, x, _, _, _ => x.elim
  | _ :: _, [], x, _, _, _ => x.elim
theorem Fa.rd {f : Nat → PyData} {h : Heap} : ∀ {js : List Nat} {vs : List Value}, Fa (fun i => IsD (f i)) js vs h → RdAll h vs (js.map f)
  | [], [], _ => RdAll.nil
  | _ :: _, _ :: _, x => RdAll.cons x.1 (Fa.rd x.2)
  | [], _ :: _, x => x.elim
  | _ :: _, [], x => x.elim
noncomputable def IsLst (F : Nat → Value → Heap → Prop) (js : List Nat) : Value → Heap → Prop := fun v h => ∃ D ys, v = .ref D ∧ h.PlainList D ys ∧ Fa F js ys.toList h
/-- what is told of an element stays told while the list is being filled -/
noncomputable def Safe (F : Nat → Value → Heap → Prop) : Prop :=
  ∀ h h' D ys j v, h.PlainList D ys → (∀ u ∈ ys.toList, ∃ i, F i u h) → (∀ b o, b ≠ D → keptObj o = true → h.get? b = some o → h'.get? b = some o) → F j v h → F j v h'
theorem Safe.fa {F} (S : Safe F) {h h' : Heap} {D ys js vs} (hD : h.PlainList D ys) (hy : ∀ u ∈ ys.toList, ∃ i, F i u h) (hk : ∀ b o, b ≠ D → keptObj o = true → h.get? b = some o → h'.get? b = some o)
    (x : Fa F js vs h) : Fa F js vs h' := x.imp fun j v _ _ q => S h h' D ys j v hD hy hk q

section
variable {prog : Program} {w : World} {k : Nat} {env : Env} {h : Heap}

noncomputable def Itr (prog : Program) (w : World) (k : Nat) (h : Heap) (PI : Value → Heap → Prop) (n : Nat) (I : Nat → Value → Heap → Prop) : Prop :=
  ∀ (A : Around) (s : Shared) (xv : Value) (E : Value → Shared → Prop) (Q : Value → Shared → Prop), Room k A → Ext h s.heap → PI xv s.heap →
    (∀ It fp wr P St h2 tk, Walks prog w A It fp wr n P St → St 0 h2 → (∀ b ∈ fp, b < h2.objs.size) → (∀ b ∈ wr, s.heap.get? b = none) → (∀ i h', St i h' → ∀ b ∈ wr, ∃ o, h'.get? b = some o ∧ keptObj o = false) → Ext s.heap h2 →
      (∀ i v h', i < n → P i v → Ext s.heap h' → I i v h') → Q (.ref It) { s with heap := h2, toks := tk }) → wpAny (model prog w) A (pyIter xv) Q E s

/-- the tests of a comprehension -/
noncomputable def TsAll (prog : Program) (w : World) (k : Nat) (env : Env) (h : Heap) (ifs : List Expr) (b : Bool) : Prop :=
  ∀ (A : Around) (s : Shared) (E : Value → Shared → Prop) (Q : Bool → Shared → Prop), Room k A → Ext h s.heap →
    (∀ h' tk, Ext s.heap h' → Q b { s with heap := h', toks := tk }) →
    wpAny (model prog w) A (forIn ifs true fun c r => if r = true then do let ok ← isTrue c env (eval c env); pure (ForInStep.yield ok) else pure (ForInStep.yield r)) Q E s
theorem ts_none : TsAll prog w k env h [] true := fun A s E Q rm hx hq => by
  rw [List.forIn_nil]; exact wpAny_pure (hq s.heap s.toks (.refl _))
theorem ts_one {c : Expr} {b : Bool} (hc : Ts prog w k env h c b) : TsAll prog w k env h [c] b := fun A s E Q rm hx hq => by
  rw [List.forIn_cons]
  simp only [if_true]
  refine wpAny_bind (wpAny_bind (hc A s E _ rm hx fun h1 t1 e1 => wpAny_pure ?_))
  dsimp only
  rw [List.forIn_nil]
  exact wpAny_pure (hq h1 t1 e1)


/-- where a comprehension keeps its name -/
structure Tgt (prog : Program) (w : World) (cenv : Env) (x : Str) (tgt : Addr) (bd : Nat) (T : Heap → Prop) : Prop where
  lo : bd ≤ tgt
  keep : ∀ h h' : Heap, T h → (∀ b o, bd ≤ b → keptObj o = false → h.get? b = some o → h'.get? b = some o) → T h'
  ns : ∀ h : Heap, T h → ∃ m, h.Ns cenv.locals m
  obj : ∀ h : Heap, T h → ∃ o, h.get? tgt = some o ∧ keptObj o = false
  store : ∀ (A : Around) (s : Shared) (E : Value → Shared → Prop) (Q : Unit → Shared → Prop) (v : Value), T s.heap →
    (∀ h' tk, Heap.SameBut tgt s.heap h' → T h' → Has prog w h' cenv x v → (cenv.kindOf x = some .cell → ∃ c, cenv.cells.lookup x = some c ∧ h'.IsCell c (some v)) → Q () { s with heap := h', toks := tk }) → wpAny (model prog w) A (storeName cenv x v) Q E s
theorem tgt_local {cenv : Env} {x : Str} (hk : cenv.scope.kind = .function) (hl : cenv.kindOf x = some .local) : Tgt prog w cenv x cenv.locals cenv.locals (fun h => ∃ m, h.Ns cenv.locals m) where
  lo := Nat.le_refl _
  keep := fun h h' ⟨m, o, es, ep, ho, hd, r⟩ hk => ⟨m, o, es, ep, hk _ _ (Nat.le_refl _) (by simp [keptObj, hd]) ho, hd, r⟩
  ns := fun h x => x
  obj := fun h ⟨m, o, es, ep, ho, hd, _⟩ => ⟨o, ho, by simp [keptObj, hd]⟩
  store := fun A s E Q v ⟨m, hn⟩ hq => wpAny_storeName_local hl hn (fun h' hn' hs' => hq h' _ hs' ⟨_, hn'⟩ (fun A s E Q e q => wpAny_loadName_local hk hl (hn'.keeps e) (by simp) q) (fun q => by rw [hl] at q; cases q)) (by rw [hk]; rfl)
theorem tgt_cell {cenv : Env} {x : Str} {c : Addr} (hk : cenv.scope.kind = .function) (hl : cenv.kindOf x = some .cell) (hc : cenv.cells.lookup x = some c) (hlt : cenv.locals ≤ c) :
    Tgt prog w cenv x c cenv.locals (fun h => (∃ m, h.Ns cenv.locals m) ∧ ∃ ov, h.IsCell c ov) where
  lo := hlt
  keep := fun h h' ⟨⟨m, o, es, ep, ho, hd, r⟩, ov, o2, ho2, hd2⟩ hk => ⟨⟨m, o, es, ep, hk _ _ (Nat.le_refl _) (by simp [keptObj, hd]) ho, hd, r⟩, ov, o2, hk _ _ hlt (by simp [keptObj, hd2]) ho2, hd2⟩
  ns := fun h x => x.1
  obj := fun h ⟨_, ov, o2, ho2, hd2⟩ => ⟨o2, ho2, by simp [keptObj, hd2]⟩
  store := fun A s E Q v ⟨⟨m, hn⟩, ov, hv⟩ hq => wpAny_storeName_cell hk hl hc hv fun h' hc' hs' => by
    have hne : cenv.locals ≠ c := fun q => by
      obtain ⟨o1, es, ep, ho, hd, _⟩ := hn
      obtain ⟨o2, ho2, hd2⟩ := hv
      rw [← q, ho] at ho2; cases ho2; rw [hd] at hd2; cases hd2
    exact hq h' s.toks hs' ⟨⟨m, hn.sameBut hs' hne⟩, _, hc'⟩ (fun A s E Q e q => wpAny_loadName_cell hk hl hc (hc'.keeps e) q) (fun _ => ⟨c, hc, hc'⟩)

theorem comp_core {A : Around} {s : Shared} {E : Value → Shared → Prop} {Q : Value → Shared → Prop} {elt iter : Expr} {x : Str} {px : Pos} {ifs : List Expr} {scope : Scope} {pos pos' : Pos} {cl : List (Str × Addr)}
    {use : Option (Value → Sem Unit)} {PI : Value → Heap → Prop} {n : Nat} {I : Nat → Value → Heap → Prop} {p : Nat → Bool} {F : Nat → Value → Heap → Prop}
    (rm : Room k A) (hi : EvP prog w k env s.heap iter PI) (hit : Itr prog w k s.heap PI n I) (S : Safe F) (hsz : n ≤ sizeLine)
    (hclos : closureFor scope env = pure cl) (hkind : scope.kind = .function) (hnames : ∀ y ∈ scope.names, y.2 = .local → scope.names.lookup y.1 = some .local)
    (hx : (relabel scope env).names.lookup x = some .local ∨ ((x, NameKind.cell) ∈ scope.names ∧ (relabel scope env).names.lookup x = some .cell))
    (htest : ∀ i v C c0 h2, i < n → Ext s.heap h2 → I i v h2 → Has prog w h2 (cEnv scope cl C c0 env) x v → ((cEnv scope cl C c0 env).kindOf x = some .cell → ∃ c, (cEnv scope cl C c0 env).cells.lookup x = some c ∧ h2.IsCell c (some v)) → TsAll prog w k (cEnv scope cl C c0 env) h2 ifs (p i))
    (helt : ∀ i v C c0 h2, i < n → p i = true → Ext s.heap h2 → I i v h2 → Has prog w h2 (cEnv scope cl C c0 env) x v → ((cEnv scope cl C c0 env).kindOf x = some .cell → ∃ c, (cEnv scope cl C c0 env).cells.lookup x = some c ∧ h2.IsCell c (some v)) → EvP prog w k (cEnv scope cl C c0 env) h2 elt (F i))
    (hs : ∀ x, foldedSetIterable iter env x = pure x)
    (hq : ∀ D ys C m h' tk, Ext s.heap h' → h'.PlainList D ys → Fa F ((List.range n).filter p) ys.toList h' → h'.Ns C m → s.heap.get? C = none → D ≠ C → s.heap.get? D = none →
      compPost (model prog w) A E use Q (.ref D) C (.ok .next) { s with heap := h', toks := tk }) :
    wpAny (model prog w) A (comprehension (.ListComp elt [⟨.Name x px, iter, ifs, 0⟩] scope pos) scope env pos' (newList []) false (eval iter env) use) Q E s := by
  refine wpAny_comprehension_free (g := ⟨.Name x px, iter, ifs, 0⟩) (gs := []) rfl hs hclos hkind hnames ?_
  refine hi A s E _ rm (.refl _) fun xv h1 t1 e1 p1 => ?_
  refine hit A { s with heap := h1, toks := t1 } xv E _ rm e1 p1 fun It fp wr P St h2 t2 W hst hfp hwr hwk e2 hI => ?_
  refine wpAny_newObj_type ?_
  -- the new environment
  generalize hH3 : h2.push { cls := .type "list", dict := none, data := .seq ([] : List Value).toArray } = h3
  have e3 : Ext h2 h3 := hH3 ▸ Ext.push _ _
  have hD : h3.PlainList h2.objs.size #[] := ⟨0, hH3 ▸ Heap.get?_push_size _ rfl⟩
  have sz3 : h3.objs.size = h2.objs.size + 1 := hH3 ▸ Heap.size_push _ _
  unfold newFunctionEnv
  refine wpAny_bind (wpAny_alloc ?_)
  refine wpAny_bind (wpAny_layCells _ (fun name kind cells => by cases hkc : kind == NameKind.cell <;> simp [hkc]) _ _ _ _ ?_)
  generalize hH4 : h3.push { cls := .type (if (some env).isSome = true then "dict" else "frame"), data := .dict #[] } = h4
  have e4 : Ext h3 h4 := hH4 ▸ Ext.push _ _
  have sz4 : h4.objs.size = h3.objs.size + 1 := hH4 ▸ Heap.size_push _ _
  have ns4 : h4.Ns h3.objs.size fun _ => none := hH4 ▸ Heap.Ns.new h3 _
  dsimp only
  rw [List.forIn_nil]
  refine wpAny_bind (wpAny_pure (wpAny_pure ?_))
  dsimp only
  generalize hH5 : pushCells h4 scope.names = h5
  have e5 : Ext h4 h5 := hH5 ▸ pushCells_keeps _ _
  show codeAny _ A (.compStart _ 0 (.ref It) _ (cEnv scope cl h3.objs.size h4.objs.size env)) (compPost _ A E use Q _ h3.objs.size) _
  generalize hcenv : cEnv scope cl h3.objs.size h4.objs.size env = cenv
  have kd : cenv.scope.kind = .function := by rw [← hcenv]; exact hkind
  have lc : cenv.locals = h3.objs.size := by rw [← hcenv]; rfl
  have ns5 : h5.Ns cenv.locals fun _ => none := lc ▸ ns4.keeps e5
  obtain ⟨tgt, T, TG, T5⟩ : ∃ tgt T, Tgt prog w cenv x tgt cenv.locals T ∧ T h5 := by
    rcases hx with hl | ⟨hm, hl⟩
    · exact ⟨_, _, tgt_local kd (by rw [← hcenv]; exact hl), ⟨_, ns5⟩⟩
    · obtain ⟨c, q1, q2, q3⟩ := own_cells x scope.names h4 cl hm
      refine ⟨c, _, tgt_cell kd (by rw [← hcenv]; exact hl) (by rw [← hcenv]; exact q1) (by rw [lc]; exact Nat.le_trans (by rw [sz4]; exact Nat.le_succ _) q2), ⟨_, ns5⟩, none, hH5 ▸ q3⟩
  have hDs : h1.get? h2.objs.size = none := by
    cases q : h1.get? h2.objs.size with
    | none => rfl
    | some o => exact absurd (Heap.lt_size (e2 _ _ q)) (Nat.lt_irrefl _)
  have hi3 : ∀ b, h3.objs.size ≤ b → h1.get? b = none := fun b hb => by
    cases q : h1.get? b with
    | none => rfl
    | some o =>
      have := Heap.lt_size (e2 _ _ q)
      rw [sz3] at hb
      exact absurd (Nat.lt_of_lt_of_le this (Nat.le_of_succ_le hb)) (Nat.lt_irrefl _)
  have hts : h1.get? tgt = none := hi3 _ (lc ▸ TG.lo)
  have htD : h2.objs.size ≠ tgt := fun q => by
    have := TG.lo
    rw [lc, sz3, ← q] at this; exact Nat.not_succ_le_self _ this
  have hDf : h2.objs.size ∉ fp := fun q => Nat.lt_irrefl _ (hfp _ q)
  have hDw : h2.objs.size ∉ wr := fun q => hDf (W.sub _ q)
  have htw : ∀ b, cenv.locals ≤ b → b ∉ fp := fun b hb q => by
    have := hfp _ q
    rw [lc, sz3] at hb
    exact absurd (Nat.lt_of_lt_of_le this (Nat.le_of_succ_le hb)) (Nat.lt_irrefl _)
  have loop : codeAny (model prog w) A (.compLoop (.ListComp elt [⟨.Name x px, iter, ifs, 0⟩] scope pos) 0 (.ref It) (.ref h2.objs.size) cenv) (compPost (model prog w) A E use Q (.ref h2.objs.size) h3.objs.size)
      { s with heap := h5, toks := t2 } := by
    refine codeAny_compLoop_tests
      (fun j s' => ∃ h' tk ys i, s' = { s with heap := h', toks := tk } ∧ i ≤ n ∧ j = n + 1 - i ∧ St i h' ∧ h'.PlainList h2.objs.size ys ∧ Fa F ((List.range i).filter p) ys.toList h' ∧ T h' ∧ Ext h1 h') ?_ (n + 1)
      ⟨h5, t2, #[], 0, rfl, Nat.zero_le _, rfl, W.frame _ _ _ hst fun b _ o e => e5 _ _ (e4 _ _ (e3 _ _ e)), hD.at fun o e => e5 _ _ (e4 _ _ e), trivial, T5, fun b o e => e5 _ _ (e4 _ _ (e3 _ _ (e2 _ _ e)))⟩
    rintro j s' ⟨H, tk, ys, i, rfl, hin, rfl, hst', hD', hF, hT, hE⟩
    have hmem : ∀ u ∈ ys.toList, ∃ i, F i u H := fun u hu => let ⟨j, _, q⟩ := hF.mem u hu; ⟨j, q⟩
    rcases Nat.lt_or_ge i n with hlt | hge
    · refine W.item i _ _ _ hlt hst' fun v h6 t6 hPv hst6 k6 => ?_
      have hD6 : h6.PlainList h2.objs.size ys := hD'.at fun o e => k6 _ o hDw e
      have E6 : Ext h1 h6 := fun b o e => k6 b o (fun q => by have := hwr b q; rw [this] at e; cases e) (hE b o e)
      have T6 : T h6 := TG.keep _ _ hT fun b o hb _ e => k6 b o (fun q => htw b hb (W.sub _ q)) e
      have F6 : Fa F ((List.range i).filter p) ys.toList h6 := by
        refine S.fa hD' hmem (fun b o _ hb e => k6 b o (fun q => ?_) e) hF
        obtain ⟨o', q1, q2⟩ := hwk _ _ hst' b q
        rw [q1] at e; cases e; rw [q2] at hb; cases hb
      refine wpAny_assign_Name (TG.store _ _ _ _ _ T6 fun h7 t7 s7 T7 hv7 hcv7 => ?_)
      have E7 : Ext h1 h7 := fun b o e => (s7.2 b fun q => by rw [q, hts] at e; cases e).trans (E6 b o e)
      have D7 : h7.PlainList h2.objs.size ys := hD6.at fun o e => (s7.2 _ htD).trans e
      have pr7 : ∀ b o, keptObj o = true → h6.get? b = some o → h7.get? b = some o := fun b o hb e => (s7.2 b fun q => by
        obtain ⟨o', q1, q2⟩ := TG.obj _ T6
        rw [← q, e] at q1; cases q1; rw [q2] at hb; cases hb).trans e
      have mem6 : ∀ u ∈ ys.toList, ∃ i, F i u h6 := fun u hu => let ⟨j, _, q⟩ := F6.mem u hu; ⟨j, q⟩
      have F7 : Fa F ((List.range i).filter p) ys.toList h7 := S.fa hD6 mem6 (fun b o _ hb e => pr7 b o hb e) F6
      have st7 : St (i + 1) h7 := W.frame _ _ _ hst6 fun b hb o e => (s7.2 b fun q => htw _ TG.lo (q ▸ hb)).trans e
      have hE7 : Ext s.heap h7 := e1.trans E7
      have hI7 : I i v h7 := hI i v h7 hlt hPv E7
      refine hcenv ▸ htest i v _ _ h7 hlt hE7 hI7 (hcenv ▸ hv7) (hcenv ▸ hcv7) A _ _ _ rm (.refl _) fun h8 t8 e8 => ?_
      have mem7 : ∀ u ∈ ys.toList, ∃ i, F i u h7 := fun u hu => let ⟨j, _, q⟩ := F7.mem u hu; ⟨j, q⟩
      have D8 : h8.PlainList h2.objs.size ys := D7.at fun o e => e8 _ _ e
      have F8 : Fa F ((List.range i).filter p) ys.toList h8 := S.fa D7 mem7 (fun b o _ _ e => e8 b o e) F7
      have mem8 : ∀ u ∈ ys.toList, ∃ i, F i u h8 := fun u hu => let ⟨j, _, q⟩ := F8.mem u hu; ⟨j, q⟩
      have T8 : T h8 := TG.keep _ _ T7 fun b o _ _ e => e8 b o e
      have st8 : St (i + 1) h8 := W.frame _ _ _ st7 fun b _ o e => e8 b o e
      have rg : (List.range (i + 1)).filter p = (List.range i).filter p ++ (if p i = true then [i] else []) := by
        rw [List.range_succ, List.filter_append]; by_cases q : p i = true <;> simp [q]
      cases hpi : p i with
      | false =>
        simp only [Bool.false_eq_true, if_false]
        refine ⟨n + 1 - (i + 1), by omega, h8, t8, ys, i + 1, rfl, hlt, rfl, st8, D8, ?_, T8, E7.trans e8⟩
        rw [rg, hpi]; simpa using F8
      | true =>
        simp only [if_true]
        refine hcenv ▸ helt i v _ _ h7 hlt hpi hE7 hI7 (hcenv ▸ hv7) (hcenv ▸ hcv7) A _ _ _ rm e8 fun y h9 t9 e9 p9 => ?_
        have D9 : h9.PlainList h2.objs.size ys := D8.at fun o e => e9 _ _ e
        have F9 : Fa F ((List.range i).filter p) ys.toList h9 := S.fa D8 mem8 (fun b o _ _ e => e9 b o e) F8
        have mem9 : ∀ u ∈ ys.toList, ∃ i, F i u h9 := fun u hu => let ⟨j, _, q⟩ := F9.mem u hu; ⟨j, q⟩
        have hys : ys.size ≤ sizeLine := by
          have q1 := F9.length
          have q2 : ((List.range i).filter p).length ≤ (List.range i).length := List.length_filter_le _ _
          simp at q1 q2; omega
        refine wpAny_list_append_plain (hsz := hys) D9 fun h10 D10 s10 => ?_
        refine ⟨n + 1 - (i + 1), by omega, h10, t9, ys.push y, i + 1, rfl, hlt, rfl, ?_, D10, ?_, ?_, ?_⟩
        · exact W.frame _ _ _ st8 fun b hb o e => (s10.2 b fun q => hDf (q ▸ hb)).trans (e9 b o e)
        · rw [rg, hpi]
          simp only [if_true, Array.toList_push]
          exact Fa.snoc (S.fa D9 mem9 (fun b o hb _ e => (s10.2 b hb).trans e) F9) (S _ _ _ _ _ _ D9 mem9 (fun b o hb _ e => (s10.2 b hb).trans e) p9)
        · exact TG.keep _ _ T8 fun b o hb _ e => (s10.2 b fun q => by
            rw [q, lc, sz3] at hb; exact Nat.not_succ_le_self _ hb).trans (e9 b o e)
        · exact fun b o e => (s10.2 b fun q => by rw [q, hDs] at e; cases e).trans (e9 b o (e8 b o (E7 b o e)))
    · have hin' : i = n := Nat.le_antisymm hin hge
      subst hin'
      refine W.done _ _ _ hst' fun h6 t6 k6 => ?_
      have T6 : T h6 := TG.keep _ _ hT fun b o hb _ e => k6 b o (fun q => htw b hb (W.sub _ q)) e
      obtain ⟨m6, n6⟩ := TG.ns _ T6
      refine hq h2.objs.size ys h3.objs.size m6 h6 t6 ?_ (hD'.at fun o e => k6 _ o hDw e) ?_ (lc ▸ n6) ?_ ?_ ?_
      · exact fun b o e => k6 b o (fun q => by have := hwr b q; rw [e1 _ _ e] at this; cases this) (hE b o (e1 _ _ e))
      · refine S.fa hD' hmem (fun b o _ hb e => k6 b o (fun q => ?_) e) hF
        obtain ⟨o', q1, q2⟩ := hwk _ _ hst' b q
        rw [q1] at e; cases e; rw [q2] at hb; cases hb
      · cases q : s.heap.get? h3.objs.size with
        | none => rfl
        | some o => have := e1 _ _ q; rw [hi3 _ (Nat.le_refl _)] at this; cases this
      · rw [sz3]; exact Nat.ne_of_lt (Nat.lt_succ_self _)
      · cases q : s.heap.get? h2.objs.size with
        | none => rfl
        | some o => have := e1 _ _ q; rw [hDs] at this; cases this
  exact codeAny_compStart_list loop (W.self 0 _ _ _ (W.frame _ _ _ hst fun b _ o e => e5 _ _ (e4 _ _ (e3 _ _ e))) loop)
end
end Mine

end

section
open PySem PySem.W PyProof.Rows PySem.SeqAt
set_option Elab.async false
set_option linter.all false
set_option autoImplicit false
namespace Mine

/-- the captured cells -/
noncomputable def closL (cv : Str → Addr) : List (Str × NameKind) → List (Str × Addr) → List (Str × Addr)
  | [], acc => acc
  | (n, kd) :: r, acc => closL cv r (if kd == .free then (n, cv n) :: acc else acc)
noncomputable def capL (scope : Scope) (env : Env) : List (Str × Addr) := closL (fun n => (env.cells.lookup n).getD 0) scope.names []
theorem closureFor_cap {scope : Scope} {env : Env} (hf : ∀ y, (y, NameKind.free) ∈ scope.names → (env.cells.lookup y).isSome = true) : closureFor scope env = pure (capL scope env) := by
  have go : ∀ (names : List (Str × NameKind)) (acc : List (Str × Addr)), (∀ y, (y, NameKind.free) ∈ names → (env.cells.lookup y).isSome = true) →
      (forIn names acc (fun x cs => match x with | (name, kind) => if kind == .free then (do let a ← cellOf env name; pure (ForInStep.yield ((name, a) :: cs))) else pure (ForInStep.yield cs)) : Sem (List (Str × Addr))) =
        pure (closL (fun n => (env.cells.lookup n).getD 0) names acc) := by
    intro names
    induction names with
    | nil => intro acc _; rw [List.forIn_nil]; rfl
    | cons b r ih =>
      intro acc hf
      obtain ⟨n, kd⟩ := b
      rw [List.forIn_cons]
      by_cases hk : (kd == NameKind.free) = true
      · have hk' : kd = .free := by simpa using hk
        obtain ⟨c, hc⟩ := Option.isSome_iff_exists.mp (hf n (by rw [hk']; exact List.mem_cons_self))
        have e1 : cellOf env n = pure c := by unfold cellOf; rw [hc]
        simp only [hk, if_true]
        rw [e1]
        show (forIn r ((n, c) :: acc) _ : Sem (List (Str × Addr))) = _
        rw [ih _ fun y hy => hf y (List.mem_cons_of_mem _ hy), closL, if_pos hk, hc]; rfl
      · simp only [hk]
        show (forIn r acc _ : Sem (List (Str × Addr))) = _
        rw [ih _ fun y hy => hf y (List.mem_cons_of_mem _ hy), closL, if_neg hk]
  unfold closureFor capL
  have := go scope.names [] hf
  exact congrArg (fun m : Sem (List (Str × Addr)) => m >>= pure) this
theorem closL_lookup (cv : Str → Addr) (y : Str) : ∀ (names : List (Str × NameKind)) (acc : List (Str × Addr)), ((y, NameKind.free) ∈ names ∨ acc.lookup y = some (cv y)) → (closL cv names acc).lookup y = some (cv y)
  | [], acc, h => h.elim (fun q => by cases q) id
  | (n, kd) :: r, acc, h => by
    unfold closL
    apply closL_lookup cv y r
    by_cases hk : (kd == NameKind.free) = true
    · rw [if_pos hk]
      by_cases q : y = n
      · subst q; exact .inr (by simp)
      · refine h.imp (fun e => ?_) fun e => ?_
        · rcases List.mem_cons.mp e with z | z
          · cases z; exact absurd rfl q
          · exact z
        · rw [List.lookup_cons]
          have : (y == n) = false := by simpa using q
          rw [this]; exact e
    · rw [if_neg hk]
      refine h.imp (fun e => ?_) id
      rcases List.mem_cons.mp e with z | z
      · cases z; exact absurd rfl hk
      · exact z
theorem relabel_lookup (scope : Scope) (env : Env) (y : Str) (kd : NameKind) (hl : scope.names.lookup y = some kd) :
    (relabel scope env).names.lookup y = some (if (kd == .free && env.scope.kind == .function && env.kindOf y == some .cell) then .cell else kd) := by
  unfold relabel
  dsimp only
  generalize scope.names = names at hl ⊢
  induction names with
  | nil => simp at hl
  | cons b r ih =>
    obtain ⟨n, k⟩ := b
    rw [List.lookup_cons] at hl
    by_cases q : y = n
    · subst q
      simp at hl; subst hl
      rw [List.map_cons]
      split <;> simp
    · have hb : (y == n) = false := by simpa using q
      rw [hb] at hl
      rw [List.map_cons]
      split <;> (rw [List.lookup_cons, hb]; exact ih hl)
theorem relabel_plain {scope : Scope} {env : Env} {y : Str} {kd : NameKind} (hl : scope.names.lookup y = some kd) (hn : kd ≠ .free) : (relabel scope env).names.lookup y = some kd := by
  rw [relabel_lookup _ _ _ _ hl]
  have : (kd == NameKind.free) = false := by simpa using hn
  simp [this]
theorem relabel_free {scope : Scope} {env : Env} {y : Str} (hl : scope.names.lookup y = some .free) : (relabel scope env).names.lookup y = some .cell ∨ (relabel scope env).names.lookup y = some .free := by
  rw [relabel_lookup _ _ _ _ hl]
  split
  · exact .inl rfl
  · exact .inr rfl

section
variable {prog : Program} {w : World} {k : Nat} {env : Env} {h : Heap}
/-- a captured name inside of a comprehension -/
theorem has_cap {scope : Scope} {C n c : Addr} {y : Str} {v : Value} (hl : scope.names.lookup y = some .free) (hno : scope.names.all (fun p => !(p.1 == y && p.2 == .cell)) = true) (hk : scope.kind = .function)
    (hc : env.cells.lookup y = some c) (hv : h.IsCell c (some v)) (hn : (y == ("__classdict__" : Str)) = false := by decide) : Has prog w h (cEnv scope (capL scope env) C n env) y v := by
  have e : (cEnv scope (capL scope env) C n env).cells.lookup y = some c := by
    show (cellsFrom n scope.names (capL scope env)).lookup y = some c
    rw [other_cells y _ _ _ (fun kd hm q => by have := List.all_eq_true.mp hno _ hm; rw [q] at this; simp at this), capL, closL_lookup _ y _ _ (.inl (mem_of_lookup hl)), hc]; rfl
  intro A s E Q he hq
  rcases relabel_free (env := env) hl with q | q
  · exact wpAny_loadName_cell hk q e (hv.keeps he) hq
  · exact wpAny_loadName_free hk q e (hv.keeps he) hq hn
/-- a global name inside of a comprehension -/
theorem has_gC {G : List (Str × Value)} {scope : Scope} {cl : List (Str × Addr)} {C n : Addr} {x : Str} {v : Value} (g : Glo G h) (hl : G.lookup x = some v) (hk : scope.kind = .function) (hx : scope.names.lookup x = some .globalImplicit)
    (hg : env.globals = mainGlobals) : Has prog w h (cEnv scope cl C n env) x v := has_g g hl hk (relabel_plain hx (by decide)) hg
theorem has_bC {G : List (Str × Value)} {scope : Scope} {cl : List (Str × Addr)} {C n : Addr} {x : Str} {v : Value} (g : Glo G h) (hm : x ∈ bnames) (hv : bootBuiltins x = some v) (hk : scope.kind = .function)
    (hx : scope.names.lookup x = some .globalImplicit) (hg : env.globals = mainGlobals) (hb : env.builtins = builtinsNs) : Has prog w h (cEnv scope cl C n env) x v := has_b g hm hv hk (relabel_plain hx (by decide)) hg hb

/-- lists told item by item -/
noncomputable def LstOf (ps : List Pr) : Value → Heap → Prop := fun v h => ∃ D ys, v = .ref D ∧ h.PlainList D ys ∧ PAll ps ys.toList h
theorem LstOf.rd {ds : List PyData} {v : Value} {h : Heap} (x : LstOf (ds.map prD) v h) : Rd h v (.list ds) := by
  obtain ⟨D, ys, rfl, hD, hy⟩ := x
  refine Rd.list hD.isList ?_
  have : ∀ (ds : List PyData) (vs : List Value), PAll (ds.map prD) vs h → RdAll h vs ds := by
    intro ds
    induction ds with
    | nil =>
      intro vs hv
      cases vs with
      | nil => exact RdAll.nil
      | cons _ _ => exact hv.elim
    | cons d ds ih =>
      intro vs hv
      cases vs with
      | nil => exact hv.elim
      | cons v vs => exact RdAll.cons hv.1 (ih vs hv.2)
  exact this _ _ hy

/-- a source of items -/
noncomputable def Src (prog : Program) (w : World) (k : Nat) (h : Heap) (PI : Value → Heap → Prop) (ps : List Pr) : Prop :=
  Itr prog w k h PI ps.length (fun i v h' => ∃ p, ps[i]? = some p ∧ p.P v h')

theorem PAll.get : ∀ {ps : List Pr} {vs : List Value} {h : Heap}, PAll ps vs h → ∀ {i : Nat} {v : Value}, vs[i]? = some v → ∃ p : Pr, ps[i]? = some p ∧ p.P v h
  | [], [], _, _, i, v, e => by simp at e
  | p :: ps, u :: vs, h, x, 0, v, e => by simp at e; subst e; exact ⟨p, rfl, x.1⟩
  | p :: ps, u :: vs, h, x, i + 1, v, e => by
    simp at e
    obtain ⟨q, a, b⟩ := PAll.get x.2 e
    exact ⟨q, by simpa using a, b⟩
  | [], _ :: _, _, x, _, _, _ => x.elim
  | _ :: _, [], _, x, _, _, _ => x.elim

theorem itr_of_list {PI : Value → Heap → Prop} {ps : List Pr} (hp : ∀ v h, PI v h → ∃ a vs, v = .ref a ∧ h.IsList a vs ∧ PAll ps vs.toList h) : Src prog w k h PI ps := fun A s xv E Q rm hx pi hq => by
  obtain ⟨a, vs, rfl, hl, hr⟩ := hp _ _ pi
  have hlt : a < s.heap.objs.size := by obtain ⟨_, e, _⟩ := hl; exact Heap.lt_size e
  have hn : vs.size = ps.length := by simpa using hr.length
  refine wpAny_pyIter_list hl ?_
  have W := Walks.list (prog := prog) (w := w) (A := A) rm.handled s.heap.objs.size a (Nat.ne_of_lt hlt) vs
  rw [hn] at W
  refine hq s.heap.objs.size _ _ _ _ _ s.toks W ⟨⟨_, Heap.get?_push_size _ rfl, rfl, rfl⟩, hl.push _⟩ (fun b hb => ?_) (fun b hb => ?_) (fun i h' st b hb => ?_) (Ext.push _ _) (fun i v h' hi hP e => ?_)
  · rw [Heap.size_push]
    rcases List.mem_cons.mp hb with rfl | hb
    · exact Nat.lt_succ_self _
    · rw [List.mem_singleton.mp hb]; exact Nat.lt_succ_of_lt hlt
  · rw [List.mem_singleton.mp hb]
    cases e : s.heap.get? s.heap.objs.size with
    | none => rfl
    | some o => exact absurd (Heap.lt_size e) (Nat.lt_irrefl _)
  · rw [List.mem_singleton.mp hb]
    obtain ⟨⟨o, q1, q2, q3⟩, _⟩ := st
    exact ⟨o, q1, by simp [keptObj, q3]⟩
  · obtain ⟨p, q1, q2⟩ := hr.get (i := i) (v := v) (by simpa using hP)
    exact ⟨p, q1, p.st _ _ _ e.pres q2⟩
theorem src_lst {ps : List Pr} : Src prog w k h (LstOf ps) ps := itr_of_list fun v h ⟨D, ys, e, hD, hy⟩ => ⟨D, ys, e, hD.isList, hy⟩
theorem src_list {ds : List PyData} : Src prog w k h (IsD (.list ds)) (ds.map prD) := itr_of_list fun v h x => by
  obtain ⟨a, vs, e, hl, hr⟩ := Rd.inv_list x
  exact ⟨a, vs, e, hl, PAll.of_rd hr⟩
/-- range(n) -/
noncomputable def IsRng (n : Nat) : Value → Heap → Prop := fun v h => ∃ a t u z, v = .ref a ∧ IsRange h a 0 n 1 t u z
theorem fn_range {n : Nat} : FnP prog w k h (.type "range") (fun vs h' => RdAll h' vs [.int n]) (IsRng n) := fun A s vs E Q rm hx pa hq => by
  obtain ⟨v, _, rfl, hv, hr⟩ := pa.inv_cons
  rw [hr.inv_nil]
  obtain ⟨t, rfl⟩ := hv.inv_int
  refine call_range_1 (hq _ _ _ (Ext.push _ _) ⟨_, _, _, _, rfl, IsRange.new _ _ _ _ _ _ _⟩)
theorem src_range {n : Nat} (hn : n < 2 ^ 60) : Src prog w k h (IsRng n) ((List.range n).map fun i => prD (.int (i : Nat))) := fun A s xv E Q rm hx pi hq => by
  obtain ⟨a, t, u, z, rfl, hr⟩ := pi
  have sz : Builtin.Range.rangeSize 0 (n : Int) 1 = n := by rw [rangeSize_one]; split <;> omega
  have W := Walks.range (prog := prog) (w := w) (A := A) rm.handled s.heap.objs.size 0 1 n
  rw [show n = ((List.range n).map fun i => prD (.int ((i : Nat) : Int))).length by simp] at W
  refine wpAny_pyIter_range hr ?_ ?_
  · unfold Builtin.Range.small Builtin.Range.rangeFitsLong
    rw [sz]
    simp
    omega
  · rw [sz]
    refine hq s.heap.objs.size _ _ _ _ _ s.toks W ?_ (fun b hb => ?_) (fun b hb => ?_) (fun i h' st b hb => ?_) (Ext.push _ _) (fun i v h' hi hP e => ?_)
    · have := Heap.get?_push_size s.heap (o := { cls := .type "range_iterator", data := .fields #[rawInt 0, rawInt n, rawInt 1] }) rfl
      simpa [IsRangeIter] using this
    · rw [Heap.size_push, List.mem_singleton.mp hb]; exact Nat.lt_succ_self _
    · rw [List.mem_singleton.mp hb]
      cases e : s.heap.get? s.heap.objs.size with
      | none => rfl
      | some o => exact absurd (Heap.lt_size e) (Nat.lt_irrefl _)
    · rw [List.mem_singleton.mp hb]
      exact ⟨_, st, rfl⟩
    · obtain ⟨t, rfl⟩ := hP
      simp at hi
      refine ⟨prD (.int (i : Nat)), by simp [hi], ?_⟩
      have : (0 : Int) + (i : Nat) * 1 = (i : Nat) := by omega
      rw [this]; exact Rd.int

/-- stability of the elements of a list that is being filled -/
noncomputable def SafeP (p : Pr) : Prop := ∀ h h' D ys v, h.PlainList D ys → (∀ b o, b ≠ D → keptObj o = true → h.get? b = some o → h'.get? b = some o) → p.P v h → p.P v h'
theorem safe_of {α : Type} {xs : List α} {g : Nat → Pr} (hg : ∀ i, SafeP (g i)) : Safe fun i => (g i).P := fun h h' D ys j v hD _ hk x => hg j h h' D ys v hD hk x
mutual
noncomputable def noList : PyData → Bool
  | .tuple xs => noLists xs
  | .list _ => false
  | .dict _ => false
  | _ => true
noncomputable def noLists : List PyData → Bool
  | [] => true
  | x :: xs => noList x && noLists xs
end
theorem reads_safe {h h' : Heap} {D ys} (hD : h.PlainList D ys) (e : ∀ b o, b ≠ D → keptObj o = true → h.get? b = some o → h'.get? b = some o) {v : Value} {d : PyData} {as : List Addr} (r : Reads h v d as) : noList d = true → Reads h' v d as :=
  Reads.rec (motive_1 := fun v d as _ => noList d = true → Reads h' v d as) (motive_2 := fun vs ds as _ => noLists ds = true → ReadsAll h' vs ds as)
    (fun _ => .none) (fun b _ => .bool b) (fun i t _ => .int i t) (fun x t _ => .str x t)
    (fun _ _ _ _ _ c => by cases c) (fun h1 h2 h3 _ ih c => .tuple (e _ _ (fun q => by
      obtain ⟨n, hD⟩ := hD
      rw [q, hD] at h1; cases h1; exact absurd h2 (by simp)) (by rw [keptObj, h3]) h1) h2 h3 (ih c))
    (fun _ _ _ _ _ _ _ c => by cases c) (fun _ => .nil) (fun _ _ i1 i2 c => .cons (i1 (Bool.and_eq_true_iff.mp c).1) (i2 (Bool.and_eq_true_iff.mp c).2)) r
theorem safeD {d : PyData} (hd : noList d = true) : SafeP (prD d) := fun h h' D ys v hD e x => let ⟨⟨as, r⟩, c⟩ := x; ⟨⟨as, reads_safe hD e r hd⟩, c⟩

/-- the rule for a list comprehension over a told source -/
theorem comp_rule {A : Around} {s : Shared} {E : Value → Shared → Prop} {Q : Value → Shared → Prop} {elt iter : Expr} {x : Str} {px : Pos} {ifs : List Expr} {scope : Scope} {pos pos' : Pos}
    {use : Option (Value → Sem Unit)} {α : Type} (xs : List α) (sp : α → Pr) (q : α → Bool) (g : α → Pr) {PI : Value → Heap → Prop}
    (rm : Room k A) (hi : EvP prog w k env s.heap iter PI) (hit : Src prog w k s.heap PI (xs.map sp)) (S : Safe fun i => fun v h => ∃ a, xs[i]? = some a ∧ (g a).P v h) (hsz : xs.length ≤ sizeLine)
    (hfree : ∀ y, (y, NameKind.free) ∈ scope.names → (env.cells.lookup y).isSome = true) (hkind : scope.kind = .function) (hnames : ∀ y ∈ scope.names, y.2 = .local → scope.names.lookup y.1 = some .local)
    (hx : scope.names.lookup x = some .local ∨ scope.names.lookup x = some .cell)
    (htest : ∀ a ∈ xs, ∀ v C c0 h2, Ext s.heap h2 → (sp a).P v h2 → Has prog w h2 (cEnv scope (capL scope env) C c0 env) x v → ((cEnv scope (capL scope env) C c0 env).kindOf x = some .cell → ∃ c, (cEnv scope (capL scope env) C c0 env).cells.lookup x = some c ∧ h2.IsCell c (some v)) → TsAll prog w k (cEnv scope (capL scope env) C c0 env) h2 ifs (q a))
    (helt : ∀ a ∈ xs, ∀ v C c0 h2, q a = true → Ext s.heap h2 → (sp a).P v h2 → Has prog w h2 (cEnv scope (capL scope env) C c0 env) x v → ((cEnv scope (capL scope env) C c0 env).kindOf x = some .cell → ∃ c, (cEnv scope (capL scope env) C c0 env).cells.lookup x = some c ∧ h2.IsCell c (some v)) → EvP prog w k (cEnv scope (capL scope env) C c0 env) h2 elt (g a).P)
    (hs : ∀ x, foldedSetIterable iter env x = pure x)
    (hq : ∀ D ys C m h' tk, Ext s.heap h' → h'.PlainList D ys → PAll ((xs.filter q).map g) ys.toList h' → h'.Ns C m → s.heap.get? C = none → D ≠ C → s.heap.get? D = none →
      compPost (model prog w) A E use Q (.ref D) C (.ok .next) { s with heap := h', toks := tk }) :
    wpAny (model prog w) A (comprehension (.ListComp elt [⟨.Name x px, iter, ifs, 0⟩] scope pos) scope env pos' (newList []) false (eval iter env) use) Q E s := by
  have hlen : (xs.map sp).length = xs.length := by simp
  have getsp : ∀ (i : Nat) (v : Value) (h2 : Heap), i < (xs.map sp).length → (∃ p, (xs.map sp)[i]? = some p ∧ p.P v h2) → ∃ a, xs[i]? = some a ∧ a ∈ xs ∧ (sp a).P v h2 := fun i v h2 hi ⟨p, e, hp⟩ => by
    rw [List.getElem?_map] at e
    cases ha : xs[i]? with
    | none => rw [ha] at e; cases e
    | some a =>
      rw [ha] at e; cases e
      exact ⟨a, rfl, List.mem_of_getElem? ha, hp⟩
  have pi : ∀ (i : Nat) (a : α), xs[i]? = some a → (xs[i]?.elim false q) = q a := fun i a e => by rw [e]; rfl
  refine comp_core (p := fun i => xs[i]?.elim false q) (F := fun i v h => ∃ a, xs[i]? = some a ∧ (g a).P v h) rm hi hit S (by rw [hlen]; exact hsz) (closureFor_cap hfree) hkind hnames ?_ ?_ ?_ hs ?_
  · rcases hx with e | e
    · exact .inl (relabel_plain e (by decide))
    · exact .inr ⟨mem_of_lookup e, relabel_plain e (by decide)⟩
  · intro i v C c0 h2 hi e hI hv hcv
    obtain ⟨a, e1, e2, e3⟩ := getsp i v h2 hi hI
    simp only [e1, Option.elim]
    exact htest a e2 v C c0 h2 e e3 hv hcv
  · intro i v C c0 h2 hi hp e hI hv hcv
    obtain ⟨a, e1, e2, e3⟩ := getsp i v h2 hi hI
    simp only [e1, Option.elim] at hp
    exact (helt a e2 v C c0 h2 hp e e3 hv hcv).mono fun v h' _ y => ⟨a, e1, y⟩
  · intro D ys C m h' tk e hD hF hn hC hDC hDn
    refine hq D ys C m h' tk e hD ?_ hn hC hDC hDn
    rw [hlen] at hF
    -- from places to items
    have key : ∀ (m : Nat) (vs : List Value), m ≤ xs.length → Fa (fun i v h => ∃ a, xs[i]? = some a ∧ (g a).P v h) ((List.range m).filter fun i => xs[i]?.elim false q) vs h' → PAll (((xs.take m).filter q).map g) vs h' := by
      intro m
      induction m with
      | zero =>
        intro vs _ hF
        cases vs with
        | nil => trivial
        | cons _ _ => exact hF.elim
      | succ m ih =>
        intro vs hm hF
        have hlt : m < xs.length := hm
        have e1 : xs[m]? = some xs[m] := by simp [hlt]
        rw [List.range_succ, List.filter_append] at hF
        rw [List.take_add_one, e1]
        simp only [Option.toList, List.filter_append, List.map_append]
        by_cases hq : q xs[m] = true
        · have f1 : ([m].filter fun i => xs[i]?.elim false q) = [m] := by simp [e1, hq]
          have f2 : [xs[m]].filter q = [xs[m]] := by simp [hq]
          rw [f1] at hF
          rw [f2]
          have sp : ∀ (js : List Nat) (ps : List Pr) (vs : List Value), (∀ vs, Fa (fun i v h => ∃ a, xs[i]? = some a ∧ (g a).P v h) js vs h' → PAll ps vs h') → js.length = ps.length → Fa (fun i v h => ∃ a, xs[i]? = some a ∧ (g a).P v h) (js ++ [m]) vs h' → PAll (ps ++ [g xs[m]]) vs h' := by
            intro js
            induction js with
            | nil =>
              intro ps vs hh hl hF
              cases ps with
              | cons _ _ => simp at hl
              | nil =>
                cases vs with
                | nil => exact hF.elim
                | cons v vs =>
                  obtain ⟨⟨a, ea, pa⟩, r⟩ := hF
                  rw [e1] at ea; cases ea
                  cases vs with
                  | nil => exact ⟨pa, trivial⟩
                  | cons _ _ => exact r.elim
            | cons j js ih2 =>
              intro ps vs hh hl hF
              cases ps with
              | nil => simp at hl
              | cons p ps =>
                cases vs with
                | nil => exact hF.elim
                | cons v vs =>
                  -- split the last off
                  obtain ⟨us, z, rfl⟩ : ∃ us z, vs = us ++ [z] := by
                    have hl2 := Fa.length hF.2
                    have : vs ≠ [] := by intro q; rw [q] at hl2; simp at hl2
                    exact ⟨vs.dropLast, vs.getLast this, (List.dropLast_concat_getLast this).symm⟩
                  have spl : ∀ (js : List Nat) (us : List Value), Fa (fun i v h => ∃ a, xs[i]? = some a ∧ (g a).P v h) (js ++ [m]) (us ++ [z]) h' → Fa (fun i v h => ∃ a, xs[i]? = some a ∧ (g a).P v h) js us h' ∧ (g xs[m]).P z h' := by
                    intro js
                    induction js with
                    | nil =>
                      intro us hF
                      cases us with
                      | nil =>
                        obtain ⟨⟨a, ea, pa⟩, _⟩ := hF
                        rw [e1] at ea; cases ea; exact ⟨trivial, pa⟩
                      | cons u us =>
                        obtain ⟨_, r⟩ := hF
                        cases us <;> exact r.elim
                    | cons j js ih3 =>
                      intro us hF
                      cases us with
                      | nil =>
                        obtain ⟨_, r⟩ := hF
                        cases js <;> exact r.elim
                      | cons u us =>
                        obtain ⟨r1, r2⟩ := hF
                        obtain ⟨q1, q2⟩ := ih3 us r2
                        exact ⟨⟨r1, q1⟩, q2⟩
                  obtain ⟨s1, s2⟩ := spl (j :: js) (v :: us) hF
                  have := hh _ s1
                  have app : ∀ (ps : List Pr) (us : List Value), PAll ps us h' → PAll (ps ++ [g xs[m]]) (us ++ [z]) h' := by
                    intro ps
                    induction ps with
                    | nil =>
                      intro us x
                      cases us with
                      | nil => exact ⟨s2, trivial⟩
                      | cons _ _ => exact x.elim
                    | cons p ps ih4 =>
                      intro us x
                      cases us with
                      | nil => exact x.elim
                      | cons u us => exact ⟨x.1, ih4 us x.2⟩
                  exact app _ _ this
          refine sp _ _ vs (fun vs x => ih vs (Nat.le_of_succ_le hm) x) ?_ hF
          -- lengths
          have : ∀ m, m ≤ xs.length → ((List.range m).filter fun i => xs[i]?.elim false q).length = (((xs.take m).filter q).map g).length := by
            intro m
            induction m with
            | zero => intro _; simp
            | succ m ih5 =>
              intro hm
              have hlt : m < xs.length := hm
              have e1 : xs[m]? = some xs[m] := by simp [hlt]
              rw [List.range_succ, List.filter_append, List.take_add_one, e1]
              simp only [Option.toList, List.filter_append, List.map_append, List.length_append]
              rw [ih5 (Nat.le_of_succ_le hm)]
              congr 1
              by_cases hq : q xs[m] = true <;> simp [e1, hq]
          exact this m (Nat.le_of_succ_le hm)
        · have f1 : ([m].filter fun i => xs[i]?.elim false q) = [] := by simp [e1, hq]
          have f2 : [xs[m]].filter q = [] := by simp [hq]
          rw [f1, List.append_nil] at hF
          rw [f2]
          simpa using ih vs (Nat.le_of_succ_le hm) hF
    have := key xs.length ys.toList (Nat.le_refl _) hF
    rwa [List.take_length] at this

theorem PAll.st : ∀ {ps : List Pr} {vs : List Value} {h h' : Heap}, Pres h h' → PAll ps vs h → PAll ps vs h'
  | [], [], _, _, _, _ => trivial
  | p :: ps, v :: vs, _, _, e, x => ⟨p.st _ _ _ e x.1, PAll.st e x.2⟩
  | [], _ :: _, _, _, _, x => x.elim
  | _ :: _, [], _, _, _, x => x.elim
theorem LstOf.st {ps : List Pr} : ∀ v h h', Pres h h' → LstOf ps v h → LstOf ps v h' := fun v h h' e ⟨D, ys, e1, ⟨n, hD⟩, hy⟩ => ⟨D, ys, e1, ⟨n, e _ _ rfl hD⟩, hy.st e⟩
noncomputable def prL (ps : List Pr) : Pr := ⟨LstOf ps, LstOf.st⟩
theorem sameBut_pres {C : Addr} {m} {h h' : Heap} (hn : h.Ns C m) (hs : Heap.SameBut C h h') : Pres h h' := fun b o hb e => (hs.2 b fun q => by
  obtain ⟨o1, es, ep, ho, hd, _⟩ := hn
  subst q; rw [ho] at e; cases e; simp [keptObj, hd] at hb).trans e

/-- as a value -/
theorem ev_comp {elt iter : Expr} {x : Str} {px : Pos} {ifs : List Expr} {scope : Scope} {pos : Pos} {α : Type} (xs : List α) (sp : α → Pr) (q : α → Bool) (g : α → Pr) {PI : Value → Heap → Prop}
    (hi : EvP prog w k env h iter PI) (hit : Src prog w k h PI (xs.map sp)) (S : Safe fun i => fun v h => ∃ a, xs[i]? = some a ∧ (g a).P v h) (hsz : xs.length ≤ sizeLine)
    (hfree : ∀ y, (y, NameKind.free) ∈ scope.names → (env.cells.lookup y).isSome = true) (hkind : scope.kind = .function) (hnames : ∀ y ∈ scope.names, y.2 = .local → scope.names.lookup y.1 = some .local)
    (hx : scope.names.lookup x = some .local ∨ scope.names.lookup x = some .cell)
    (htest : ∀ a ∈ xs, ∀ v C c0 h2, Ext h h2 → (sp a).P v h2 → Has prog w h2 (cEnv scope (capL scope env) C c0 env) x v → ((cEnv scope (capL scope env) C c0 env).kindOf x = some .cell → ∃ c, (cEnv scope (capL scope env) C c0 env).cells.lookup x = some c ∧ h2.IsCell c (some v)) → TsAll prog w k (cEnv scope (capL scope env) C c0 env) h2 ifs (q a))
    (helt : ∀ a ∈ xs, ∀ v C c0 h2, q a = true → Ext h h2 → (sp a).P v h2 → Has prog w h2 (cEnv scope (capL scope env) C c0 env) x v → ((cEnv scope (capL scope env) C c0 env).kindOf x = some .cell → ∃ c, (cEnv scope (capL scope env) C c0 env).cells.lookup x = some c ∧ h2.IsCell c (some v)) → EvP prog w k (cEnv scope (capL scope env) C c0 env) h2 elt (g a).P)
    (hs : ∀ x, foldedSetIterable iter env x = pure x := by intro _; rfl) :
    EvP prog w k env h (.ListComp elt [⟨.Name x px, iter, ifs, 0⟩] scope pos) (LstOf ((xs.filter q).map g)) := fun A s E Q rm hx' hq => by
  show wpAny _ A (comprehension _ scope env _ (newList []) false (eval iter env)) Q E s
  refine comp_rule xs sp q g rm (hi.ext hx') (fun A s xv E Q r e => hit A s xv E Q r (hx'.trans e)) S hsz hfree hkind hnames hx (fun a ha v C c0 h2 e => htest a ha v C c0 h2 (hx'.trans e)) (fun a ha v C c0 h2 hqa e => helt a ha v C c0 h2 hqa (hx'.trans e)) hs ?_
  intro D ys C m h' tk e hD hP hn hC hDC hDn
  refine ⟨m, hn, fun h'' hs'' => hq _ _ _ ?_ ⟨D, ys, rfl, hD.at fun o e => (hs''.2 D hDC).trans e, hP.st (sameBut_pres hn hs'')⟩⟩
  exact fun b o e' => (hs''.2 b fun q => by rw [q, hC] at e'; cases e').trans (e b o e')
/-- as a statement «y = [..]» -/
theorem wp_assign_comp {A : Around} {s : Shared} {E : Value → Shared → Prop} {Q : Flow → Shared → Prop} {h0 : Heap} {ρ : Locs} {y : Str} {py spos : Pos} {rest : List Stmt}
    {elt iter : Expr} {x : Str} {px : Pos} {ifs : List Expr} {scope : Scope} {pos : Pos} {α : Type} (xs : List α) (sp : α → Pr) (q : α → Bool) (g : α → Pr) {PI : Value → Heap → Prop}
    (rm : Room k A) (FM : Fm h0 s.heap env ρ) (hi : EvP prog w k env s.heap iter PI) (hit : Src prog w k s.heap PI (xs.map sp)) (S : Safe fun i => fun v h => ∃ a, xs[i]? = some a ∧ (g a).P v h) (hsz : xs.length ≤ sizeLine)
    (hfree : ∀ y, (y, NameKind.free) ∈ scope.names → (env.cells.lookup y).isSome = true) (hkind : scope.kind = .function) (hnames : ∀ y ∈ scope.names, y.2 = .local → scope.names.lookup y.1 = some .local)
    (hx : scope.names.lookup x = some .local ∨ scope.names.lookup x = some .cell)
    (htest : ∀ a ∈ xs, ∀ v C c0 h2, Ext s.heap h2 → (sp a).P v h2 → Has prog w h2 (cEnv scope (capL scope env) C c0 env) x v → ((cEnv scope (capL scope env) C c0 env).kindOf x = some .cell → ∃ c, (cEnv scope (capL scope env) C c0 env).cells.lookup x = some c ∧ h2.IsCell c (some v)) → TsAll prog w k (cEnv scope (capL scope env) C c0 env) h2 ifs (q a))
    (helt : ∀ a ∈ xs, ∀ v C c0 h2, q a = true → Ext s.heap h2 → (sp a).P v h2 → Has prog w h2 (cEnv scope (capL scope env) C c0 env) x v → ((cEnv scope (capL scope env) C c0 env).kindOf x = some .cell → ∃ c, (cEnv scope (capL scope env) C c0 env).cells.lookup x = some c ∧ h2.IsCell c (some v)) → EvP prog w k (cEnv scope (capL scope env) C c0 env) h2 elt (g a).P)
    (hk : env.kindOf y = some .local ∨ env.kindOf y = some .cell)
    (hsw : ∃ b, swapsWith (.ListComp elt [⟨.Name x px, iter, ifs, 0⟩] scope pos) (some (.Name y py)) spos.line env = pure b)
    (h : ∀ h' tk, Fm h0 h' env ((y, prL ((xs.filter q).map g)) :: ρ) → Pres s.heap h' → Offs env s.heap h' → wpAny (model prog w) A (execs rest env) Q E { s with heap := h', toks := tk })
    (hs : ∀ x, foldedSetIterable iter env x = pure x := by intro _; rfl) :
    wpAny (model prog w) A (execs (.Assign [.Name y py] (.ListComp elt [⟨.Name x px, iter, ifs, 0⟩] scope pos) spos :: rest) env) Q E s := by
  obtain ⟨b, hsw⟩ := hsw
  cases b with
  | false => exact wp_assign (p := prL ((xs.filter q).map g)) rm FM (ev_comp xs sp q g hi hit S hsz hfree hkind hnames hx htest helt hs) hk h hsw
  | true =>
    refine wpAny_execs_cons ?_
    rw [exec_Assign_Name_used _ _ _ _ hsw]
    refine wpAny_bind (wpAny_standAt (wpAny_bind ?_))
    show wpAny _ A (do let _ ← comprehension (.ListComp elt [⟨.Name x px, iter, ifs, 0⟩] scope pos) scope env _ (newList []) false (eval iter env) (some (assign (.Name y py) env))) _ _ s
    refine wpAny_bind (wpAny_mono (comp_rule (use := some (assign (.Name y py) env)) (Q := fun _ s' => wpAny (model prog w) A (execs rest env) Q E s') xs sp q g rm hi hit S hsz hfree hkind hnames hx htest helt hs ?_)
      (fun _ s' hq => wpAny_pure (wpAny_pure hq)) fun _ _ e => e)
    intro D ys C m h' tk e hD hP hn hC hDC hDn
    show wpAny _ A (assign (.Name y py) env (.ref D)) _ _ _
    refine wpAny_assign_Name ?_
    have F1 := FM.ext e
    refine Fm.store (p := prL ((xs.filter q).map g)) F1 hk ⟨D, ys, rfl, hD, hP⟩ fun h2 t2 F2 pr2 off2 => ?_
    have offC : C ≠ env.locals ∧ ∀ z, env.cells.lookup z ≠ some C := by
      constructor
      · obtain ⟨m, ⟨o, _, _, ho, _⟩, _⟩ := FM.ns
        intro q; rw [← q, hC] at ho; cases ho
      · intro z q
        obtain ⟨ov, o, ho, _⟩ := FM.cin z C q
        rw [hC] at ho; cases ho
    have n2 : h2.Ns C m := by
      obtain ⟨o, es, ep, ho, r⟩ := hn
      exact ⟨o, es, ep, off2 C o offC.1 offC.2 ho, r⟩
    refine ⟨m, n2, fun h3 s3 => ?_⟩
    have F3 : Fm h0 h3 env ((y, prL ((xs.filter q).map g)) :: ρ) := by
      have pr3 := sameBut_pres n2 s3
      refine ⟨fun b o e' => (s3.2 b fun q => ?_).trans (F2.base b o e'), F2.kind, ?_, fun z hz => ?_, F2.dom, F2.inj, F2.freshL, fun z c e' => ?_⟩
      · have := FM.base b o e'; rw [q, hC] at this; cases this
      · obtain ⟨m2, hn2, hm2⟩ := F2.ns
        exact ⟨m2, hn2.sameBut s3 (Ne.symm offC.1), fun z p a b => let ⟨v, c, d⟩ := hm2 z p a b; ⟨v, c, p.st _ _ _ pr3 d⟩⟩
      · obtain ⟨c, ov, h1, h2, h3, h4⟩ := F2.cel z hz
        exact ⟨c, ov, h1, h2.sameBut s3 (fun q => offC.2 z (q ▸ h1)), h3, fun p a => let ⟨v, c, d⟩ := h4 p a; ⟨v, c, p.st _ _ _ pr3 d⟩⟩
      · obtain ⟨ov, x⟩ := F2.cin z c e'
        exact ⟨ov, x.sameBut s3 fun q => offC.2 z (q ▸ e')⟩
    refine h h3 t2 F3 (e.pres.trans (pr2.trans (sameBut_pres n2 s3))) fun b o b1 b2 e' => (s3.2 b fun q => ?_).trans (off2 b o b1 b2 (e b o e'))
    rw [q, hC] at e'; cases e'
end
end Mine

end

section
open PySem PySem.W PyProof.Rows PySem.SeqAt
set_option Elab.async false
set_option linter.all false
set_option autoImplicit false
namespace Mine
section
variable {prog : Program} {w : World} {k : Nat} {env : Env} {h : Heap}
theorem ev_addL {l r : Expr} {pos : Pos} {a b : List PyData} (hl : EvD prog w k env h l (.list a)) (hr : EvD prog w k env h r (.list b)) (hsz : a.length + b.length ≤ sizeLine) :
    EvD prog w k env h (.BinOp l .Add r pos) (.list (a ++ b)) := ev_bin hl hr isD_mono fun A s E Q x y _ _ px py hq => by
  obtain ⟨l, vs, rfl, ⟨⟨cls, dd, data, sl⟩, ho, hc, n, hd⟩, hr⟩ := px.inv_list
  obtain ⟨b, ws, rfl, ⟨⟨cls2, dd2, data2, sl2⟩, ho2, hc2, n2, hd2⟩, hr2⟩ := py.inv_list
  simp only at hc hd hc2 hd2
  subst hc hd hc2 hd2
  have e1 : vs.size = a.length := by simpa using hr.length
  have e2 := hr2.length
  simp at e2
  refine concat_meets ⟨_, ho, rfl⟩ ⟨_, ho2, rfl⟩ noFill_list_add seq_list_add PySem.F.slot_list_add PySem.F.entry_list_add (PySem.F.args_list_add_2 _ _) (list_addW l b vs ws n n2 dd dd2 sl sl2 (by omega)) ⟨ho, ho2, ?_⟩
  refine hq _ _ _ (Ext.push _ _) (Rd.list ⟨_, Heap.get?_push_size _ rfl, rfl, _, rfl⟩ ?_)
  rw [Array.toList_append]
  exact (hr.append hr2).ext (Ext.push _ _)
end

abbrev Col := Int × Int × Int
noncomputable def colD (c : Col) : PyData := .list [.int c.1, .int c.2.1, .int c.2.2]
noncomputable def nums (ns : List Int) : List Int := (ns.take 7).map (·.fmod 1458)
noncomputable def pick (S : Int) : Int := ([27, 3, 9] : List Int).getD (S.fmod 3).toNat 0
noncomputable def figs (ns : List Int) : List Int := (nums ns ++ [5, pick (nums ns).sum]).map (· * 205)
noncomputable def colOf (f : Int) : Col := (f.fmod 9, (f.fdiv 9).fmod 9, (f.fdiv 81).fmod 9)
noncomputable def cols0 (ns : List Int) : List Col := (figs ns).map colOf
noncomputable def ptOf (c : Col) : Int × Int := (ptX c.1 c.2.1 c.2.2, ptY c.1 c.2.1 c.2.2)
noncomputable def lft (a b : Int × Int) : Int := a.1 * b.2 - a.2 * b.1
noncomputable def heldOf (ns : List Int) : Int × Int := ptOf ((cols0 ns).getD ((((nums ns).sum.fdiv 2).fmod (cols0 ns).length).toNat) (0, 0, 0))
noncomputable def flip8 (c : Col) : Col := (8 - c.1, 8 - c.2.1, 8 - c.2.2)
noncomputable def turn (hd : Int × Int) (c : Col) : Col := if lft hd (ptOf c) < 0 then flip8 c else c
noncomputable def pal (ns : List Int) : List Col := if (nums ns).sum.fmod 2 = 1 then cols0 ns else (cols0 ns).map (turn (heldOf ns))

noncomputable def InCol (c : Col) : Prop := (0 ≤ c.1 ∧ c.1 ≤ 8) ∧ (0 ≤ c.2.1 ∧ c.2.1 ≤ 8) ∧ (0 ≤ c.2.2 ∧ c.2.2 ≤ 8)
theorem fmod_bd (a : Int) {b : Int} (hb : 0 < b) : 0 ≤ a.fmod b ∧ a.fmod b < b := ⟨Int.fmod_nonneg_of_pos a hb, Int.fmod_lt_of_pos a hb⟩
theorem inCol_colOf (f : Int) : InCol (colOf f) := by
  have a := fmod_bd f (b := 9) (by decide)
  have b := fmod_bd (f.fdiv 9) (b := 9) (by decide)
  have c := fmod_bd (f.fdiv 81) (b := 9) (by decide)
  exact ⟨⟨a.1, by show f.fmod 9 ≤ 8; omega⟩, ⟨b.1, by show (f.fdiv 9).fmod 9 ≤ 8; omega⟩, ⟨c.1, by show (f.fdiv 81).fmod 9 ≤ 8; omega⟩⟩
theorem inCol_flip {c : Col} (x : InCol c) : InCol (flip8 c) := by
  obtain ⟨⟨a, b⟩, ⟨c, d⟩, e, f⟩ := x
  refine ⟨⟨?_, ?_⟩, ⟨?_, ?_⟩, ?_, ?_⟩ <;> (simp only [flip8]; omega)
theorem inCol_cols0 {ns : List Int} {c : Col} (h : c ∈ cols0 ns) : InCol c := by
  obtain ⟨f, _, rfl⟩ := List.mem_map.mp h; exact inCol_colOf f
theorem inCol_turn {hd : Int × Int} {c : Col} (x : InCol c) : InCol (turn hd c) := by
  unfold turn; split
  · exact inCol_flip x
  · exact x
theorem inCol_pal {ns : List Int} {c : Col} (h : c ∈ pal ns) : InCol c := by
  unfold pal at h
  split at h
  · exact inCol_cols0 h
  · obtain ⟨d, hd, rfl⟩ := List.mem_map.mp h; exact inCol_turn (inCol_cols0 hd)
theorem nums_bd {ns : List Int} {n : Int} (h : n ∈ nums ns) : 0 ≤ n ∧ n < 1458 := by
  obtain ⟨m, _, rfl⟩ := List.mem_map.mp h; exact fmod_bd m (by decide)
theorem nums_len (ns : List Int) : (nums ns).length ≤ 7 := by simp [nums]; omega
theorem figs_len (ns : List Int) : (figs ns).length ≤ 9 ∧ 2 ≤ (figs ns).length := by have := nums_len ns; simp [figs]; omega
theorem cols0_len (ns : List Int) : (cols0 ns).length ≤ 9 ∧ 2 ≤ (cols0 ns).length := by have := figs_len ns; simpa [cols0] using this
theorem pal_len (ns : List Int) : (pal ns).length ≤ 9 ∧ 2 ≤ (pal ns).length := by
  have := cols0_len ns; unfold pal; split <;> simpa using this

theorem bd_all : ∀ r g b : Fin 9, decide ((-13440 ≤ (ptOf ((r.val : Int), (g.val : Int), (b.val : Int))).1 ∧ (ptOf ((r.val : Int), (g.val : Int), (b.val : Int))).1 ≤ 13440) ∧ -6720 ≤ (ptOf ((r.val : Int), (g.val : Int), (b.val : Int))).2 ∧ (ptOf ((r.val : Int), (g.val : Int), (b.val : Int))).2 ≤ 6720) = true := by decide +kernel
theorem nat9 {a : Int} (h0 : 0 ≤ a) (h8 : a ≤ 8) : a.toNat < 9 := by omega
theorem pt_bd {c : Col} (x : InCol c) : (-13440 ≤ (ptOf c).1 ∧ (ptOf c).1 ≤ 13440) ∧ -6720 ≤ (ptOf c).2 ∧ (ptOf c).2 ≤ 6720 := by
  obtain ⟨r, g, b⟩ := c
  obtain ⟨⟨a1, a2⟩, ⟨b1, b2⟩, c1, c2⟩ := x
  have q := of_decide_eq_true (bd_all ⟨r.toNat, nat9 a1 a2⟩ ⟨g.toNat, nat9 b1 b2⟩ ⟨b.toNat, nat9 c1 c2⟩)
  dsimp only at q a1 b1 c1
  rw [Int.toNat_of_nonneg a1, Int.toNat_of_nonneg b1, Int.toNat_of_nonneg c1] at q
  exact q

/-- lists of three ints in a list that is being filled -/
theorem safeCol {α : Type} {xs : List α} {f : α → Col} : Safe fun i => fun v h => ∃ a, xs[i]? = some a ∧ (prD (colD (f a))).P v h := by
  intro h h' D ys j v hD hy hk ⟨a, ha, x⟩
  refine ⟨a, ha, ?_⟩
  obtain ⟨l, vs, rfl, ⟨o, q1, q2, n, q3⟩, hr⟩ := Rd.inv_list x
  have hne : l ≠ D := by
    rintro rfl
    obtain ⟨m, hD⟩ := hD
    rw [hD] at q1; cases q1
    cases q3
    obtain ⟨u, us, e, hu, _⟩ := hr.inv_cons
    obtain ⟨t, rfl⟩ := hu.inv_int
    obtain ⟨i, b, _, z⟩ := hy (.int (f a).1 t) (by rw [e]; exact List.mem_cons_self)
    obtain ⟨_, _, e', _⟩ := Rd.inv_list z
    cases e'
  refine Rd.list ⟨o, hk _ _ hne (by simp [keptObj, q3]) q1, q2, n, q3⟩ ?_
  obtain ⟨u1, us, e, h1, hr⟩ := hr.inv_cons
  obtain ⟨u2, us2, rfl, h2, hr⟩ := hr.inv_cons
  obtain ⟨u3, us3, rfl, h3, hr⟩ := hr.inv_cons
  rw [hr.inv_nil] at e
  rw [e]
  obtain ⟨_, rfl⟩ := h1.inv_int; obtain ⟨_, rfl⟩ := h2.inv_int; obtain ⟨_, rfl⟩ := h3.inv_int
  exact RdAll.cons Rd.int (RdAll.cons Rd.int (RdAll.cons Rd.int RdAll.nil))
theorem safeX {α : Type} {xs : List α} {g : α → PyData} (hg : ∀ a, noList (g a) = true) : Safe fun i => fun v h => ∃ a, xs[i]? = some a ∧ (prD (g a)).P v h :=
  fun h h' D ys j v hD _ hk ⟨a, ha, x⟩ => ⟨a, ha, safeD (hg a) h h' D ys v hD hk x⟩

theorem nofree {scope : Scope} {env : Env} (h : scope.names.all (fun p => p.2 != .free) = true) : ∀ y, (y, NameKind.free) ∈ scope.names → (env.cells.lookup y).isSome = true := fun y hy => by
  have := List.all_eq_true.mp h _ hy
  simp at this
theorem frees {scope : Scope} {env : Env} (ys : List Str) (h : scope.names.all (fun p => p.2 != .free || ys.contains p.1) = true) (hy : ∀ y ∈ ys, (env.cells.lookup y).isSome = true) :
    ∀ y, (y, NameKind.free) ∈ scope.names → (env.cells.lookup y).isSome = true := fun y hm => by
  have := List.all_eq_true.mp h _ hm
  simp at this
  exact hy y this
theorem src_listX {prog : Program} {w : World} {k : Nat} {h : Heap} {α : Type} {xs : List α} {f : α → PyData} : Src prog w k h (IsD (.list (xs.map f))) (xs.map fun a => prD (f a)) := by
  have := src_list (prog := prog) (w := w) (k := k) (h := h) (ds := xs.map f)
  rw [List.map_map] at this; exact this
theorem prL_rd {α : Type} {xs : List α} {f : α → PyData} {v : Value} {h : Heap} (x : (prL (xs.map fun a => prD (f a))).P v h) : Rd h v (.list (xs.map f)) := by
  refine LstOf.rd ?_
  rw [List.map_map]; exact x
theorem ev_varL {prog : Program} {w : World} {k : Nat} {h h0 : Heap} {env : Env} {ρ : Locs} {x : Str} {pos : Pos} {α : Type} {xs : List α} {f : α → PyData} (F : Fm h0 h env ρ) (hx : ρ.lookup x = some (prL (xs.map fun a => prD (f a))))
    (hd : (x == ("__debug__" : Str)) = false := by decide) : EvD prog w k env h (.Name x pos) (.list (xs.map f)) := (ev_var F hx hd).mono fun v h' _ y => prL_rd y
theorem ev_uptoX {prog : Program} {w : World} {k : Nat} {h : Heap} {env : Env} {α : Type} {xs : List α} {f : α → PyData} {v e : Expr} {p pos : Pos} {b : Nat} (hv : EvD prog w k env h v (.list (xs.map f))) (he : EvD prog w k env h e (.int b)) (hsz : xs.length ≤ sizeLine)
    (ht : ∀ o r, letTemporaryGo v o r = pure () := by intro _ _; rfl) : EvD prog w k env h (.Subscript v (.Slice none (some e) none p) pos) (.list ((xs.take b).map f)) := by
  rw [List.map_take]; exact ev_upto hv he (by simpa using hsz) ht
theorem eva_pall {prog : Program} {w : World} {k : Nat} {h : Heap} {env : Env} {es : List Expr} {ds : List PyData} (x : EvAD prog w k env h es ds) : EvA prog w k env h es (PAll (ds.map prD)) :=
  fun pos A s E Q rm hx hq => x pos A s E Q rm hx fun vs h' tk e p => hq vs h' tk e (PAll.of_rd p)
theorem FnP.le {prog : Program} {w : World} {k j : Nat} {h : Heap} {f PA P} (x : FnP prog w j h f PA P) (y : j ≤ k) : FnP prog w k h f PA P := fun A s vs E Q r => x A s vs E Q (r.le y)
theorem mulOk_right {a b : Int} (h : b.natAbs < 2 ^ 60) : IntMulOk a b := .of_right (by
  unfold Builtin.Int.intBits
  split
  · omega
  · have : b.natAbs.log2 < 60 := (Nat.log2_lt (by simp_all)).mpr h
    omega)
theorem ev_itemI {prog : Program} {w : World} {k : Nat} {h : Heap} {env : Env} {v : Value} {d : PyData} {x : Str} {pos : Pos} (hv : Has prog w h env x v) (p : Rd h v d) (hd : (x == ("__debug__" : Str)) = false := by decide) : EvD prog w k env h (.Name x pos) d :=
  ev_name (P := IsD d) hv (fun h' e => Rd.ext p e) hd

theorem filter_true {α : Type} (xs : List α) : xs.filter (fun _ => true) = xs := by simp
section
variable {prog : Program} {w : World} {k : Nat} {env : Env} {h : Heap}
theorem ev_map {elt iter : Expr} {x : Str} {px : Pos} {scope : Scope} {pos : Pos} {α : Type} (xs : List α) (sp : α → Pr) (g : α → Pr) {PI : Value → Heap → Prop}
    (hi : EvP prog w k env h iter PI) (hit : Src prog w k h PI (xs.map sp)) (S : Safe fun i => fun v h => ∃ a, xs[i]? = some a ∧ (g a).P v h) (hsz : xs.length ≤ sizeLine)
    (hfree : ∀ y, (y, NameKind.free) ∈ scope.names → (env.cells.lookup y).isSome = true) (hkind : scope.kind = .function) (hnames : ∀ y ∈ scope.names, y.2 = .local → scope.names.lookup y.1 = some .local)
    (hx : scope.names.lookup x = some .local ∨ scope.names.lookup x = some .cell)
    (helt : ∀ a ∈ xs, ∀ v C c0 h2, Ext h h2 → (sp a).P v h2 → Has prog w h2 (cEnv scope (capL scope env) C c0 env) x v → ((cEnv scope (capL scope env) C c0 env).kindOf x = some .cell → ∃ c, (cEnv scope (capL scope env) C c0 env).cells.lookup x = some c ∧ h2.IsCell c (some v)) → EvP prog w k (cEnv scope (capL scope env) C c0 env) h2 elt (g a).P)
    (hs : ∀ x, foldedSetIterable iter env x = pure x := by intro _; rfl) :
    EvP prog w k env h (.ListComp elt [⟨.Name x px, iter, [], 0⟩] scope pos) (LstOf (xs.map g)) := by
  have := ev_comp (prog := prog) (w := w) (k := k) (elt := elt) (iter := iter) (x := x) (px := px) (ifs := []) (pos := pos) xs sp (fun _ => true) g hi hit S hsz hfree hkind hnames hx (fun a _ v C c0 h2 e p hv hcv => ts_none) (fun a ha v C c0 h2 _ e p hv hcv => helt a ha v C c0 h2 e p hv hcv) hs
  rwa [filter_true] at this
theorem ev_mapD {elt iter : Expr} {x : Str} {px : Pos} {scope : Scope} {pos : Pos} {α : Type} (xs : List α) (sp : α → Pr) (f : α → PyData) {PI : Value → Heap → Prop}
    (hi : EvP prog w k env h iter PI) (hit : Src prog w k h PI (xs.map sp)) (S : Safe fun i => fun v h => ∃ a, xs[i]? = some a ∧ (prD (f a)).P v h) (hsz : xs.length ≤ sizeLine)
    (hfree : ∀ y, (y, NameKind.free) ∈ scope.names → (env.cells.lookup y).isSome = true) (hkind : scope.kind = .function) (hnames : ∀ y ∈ scope.names, y.2 = .local → scope.names.lookup y.1 = some .local)
    (hx : scope.names.lookup x = some .local ∨ scope.names.lookup x = some .cell)
    (helt : ∀ a ∈ xs, ∀ v C c0 h2, Ext h h2 → (sp a).P v h2 → Has prog w h2 (cEnv scope (capL scope env) C c0 env) x v → ((cEnv scope (capL scope env) C c0 env).kindOf x = some .cell → ∃ c, (cEnv scope (capL scope env) C c0 env).cells.lookup x = some c ∧ h2.IsCell c (some v)) → EvD prog w k (cEnv scope (capL scope env) C c0 env) h2 elt (f a))
    (hs : ∀ x, foldedSetIterable iter env x = pure x := by intro _; rfl) :
    EvD prog w k env h (.ListComp elt [⟨.Name x px, iter, [], 0⟩] scope pos) (.list (xs.map f)) :=
  (ev_map xs sp (fun a => prD (f a)) hi hit S hsz hfree hkind hnames hx helt hs).mono fun v h' _ y => prL_rd y
theorem ev_filD {elt iter c : Expr} {x : Str} {px : Pos} {scope : Scope} {pos : Pos} {α : Type} (xs : List α) (sp : α → Pr) (q : α → Bool) (f : α → PyData) {PI : Value → Heap → Prop}
    (hi : EvP prog w k env h iter PI) (hit : Src prog w k h PI (xs.map sp)) (S : Safe fun i => fun v h => ∃ a, xs[i]? = some a ∧ (prD (f a)).P v h) (hsz : xs.length ≤ sizeLine)
    (hfree : ∀ y, (y, NameKind.free) ∈ scope.names → (env.cells.lookup y).isSome = true) (hkind : scope.kind = .function) (hnames : ∀ y ∈ scope.names, y.2 = .local → scope.names.lookup y.1 = some .local)
    (hx : scope.names.lookup x = some .local ∨ scope.names.lookup x = some .cell)
    (htest : ∀ a ∈ xs, ∀ v C c0 h2, Ext h h2 → (sp a).P v h2 → Has prog w h2 (cEnv scope (capL scope env) C c0 env) x v → ((cEnv scope (capL scope env) C c0 env).kindOf x = some .cell → ∃ c, (cEnv scope (capL scope env) C c0 env).cells.lookup x = some c ∧ h2.IsCell c (some v)) → Ts prog w k (cEnv scope (capL scope env) C c0 env) h2 c (q a))
    (helt : ∀ a ∈ xs, ∀ v C c0 h2, q a = true → Ext h h2 → (sp a).P v h2 → Has prog w h2 (cEnv scope (capL scope env) C c0 env) x v → ((cEnv scope (capL scope env) C c0 env).kindOf x = some .cell → ∃ c, (cEnv scope (capL scope env) C c0 env).cells.lookup x = some c ∧ h2.IsCell c (some v)) → EvD prog w k (cEnv scope (capL scope env) C c0 env) h2 elt (f a))
    (hs : ∀ x, foldedSetIterable iter env x = pure x := by intro _; rfl) :
    EvD prog w k env h (.ListComp elt [⟨.Name x px, iter, [c], 0⟩] scope pos) (.list ((xs.filter q).map f)) :=
  (ev_comp xs sp q (fun a => prD (f a)) hi hit S hsz hfree hkind hnames hx (fun a ha v C c0 h2 e p hv hcv => ts_one (htest a ha v C c0 h2 e p hv hcv)) helt hs).mono fun v h' _ y => prL_rd y
end

section
variable {w : World} {h : Heap} {G : List (Str × Value)}
set_option maxRecDepth 4000 in
theorem colours_ok {a ap al : Addr} (X : FnAt h a "_law_colours" (defParams coloursD) (defBody coloursD) (defScope coloursD)) (g : Glo G h)
    (XP : FnAt h ap "_law_point" (defParams pointD') (defBody pointD') (defScope pointD')) (XL : FnAt h al "_law_left" (defParams leftD) (defBody leftD) (defScope leftD))
    (gp : G.lookup (Str.ofString "_law_point") = some (.ref ap)) (gl : G.lookup (Str.ofString "_law_left") = some (.ref al)) (ns : List Int) (hn : ns.length ≤ 63) :
    FnP pw w 3 h (.ref a) (PAll [prD (.list (ns.map .int))]) (IsD (.list ((pal ns).map colD))) := by
  refine fn_own (k := 2) (xs := ["script"]) X g.lim rfl (fun fd vs e e1 e2 hl => ?_) (by decide) (by decide) rfl rfl rfl fun env h0 hx hs hg hb => ?_
  · obtain ⟨_, _, _, _, _, _, _, _, _, _, _, _, _, _, _⟩ := fd
    dsimp only at e e1 e2; subst e e1 e2
    match vs, hl with
    | [v1], _ => rfl
  have kd : ∀ x, env.kindOf x = (defScope coloursD).names.lookup x := fun x => by rw [Env.kindOf, hs]
  have bk : env.blockKind = .function := by unfold Env.blockKind; rw [hs]; rfl
  have g' := g.ext hx
  intro A s E Q rm F hq
  -- numbers
  refine wp_assign_comp (xs := ns.take 7) (sp := fun n => prD (.int n)) (q := fun _ => true) (g := fun n => prD (.int (n.fmod 1458))) rm F
    (ev_uptoX (b := 7) (ev_varD (d := .list (ns.map .int)) F rfl) ev_int (by simp [sizeLine]; omega))
    src_listX (safeX fun _ => rfl) (by simp [sizeLine]; omega) (nofree rfl) rfl (by decide) (.inl rfl) (fun a _ v C c0 h2 e p hv hcv => ts_none) (fun a _ v C c0 h2 _ e p hv hcv => ?_) (.inl (kd _)) ⟨_, rfl⟩ fun h1 t1 F1 _ _ => ?_
  · exact ev_mod (ev_itemI hv p) ev_int (by decide)
  rw [filter_true] at F1
  have vn : ∀ (h : Heap) (ρ : Locs) (p : Pos), Fm h0 h env ρ → ρ.lookup (Str.ofString "numbers") = some (prL ((ns.take 7).map fun n => prD (.int (n.fmod 1458)))) → EvD pw w 2 env h (.Name "numbers" p) (.list ((nums ns).map .int)) := fun h ρ p F e => by
    have := ev_varL (prog := pw) (w := w) (k := 2) (x := "numbers") (xs := ns.take 7) (f := fun n => .int (n.fmod 1458)) (pos := p) F e
    rw [nums, List.map_map]; exact this
  have vs : ∀ (h : Heap) (ρ : Locs) (p1 p2 p3 : Pos), Fm h0 h env ρ → ρ.lookup (Str.ofString "numbers") = some (prL ((ns.take 7).map fun n => prD (.int (n.fmod 1458)))) →
      EvD pw w 2 env h (.Call (.Name "sum" p1) [.Name "numbers" p2] [] p3) (.int (nums ns).sum) := fun h ρ p1 p2 p3 F e =>
    ev_call_builtin (has_b (g'.ext F.base) (by decide) boot_sum F.kind (kd _) hg hb) (eva_cons (vn h ρ p2 F e) eva_nil) fn_sum
  have b3 := fmod_bd (nums ns).sum (b := 3) (by decide)
  -- figures
  refine wp_assign_comp (xs := nums ns ++ [5, pick (nums ns).sum]) (sp := fun n => prD (.int n)) (q := fun _ => true) (g := fun n => prD (.int (n * 205))) rm F1 (PI := IsD (.list ((nums ns ++ [5, pick (nums ns).sum]).map .int)))
    ?_ src_listX (safeX fun _ => rfl) (by have := nums_len ns; simp [sizeLine]; omega) (nofree rfl) rfl (by decide) (.inl rfl) (fun a _ v C c0 h2 e p hv hcv => ts_none) (fun a _ v C c0 h2 _ e p hv hcv => ?_) (.inl (kd _)) ⟨_, rfl⟩ fun h2 t2 F2 _ _ => ?_
  · rw [List.map_append]
    refine ev_addL (vn _ _ _ F1 rfl) (ev_list (eva_cons ev_int (eva_cons (ev_item (ds := [.int 27, .int 3, .int 9]) (ev_list (eva_cons ev_int (eva_cons ev_int (eva_cons ev_int eva_nil)))) (ev_mod (vs _ _ _ _ _ F1 rfl) ev_int (by decide)) b3.1 (by omega) ?_) eva_nil))) ?_
    · have : (nums ns).sum.fmod 3 = 0 ∨ (nums ns).sum.fmod 3 = 1 ∨ (nums ns).sum.fmod 3 = 2 := by omega
      rcases this with e | e | e <;> (rw [pick, e]; rfl)
    · have := nums_len ns; simp [sizeLine]; omega
  · exact ev_mul (ev_itemI hv p) ev_int (mulOk_right (by decide))
  rw [filter_true] at F2
  have efig : (nums ns ++ [5, pick (nums ns).sum]).map (fun n => prD (.int (n * 205))) = (figs ns).map fun n => prD (.int n) := by rw [figs, List.map_map]; rfl
  rw [efig] at F2
  -- colours
  refine wp_assign_comp (xs := figs ns) (sp := fun n => prD (.int n)) (q := fun _ => true) (g := fun n => prD (colD (colOf n))) rm F2 (PI := IsD (.list ((figs ns).map .int)))
    (ev_varL F2 rfl) src_listX safeCol (by have := figs_len ns; simp [sizeLine]; omega) (nofree rfl) rfl (by decide) (.inl rfl) (fun a _ v C c0 h2 e p hv hcv => ts_none) (fun a _ v C c0 h2 _ e p hv hcv => ?_) (.inl (kd _)) ⟨_, rfl⟩ fun h3 t3 F3 _ _ => ?_
  · have np : ∀ x y : Int, y.natAbs < 1073741824 → Builtin.divisionGoesByPylong x y = false := fun x y => PyProof.noPylong_small
    exact ev_list (eva_cons (ev_mod (ev_itemI hv p) ev_int (by decide)) (eva_cons (ev_mod (ev_fdiv (ev_itemI hv p) ev_int (by decide) (np _ _ (by decide))) ev_int (by decide))
      (eva_cons (ev_mod (ev_fdiv (ev_itemI hv p) ev_int (by decide) (np _ _ (by decide))) ev_int (by decide)) eva_nil)))
  rw [filter_true] at F3
  have ecol : (figs ns).map (fun n => prD (colD (colOf n))) = (cols0 ns).map fun c => prD (colD c) := by rw [cols0, List.map_map]; rfl
  rw [ecol] at F3
  have vc : ∀ (h : Heap) (ρ : Locs) (p : Pos), Fm h0 h env ρ → ρ.lookup (Str.ofString "colours") = some (prL ((cols0 ns).map fun c => prD (colD c))) → EvD pw w 2 env h (.Name "colours" p) (.list ((cols0 ns).map colD)) := fun h ρ p F e =>
    ev_varL (prog := pw) (w := w) (k := 2) (x := "colours") (xs := cols0 ns) (f := colD) (pos := p) F e
  -- the parting
  refine wp_if (b := decide ((nums ns).sum.fmod 2 = 1)) rm (ts_cmp (ev_mod (vs _ _ _ _ _ F3 rfl) ev_int (by decide)) ev_int isD_mono cmp_eqI) (fun e h4 t4 x4 => ?_) (fun e h4 t4 x4 => wp_nil ?_)
  · have F4 := F3.ext x4
    have e := of_decide_eq_true e
    refine wp_ret rm (vc _ _ _ F4 rfl) fun v h5 t5 x5 p => hq v h5 t5 (F4.base.trans x5) ?_
    rw [pal, if_pos e]; exact p
  have F4 := F3.ext x4
  have e := of_decide_eq_false e
  have hlen := cols0_len ns
  have bm := fmod_bd ((nums ns).sum.fdiv 2) (b := ((cols0 ns).length : Int)) (by omega)
  have hge : (((nums ns).sum.fdiv 2).fmod ((cols0 ns).length : Int)).toNat < (cols0 ns).length := by omega
  -- held
  refine wp_assign (p := prD (pt (heldOf ns).1 (heldOf ns).2)) rm F4 ?_ (.inr (kd _)) fun h5 t5 F5 _ _ => ?_
  · have hc : (cols0 ns)[(((nums ns).sum.fdiv 2).fmod ((cols0 ns).length : Int)).toNat]? = some ((cols0 ns).getD ((((nums ns).sum.fdiv 2).fmod (cols0 ns).length).toNat) (0, 0, 0)) := by
      rw [List.getD_eq_getElem?_getD]; simp [hge]
    have hin := inCol_cols0 (List.mem_of_getElem? hc)
    refine ev_call_own (has_g (g'.ext F4.base) gp F4.kind (kd _) hg) (XP.ext (hx.trans F4.base)).fn.choose_spec.choose_spec.1 (XP.ext (hx.trans F4.base)).fn.choose_spec.choose_spec.2.1
      (eva_pall (eva_cons (ev_item (vc _ _ _ F4 rfl) (ev_mod (ev_fdiv (vs _ _ _ _ _ F4 rfl) ev_int (by decide) (PyProof.noPylong_small (by decide))) (ev_call_builtin (has_b (g'.ext F4.base) (by decide) boot_len F4.kind (kd _) hg hb) (eva_cons (vc _ _ _ F4 rfl) eva_nil) (fn_len (by simp; omega))) ?_) ?_ ?_ ?_) eva_nil))
      ((point_ok (XP.ext (hx.trans F4.base)) (g'.ext F4.base) hin.1 hin.2.1 hin.2.2).le (by decide))
    · rw [List.length_map]; omega
    · rw [List.length_map]; exact bm.1
    · rw [List.length_map]; omega
    · simp only [List.length_map, List.getElem?_map, hc, Option.map_some]; rfl
  -- the answer
  have hcell := F5.cel "held" (kd _)
  obtain ⟨c, ov, hc1, hc2, _, hc4⟩ := hcell
  obtain ⟨vh, rfl, hvh⟩ := hc4 _ rfl
  refine wp_ret rm (P := LstOf ((cols0 ns).map fun c => prD (colD (turn (heldOf ns) c)))) ?_ fun v h6 t6 x6 p => hq v h6 t6 (F5.base.trans x6) ?_
  · have pb : ∀ c ∈ cols0 ns, InCol c := fun c hc => inCol_cols0 hc
    have hh : (heldOf ns).1.natAbs < 2 ^ 60 ∧ (heldOf ns).2.natAbs < 2 ^ 60 := by
      have hm : (cols0 ns).getD ((((nums ns).sum.fdiv 2).fmod (cols0 ns).length).toNat) (0, 0, 0) ∈ cols0 ns := by
        rw [List.getD_eq_getElem?_getD, List.getElem?_eq_getElem hge]; exact List.getElem_mem hge
      have := pt_bd (pb _ hm)
      simp only [heldOf]; omega
    refine ev_map (xs := cols0 ns) (sp := fun c => prD (colD c)) (g := fun c => prD (colD (turn (heldOf ns) c))) (vc _ _ _ F5 rfl) src_listX safeCol
      (by have := cols0_len ns; simp [sizeLine]; omega) (frees ["held"] rfl (fun y hy => by rw [List.mem_singleton.mp hy, hc1]; rfl)) rfl (by decide) (.inl rfl) (fun a ha v C c0 h2 e p hv hcv => ?_)
    · have hb5 : Ext h h2 := (hx.trans F5.base).trans e
      have gg := g.ext hb5
      have vcol := fun p' => ev_itemI (prog := pw) (w := w) (k := 2) (x := "colour") (pos := p') hv p
      have hin := pb a ha
      refine ev_ifexp (b := decide (lft (heldOf ns) (ptOf a) < 0)) (ts_cmp (ev_call_own (has_gC gg gl rfl rfl hg) (XL.ext hb5).fn.choose_spec.choose_spec.1 (XL.ext hb5).fn.choose_spec.choose_spec.2.1
        (eva_pall (eva_cons (ev_itemI (has_cap rfl rfl rfl hc1 (hc2.keeps e)) (Rd.ext hvh e)) (eva_cons (ev_call_own (has_gC gg gp rfl rfl hg) (XP.ext hb5).fn.choose_spec.choose_spec.1 (XP.ext hb5).fn.choose_spec.choose_spec.2.1 (eva_pall (eva_cons (vcol _) eva_nil))
          ((point_ok (XP.ext hb5) gg hin.1 hin.2.1 hin.2.2).le (by decide))) eva_nil))) ((left_ok (XL.ext hb5) gg.lim hh.1 hh.2).le (by decide))) ev_int isD_mono cmp_ltI) (fun e => ?_) (fun e => ?_)
      · have e := of_decide_eq_true e
        rw [turn, if_pos e]
        exact ev_mapD (xs := [a.1, a.2.1, a.2.2]) (sp := fun c => prD (.int c)) (f := fun c => .int (8 - c)) (vcol _) (src_listX (xs := [a.1, a.2.1, a.2.2]) (f := .int)) (safeX fun _ => rfl)
          (by simp [sizeLine]) (nofree rfl) rfl (by decide) (.inl rfl) (fun b hb v C c0 h3 e p hv hcv => ev_sub ev_int (ev_itemI hv p))
      · have e := of_decide_eq_false e
        rw [turn, if_neg e]
        exact vcol _
  · rw [pal, if_neg e, List.map_map]
    exact prL_rd p
end
end Mine

end

section
open PySem PySem.W PyProof.Rows PySem.SeqAt
set_option Elab.async false
set_option linter.all false
set_option autoImplicit false
namespace Mine
/-- the function on the bits -/
noncomputable def gtF (a b : UInt64) : Bool := Float64.cmp a b == some Ordering.gt
noncomputable def ltF (a b : UInt64) : Bool := Float64.cmp a b == some Ordering.lt
noncomputable def eqF (a b : UInt64) : Bool := Float64.cmp a b == some Ordering.eq
noncomputable def max3F (a b c : UInt64) : UInt64 := if gtF b a then (if gtF c b then c else b) else (if gtF c a then c else a)
noncomputable def min3F (a b c : UInt64) : UInt64 := if ltF b a then (if ltF c b then c else b) else (if ltF c a then c else a)
noncomputable def f2 : UInt64 := 4611686018427387904
noncomputable def f4 : UInt64 := 4616189618054758400
noncomputable def f6 : UInt64 := 4618441417868443648
noncomputable def f1 : UInt64 := 4607182418800017408
noncomputable def fh : UInt64 := 4602678819172646912
noncomputable def rngF (r g b : UInt64) : UInt64 := Float64.sub (max3F r g b) (min3F r g b)
noncomputable def cF (r g b x : UInt64) : UInt64 := Float64.div (Float64.sub (max3F r g b) x) (rngF r g b)
noncomputable def h0F (r g b : UInt64) : UInt64 :=
  if eqF r (max3F r g b) then Float64.sub (cF r g b b) (cF r g b g)
  else if eqF g (max3F r g b) then Float64.sub (Float64.add f2 (cF r g b r)) (cF r g b b)
  else Float64.sub (Float64.add f4 (cF r g b g)) (cF r g b r)
noncomputable def hF (r g b : UInt64) : UInt64 := (Float64.divmod (Float64.div (h0F r g b) f6) f1).snd
noncomputable def sF (r g b : UInt64) : UInt64 := Float64.div (rngF r g b) (max3F r g b)
noncomputable def e8 (n : Nat) : UInt64 := Float64.ofFrac false n 8
noncomputable def isGreyF (r g b : UInt64) : Bool := eqF (min3F r g b) (max3F r g b)
/-- where the hue lies, in 5040ths -/
noncomputable def placeF (r g b : UInt64) : Option Int := match Float64.decode (Float64.add (Float64.mul (hF r g b) (Float64.ofInt 5040)) fh) with
  | .fin sg m e => some (Float64.truncOf sg m e)
  | _ => none

noncomputable def okPair (a b : Nat) : Bool := (gtF (e8 a) (e8 b) == decide (b < a)) && (ltF (e8 a) (e8 b) == decide (a < b)) && (eqF (e8 a) (e8 b) == decide (a = b)) && (decide (a < b) || Float64.sub (e8 a) (e8 b) == e8 (a - b)) &&
  (decide (a = 0) || decide (b = 0) || (Float64.cmpInt (Float64.div (e8 a) (e8 b)) 0 == some Ordering.gt)) && (Float64.isZero (e8 a) == decide (a = 0))
theorem okPair_all : ∀ a b : Fin 9, okPair a b = true := by decide +kernel
theorem okPair_of {a b : Nat} (ha : a ≤ 8) (hb : b ≤ 8) : okPair a b = true := okPair_all ⟨a, by omega⟩ ⟨b, by omega⟩
theorem e8_gt {a b : Nat} (ha : a ≤ 8) (hb : b ≤ 8) : gtF (e8 a) (e8 b) = decide (b < a) := by
  have := okPair_of ha hb; simp only [okPair, Bool.and_eq_true, beq_iff_eq] at this; exact this.1.1.1.1.1
theorem e8_lt {a b : Nat} (ha : a ≤ 8) (hb : b ≤ 8) : ltF (e8 a) (e8 b) = decide (a < b) := by
  have := okPair_of ha hb; simp only [okPair, Bool.and_eq_true, beq_iff_eq] at this; exact this.1.1.1.1.2
theorem e8_eq {a b : Nat} (ha : a ≤ 8) (hb : b ≤ 8) : eqF (e8 a) (e8 b) = decide (a = b) := by
  have := okPair_of ha hb; simp only [okPair, Bool.and_eq_true, beq_iff_eq] at this; exact this.1.1.1.2
theorem e8_sub {a b : Nat} (ha : a ≤ 8) (hb : b ≤ a) : Float64.sub (e8 a) (e8 b) = e8 (a - b) := by
  have := okPair_of ha (Nat.le_trans hb ha); simp only [okPair, Bool.and_eq_true, beq_iff_eq, Bool.or_eq_true, decide_eq_true_eq] at this
  exact this.1.1.2.resolve_left (by omega)
theorem e8_pos {a b : Nat} (ha : a ≤ 8) (hb : b ≤ 8) (ha0 : a ≠ 0) (hb0 : b ≠ 0) : Float64.cmpInt (Float64.div (e8 a) (e8 b)) 0 = some Ordering.gt := by
  have := okPair_of ha hb; simp only [okPair, Bool.and_eq_true, beq_iff_eq, Bool.or_eq_true, decide_eq_true_eq] at this
  rcases this.1.2 with (q | q) | q
  · exact absurd q ha0
  · exact absurd q hb0
  · exact q
theorem e8_zero {a : Nat} (ha : a ≤ 8) : Float64.isZero (e8 a) = decide (a = 0) := by
  have := okPair_of ha (Nat.le_refl 8); simp only [okPair, Bool.and_eq_true, beq_iff_eq] at this; exact this.2

noncomputable def qF (n d : Nat) : UInt64 := Float64.div (e8 n) (e8 d)
noncomputable def secF (sec n1 n2 d : Nat) : UInt64 :=
  if sec = 0 then Float64.sub (qF n2 d) (qF n1 d) else if sec = 1 then Float64.sub (Float64.add f2 (qF n1 d)) (qF n2 d) else Float64.sub (Float64.add f4 (qF n1 d)) (qF n2 d)
noncomputable def plcS (sec : Nat) (n1 n2 d : Int) : Int :=
  if sec = 0 then plc (((n1 + n2) * 840).fdiv d) (((n2 - n1) * 840).fdiv d) else if sec = 1 then plc (((n2 - 2 * n1) * 840).fdiv d) ((n2 * 840).fdiv d) else plc (((n1 - 2 * n2) * 840).fdiv d) (((-n1) * 840).fdiv d)
noncomputable def tellF (h : UInt64) : Option Int := match Float64.decode (Float64.add (Float64.mul h (Float64.ofInt 5040)) fh) with
  | .fin sg m e => some (Float64.truncOf sg m e)
  | _ => none
noncomputable def qL : List UInt64 := [0, 0, 0, 0, 0, 0, 0, 0, 0, 0, 4607182418800017408, 4602678819172646912, 4599676419421066581, 4598175219545276416, 4596373779694328218, 4595172819793696085, 4594314991293244562, 4593671619917905920, 0, 0, 4607182418800017408, 4604180019048437077, 4602678819172646912, 4600877379321698714, 4599676419421066581, 4598818590920615058, 4598175219545276416, 0, 0, 0, 4607182418800017408, 4604930618986332160, 4603579539098121011, 4602678819172646912, 4601392076421969627, 4600427019358961664, 0, 0, 0, 0, 4607182418800017408, 4605380978949069210, 4604180019048437077, 4603322190547985554, 4602678819172646912, 0, 0, 0, 0, 0, 4607182418800017408, 4605681218924227243, 4604608933298662839, 4603804719079489536, 0, 0, 0, 0, 0, 0, 4607182418800017408, 4605895676049340123, 4604930618986332160, 0, 0, 0, 0, 0, 0, 0, 4607182418800017408, 4606056518893174784, 0, 0, 0, 0, 0, 0, 0, 0, 4607182418800017408]
noncomputable def qT (n d : Nat) : UInt64 := qL.getD (n * 9 + d) 0
theorem qT_all : ∀ d n : Fin 9, (decide (d.val = 0) || decide (d.val < n.val) || (qF n d == qT n d)) = true := by decide +kernel
theorem qT_of {n d : Nat} (hd0 : d ≠ 0) (hd : d ≤ 8) (hn : n ≤ d) : qF n d = qT n d := by
  have := qT_all ⟨d, by omega⟩ ⟨n, by omega⟩
  simp only [Bool.or_eq_true, decide_eq_true_eq, beq_iff_eq] at this
  rcases this with (q | q) | q
  · exact absurd q hd0
  · omega
  · exact q
noncomputable def secL (sec : Nat) (x1 x2 : UInt64) : UInt64 :=
  if sec = 0 then Float64.sub x2 x1 else if sec = 1 then Float64.sub (Float64.add f2 x1) x2 else Float64.sub (Float64.add f4 x1) x2
noncomputable def okSec' (sec n1 n2 d : Nat) : Bool := tellF (Float64.divmod (Float64.div (secL sec (qT n1 d) (qT n2 d)) f6) f1).snd == some (plcS sec n1 n2 d)
theorem okSec_0 : ∀ (d n : Fin 9), (decide (d.val = 0) || decide (d.val < n.val) || (okSec' 0 n d d && okSec' 0 d n d)) = true := by decide +kernel
theorem okSec_1 : ∀ (d n : Fin 9), (decide (d.val = 0) || decide (d.val < n.val) || (okSec' 1 n d d && okSec' 1 d n d)) = true := by decide +kernel
theorem okSec_2 : ∀ (d n : Fin 9), (decide (d.val = 0) || decide (d.val < n.val) || (okSec' 2 n d d && okSec' 2 d n d)) = true := by decide +kernel
theorem okSec_all (sec : Fin 3) (d n : Fin 9) : (decide (d.val = 0) || decide (d.val < n.val) || (okSec' sec n d d && okSec' sec d n d)) = true := by
  obtain ⟨s, hs⟩ := sec
  have : s = 0 ∨ s = 1 ∨ s = 2 := by omega
  rcases this with rfl | rfl | rfl
  · exact okSec_0 d n
  · exact okSec_1 d n
  · exact okSec_2 d n
theorem okSec_of {sec n1 n2 d : Nat} (hs : sec < 3) (hd0 : d ≠ 0) (hd : d ≤ 8) (h1 : n1 ≤ d) (h2 : n2 ≤ d) (h : n1 = d ∨ n2 = d) : tellF (Float64.divmod (Float64.div (secF sec n1 n2 d) f6) f1).snd = some (plcS sec n1 n2 d) := by
  have e : secF sec n1 n2 d = secL sec (qT n1 d) (qT n2 d) := by unfold secF secL; rw [qT_of hd0 hd h1, qT_of hd0 hd h2]
  rw [e]
  rcases h with rfl | rfl
  · have := okSec_all ⟨sec, hs⟩ ⟨n1, by omega⟩ ⟨n2, by omega⟩
    simp only [Bool.or_eq_true, Bool.and_eq_true, decide_eq_true_eq, okSec', beq_iff_eq] at this
    rcases this with (q | q) | q
    · exact absurd q hd0
    · omega
    · exact q.2
  · have := okSec_all ⟨sec, hs⟩ ⟨n2, by omega⟩ ⟨n1, by omega⟩
    simp only [Bool.or_eq_true, Bool.and_eq_true, decide_eq_true_eq, okSec', beq_iff_eq] at this
    rcases this with (q | q) | q
    · exact absurd q hd0
    · omega
    · exact q.1

theorem mx8 {r g b : Nat} (hr : r ≤ 8) (hg : g ≤ 8) (hb : b ≤ 8) : max r (max g b) ≤ 8 := Nat.max_le.mpr ⟨hr, Nat.max_le.mpr ⟨hg, hb⟩⟩
theorem le_mx {r g b : Nat} : r ≤ max r (max g b) ∧ g ≤ max r (max g b) ∧ b ≤ max r (max g b) := ⟨Nat.le_max_left _ _, Nat.le_trans (Nat.le_max_left _ _) (Nat.le_max_right _ _), Nat.le_trans (Nat.le_max_right _ _) (Nat.le_max_right _ _)⟩
theorem mn_mx {r g b : Nat} : min r (min g b) ≤ max r (max g b) := Nat.le_trans (Nat.min_le_left _ _) (Nat.le_max_left _ _)
theorem three_e8 : ∀ r g b : Fin 9, ((if decide (r.val < g.val) then (if decide (g.val < b.val) then b.val else g.val) else (if decide (r.val < b.val) then b.val else r.val)) == max r.val (max g.val b.val)) &&
    ((if decide (g.val < r.val) then (if decide (b.val < g.val) then b.val else g.val) else (if decide (b.val < r.val) then b.val else r.val)) == min r.val (min g.val b.val)) = true := by decide +kernel
theorem push_e8 {c1 c2 c3 : Bool} {a b c d : Nat} : (if c1 then (if c2 then e8 a else e8 b) else (if c3 then e8 c else e8 d)) = e8 (if c1 then (if c2 then a else b) else (if c3 then c else d)) := by cases c1 <;> cases c2 <;> cases c3 <;> rfl
theorem max3_e8 {r g b : Nat} (hr : r ≤ 8) (hg : g ≤ 8) (hb : b ≤ 8) : max3F (e8 r) (e8 g) (e8 b) = e8 (max r (max g b)) := by
  have := three_e8 ⟨r, Nat.lt_succ_of_le hr⟩ ⟨g, Nat.lt_succ_of_le hg⟩ ⟨b, Nat.lt_succ_of_le hb⟩
  unfold max3F
  rw [e8_gt hg hr, e8_gt hb hg, e8_gt hb hr, push_e8]
  exact congrArg e8 (by simpa using (Bool.and_eq_true_iff.mp this).1)
theorem min3_e8 {r g b : Nat} (hr : r ≤ 8) (hg : g ≤ 8) (hb : b ≤ 8) : min3F (e8 r) (e8 g) (e8 b) = e8 (min r (min g b)) := by
  have := three_e8 ⟨r, Nat.lt_succ_of_le hr⟩ ⟨g, Nat.lt_succ_of_le hg⟩ ⟨b, Nat.lt_succ_of_le hb⟩
  unfold min3F
  rw [e8_lt hg hr, e8_lt hb hg, e8_lt hb hr, push_e8]
  exact congrArg e8 (by simpa using (Bool.and_eq_true_iff.mp this).2)
noncomputable def hueC (r g b mx d : Nat) : Bool := decide (r = g ∧ g = b) || (decide (d ≠ 0) && decide (d ≤ 8) && decide (mx - r ≤ d) && decide (mx - g ≤ d) && decide (mx - b ≤ d) &&
  if decide (r = mx) then (decide (mx - g = d ∨ mx - b = d) && decide (plc (ptX r g b) (ptY r g b) = plcS 0 ((mx - g : Nat) : Int) ((mx - b : Nat) : Int) d))
  else if decide (g = mx) then (decide (mx - r = d ∨ mx - b = d) && decide (plc (ptX r g b) (ptY r g b) = plcS 1 ((mx - r : Nat) : Int) ((mx - b : Nat) : Int) d))
  else (decide (mx - g = d ∨ mx - r = d) && decide (plc (ptX r g b) (ptY r g b) = plcS 2 ((mx - g : Nat) : Int) ((mx - r : Nat) : Int) d)))
theorem hue_all : ∀ r g b : Fin 9, hueC r g b (max r.val (max g.val b.val)) (max r.val (max g.val b.val) - min r.val (min g.val b.val)) = true := by decide +kernel
theorem hue_of {r g b : Nat} (hr : r ≤ 8) (hg : g ≤ 8) (hb : b ≤ 8) : hueC r g b (max r (max g b)) (max r (max g b) - min r (min g b)) = true := hue_all ⟨r, Nat.lt_succ_of_le hr⟩ ⟨g, Nat.lt_succ_of_le hg⟩ ⟨b, Nat.lt_succ_of_le hb⟩
theorem d_ne {r g b : Nat} (hr : r ≤ 8) (hg : g ≤ 8) (hb : b ≤ 8) (hne : ¬ (r = g ∧ g = b)) : max r (max g b) - min r (min g b) ≠ 0 := by
  have ok := hue_of hr hg hb
  unfold hueC at ok
  rw [decide_eq_false hne, Bool.false_or] at ok
  exact of_decide_eq_true (Bool.and_eq_true_iff.mp (Bool.and_eq_true_iff.mp (Bool.and_eq_true_iff.mp (Bool.and_eq_true_iff.mp (Bool.and_eq_true_iff.mp ok).1).1).1).1).1
theorem grey_all : ∀ r g b : Fin 9, decide (min r.val (min g.val b.val) = max r.val (max g.val b.val)) = decide (r.val = g.val ∧ g.val = b.val) := by decide +kernel
theorem grey_e8 {r g b : Nat} (hr : r ≤ 8) (hg : g ≤ 8) (hb : b ≤ 8) : isGreyF (e8 r) (e8 g) (e8 b) = decide (r = g ∧ g = b) := by
  unfold isGreyF
  rw [max3_e8 hr hg hb, min3_e8 hr hg hb, e8_eq (Nat.le_trans mn_mx (mx8 hr hg hb)) (mx8 hr hg hb)]
  exact grey_all ⟨r, Nat.lt_succ_of_le hr⟩ ⟨g, Nat.lt_succ_of_le hg⟩ ⟨b, Nat.lt_succ_of_le hb⟩
theorem rng_e8 {r g b : Nat} (hr : r ≤ 8) (hg : g ≤ 8) (hb : b ≤ 8) : rngF (e8 r) (e8 g) (e8 b) = e8 (max r (max g b) - min r (min g b)) := by
  unfold rngF
  rw [max3_e8 hr hg hb, min3_e8 hr hg hb, e8_sub (mx8 hr hg hb) mn_mx]
theorem hue_e8 {r g b : Nat} (hr : r ≤ 8) (hg : g ≤ 8) (hb : b ≤ 8) (hne : ¬ (r = g ∧ g = b)) : tellF (hF (e8 r) (e8 g) (e8 b)) = some (plc (ptX r g b) (ptY r g b)) := by
  have hM := mx8 hr hg hb
  have hc : ∀ x : Nat, x ≤ max r (max g b) → cF (e8 r) (e8 g) (e8 b) (e8 x) = qF (max r (max g b) - x) (max r (max g b) - min r (min g b)) := fun x hx => by
    unfold cF qF
    rw [rng_e8 hr hg hb, max3_e8 hr hg hb, e8_sub hM hx]
  have ok := hue_of hr hg hb
  unfold hF h0F
  rw [hc r le_mx.1, hc g le_mx.2.1, hc b le_mx.2.2, max3_e8 hr hg hb, e8_eq hr hM, e8_eq hg hM]
  generalize max r (max g b) - min r (min g b) = d at ok ⊢
  generalize max r (max g b) = mx at ok ⊢
  clear hc hM hr hg hb
  unfold hueC at ok
  rw [decide_eq_false hne, Bool.false_or] at ok
  obtain ⟨ok, o6⟩ := Bool.and_eq_true_iff.mp ok
  obtain ⟨ok, o5⟩ := Bool.and_eq_true_iff.mp ok
  obtain ⟨ok, o4⟩ := Bool.and_eq_true_iff.mp ok
  obtain ⟨ok, o3⟩ := Bool.and_eq_true_iff.mp ok
  obtain ⟨o1, o2⟩ := Bool.and_eq_true_iff.mp ok
  by_cases h1 : decide (r = mx) = true
  · rw [if_pos h1] at o6 ⊢
    obtain ⟨z1, z2⟩ := Bool.and_eq_true_iff.mp o6
    rw [of_decide_eq_true z2]
    exact okSec_of (sec := 0) (by decide) (of_decide_eq_true o1) (of_decide_eq_true o2) (of_decide_eq_true o4) (of_decide_eq_true o5) (of_decide_eq_true z1)
  · rw [if_neg h1] at o6 ⊢
    by_cases h2 : decide (g = mx) = true
    · rw [if_pos h2] at o6 ⊢
      obtain ⟨z1, z2⟩ := Bool.and_eq_true_iff.mp o6
      rw [of_decide_eq_true z2]
      exact okSec_of (sec := 1) (by decide) (of_decide_eq_true o1) (of_decide_eq_true o2) (of_decide_eq_true o3) (of_decide_eq_true o5) (of_decide_eq_true z1)
    · rw [if_neg h2] at o6 ⊢
      obtain ⟨z1, z2⟩ := Bool.and_eq_true_iff.mp o6
      rw [of_decide_eq_true z2]
      exact okSec_of (sec := 2) (by decide) (of_decide_eq_true o1) (of_decide_eq_true o2) (of_decide_eq_true o4) (of_decide_eq_true o3) (of_decide_eq_true z1)
end Mine

end

section
open PySem PySem.W PyProof.Rows PySem.SeqAt
set_option Elab.async false
set_option linter.all false
set_option autoImplicit false
namespace Mine
section
variable {prog : Program} {w : World} {k : Nat} {env : Env} {h : Heap}
noncomputable def IsF (x : UInt64) : Value → Heap → Prop := fun v _ => ∃ t, v = .float x t
noncomputable def prF (x : UInt64) : Pr := ⟨IsF x, fun _ _ _ _ q => q⟩
theorem isF_mono {x : UInt64} : ∀ v h h', Ext h h' → IsF x v h → IsF x v h' := fun _ _ _ _ q => q
theorem ev_flt {x : UInt64} {n : Nat} {pos : Pos} : EvP prog w k env h (.Constant (.float x) n pos) (IsF x) := fun A s E Q _ _ hq => by
  show wpAny _ A (mkFloat x) Q E s
  exact fun _ _ _ => hq _ s.heap _ (.refl _) ⟨_, rfl⟩
theorem ev_fsub {l r : Expr} {pos : Pos} {a b : UInt64} (hl : EvP prog w k env h l (IsF a)) (hr : EvP prog w k env h r (IsF b)) : EvP prog w k env h (.BinOp l .Sub r pos) (IsF (Float64.sub a b)) :=
  ev_bin hl hr isF_mono fun A s E Q x y _ _ px py hq => by
    obtain ⟨t, rfl⟩ := px; obtain ⟨u, rfl⟩ := py
    exact sub_float (hq _ s.heap _ (.refl _) ⟨_, rfl⟩)
theorem ev_fadd {l r : Expr} {pos : Pos} {a b : UInt64} (hl : EvP prog w k env h l (IsF a)) (hr : EvP prog w k env h r (IsF b)) : EvP prog w k env h (.BinOp l .Add r pos) (IsF (Float64.add a b)) :=
  ev_bin hl hr isF_mono fun A s E Q x y _ _ px py hq => by
    obtain ⟨t, rfl⟩ := px; obtain ⟨u, rfl⟩ := py
    exact add_float (hq _ s.heap _ (.refl _) ⟨_, rfl⟩)
theorem ev_fdivF {l r : Expr} {pos : Pos} {a b : UInt64} (hl : EvP prog w k env h l (IsF a)) (hr : EvP prog w k env h r (IsF b)) (hb : Float64.isZero b = false) : EvP prog w k env h (.BinOp l .Div r pos) (IsF (Float64.div a b)) :=
  ev_bin hl hr isF_mono fun A s E Q x y rm _ px py hq => by
    obtain ⟨t, rfl⟩ := px; obtain ⟨u, rfl⟩ := py
    exact truediv_float_or rm.handled (fun q => by rw [hb] at q; cases q) fun _ => hq _ s.heap _ (.refl _) ⟨_, rfl⟩
theorem ev_fmodF {l r : Expr} {pos : Pos} {a b : UInt64} (hl : EvP prog w k env h l (IsF a)) (hr : EvP prog w k env h r (IsF b)) (hb : Float64.isZero b = false) : EvP prog w k env h (.BinOp l .Mod r pos) (IsF (Float64.divmod a b).snd) :=
  ev_bin hl hr isF_mono fun A s E Q x y rm _ px py hq => by
    obtain ⟨t, rfl⟩ := px; obtain ⟨u, rfl⟩ := py
    exact AutoFloatOps.mod_1 (by rw [hb]; decide) (hq _ s.heap _ (.refl _) ⟨_, rfl⟩)
theorem cmp_eqFF {a b : UInt64} : Cmp (prog := prog) (w := w) k .Eq h (IsF a) (IsF b) (eqF a b) := fun A s E Q x y _ _ px py hq => by
  obtain ⟨t, rfl⟩ := px; obtain ⟨u, rfl⟩ := py
  exact AutoFloatOps.eq_0 (hq _ _ (.refl _))

theorem tup3 {s : Shared} {a b c : Value} : (s.heap.push { cls := .type "tuple", data := .seq #[a, b, c] }).IsTuple s.heap.objs.size #[a, b, c] := ⟨_, Heap.get?_push_size _ rfl, rfl, 0, rfl⟩
theorem old3 {h h' : Heap} {o1 o2 : Obj} {I : Addr} (hI : I = h.objs.size + 1) (hk : ∀ b o, b ∉ [I] → ((h.push o1).push o2).get? b = some o → h'.get? b = some o) : Ext h h' := fun d o e =>
  hk d o (fun hm => by
    have := Heap.lt_size e
    rw [List.mem_singleton.mp hm, hI] at this; exact absurd this (Nat.not_lt.mpr (Nat.le_succ _))) (Heap.get?_push_of_some _ (Heap.get?_push_of_some _ e))
theorem fn_max3F {a b c : UInt64} : FnP prog w k h (.builtin "max") (PAll [prF a, prF b, prF c]) (IsF (max3F a b c)) := fun A s vs E Q rm hx pa hq => by
  match vs, pa with
  | [v1, v2, v3], ⟨⟨t1, e1⟩, ⟨t2, e2⟩, ⟨t3, e3⟩, _⟩ =>
  subst e1 e2 e3
  refine call_max_three (wpAny_pyIter_tuple tup3 ?_)
  have hsz : (s.heap.push { cls := .type "tuple", data := .seq #[.float a t1, .float b t2, .float c t3] }).objs.size = s.heap.objs.size + 1 := Heap.size_push ..
  let val : Nat → UInt64 := fun i => [a, b, c].getD i 0
  refine ⟨_, [_, s.heap.objs.size], [_], _, _, _, fun i j => gtF (val i) (val j), rfl, Walks.tuple (A := A.in1) rm.handled _ s.heap.objs.size (by rw [hsz]; exact Nat.ne_of_lt (Nat.lt_succ_self _)) #[.float a t1, .float b t2, .float c t3],
    ⟨⟨_, Heap.get?_push_size _ rfl, rfl, rfl⟩, tup3.push _⟩, fun d hd => ?_, Nat.succ_pos 2, ?_, fun v h' tk hP hk => ?_⟩
  · show d < ((s.heap.push _).push _).objs.size
    rw [Heap.size_push, hsz]
    rcases List.mem_cons.mp hd with rfl | hd
    · rw [hsz]; exact Nat.lt_succ_self _
    · rw [List.mem_singleton.mp hd]; exact Nat.lt_succ_of_lt (Nat.lt_succ_self _)
  · intro i j vi vj s Q E hi hj hQ
    have fl : ∀ (i : Nat) (v : Value), #[Value.float a t1, .float b t2, .float c t3][i]? = some v → ∃ t, v = .float (val i) t := fun i v e => by
      match i, e with
      | 0, e => simp at e; exact ⟨_, e.symm⟩
      | 1, e => simp at e; exact ⟨_, e.symm⟩
      | 2, e => simp at e; exact ⟨_, e.symm⟩
      | n + 3, e => simp at e
    obtain ⟨t, rfl⟩ := fl i vi hi
    obtain ⟨u, rfl⟩ := fl j vj hj
    exact AutoFloatOps.gt_0 hQ
  · refine hq v h' tk (old3 hsz hk) ?_
    have hP' : #[Value.float a t1, .float b t2, .float c t3][argBest (fun i j => gtF (val i) (val j)) 2]? = some v := hP
    unfold max3F
    by_cases h1 : gtF b a = true
    · by_cases h2 : gtF c b = true
      · have e : argBest (fun i j => gtF (val i) (val j)) 2 = 2 := by simp [argBest, val, h1, h2]
        rw [e] at hP'; simp at hP'; exact ⟨t3, by simp [h1, h2, ← hP']⟩
      · have e : argBest (fun i j => gtF (val i) (val j)) 2 = 1 := by simp [argBest, val, h1, h2]
        rw [e] at hP'; simp at hP'; exact ⟨t2, by simp [h1, h2, ← hP']⟩
    · by_cases h2 : gtF c a = true
      · have e : argBest (fun i j => gtF (val i) (val j)) 2 = 2 := by simp [argBest, val, h1, h2]
        rw [e] at hP'; simp at hP'; exact ⟨t3, by simp [h1, h2, ← hP']⟩
      · have e : argBest (fun i j => gtF (val i) (val j)) 2 = 0 := by simp [argBest, val, h1, h2]
        rw [e] at hP'; simp at hP'; exact ⟨t1, by simp [h1, h2, ← hP']⟩
theorem fn_min3F {a b c : UInt64} : FnP prog w k h (.builtin "min") (PAll [prF a, prF b, prF c]) (IsF (min3F a b c)) := fun A s vs E Q rm hx pa hq => by
  match vs, pa with
  | [v1, v2, v3], ⟨⟨t1, e1⟩, ⟨t2, e2⟩, ⟨t3, e3⟩, _⟩ =>
  subst e1 e2 e3
  refine call_min_three (wpAny_pyIter_tuple tup3 ?_)
  have hsz : (s.heap.push { cls := .type "tuple", data := .seq #[.float a t1, .float b t2, .float c t3] }).objs.size = s.heap.objs.size + 1 := Heap.size_push ..
  let val : Nat → UInt64 := fun i => [a, b, c].getD i 0
  refine ⟨_, [_, s.heap.objs.size], [_], _, _, _, fun i j => ltF (val i) (val j), rfl, Walks.tuple (A := A.in1) rm.handled _ s.heap.objs.size (by rw [hsz]; exact Nat.ne_of_lt (Nat.lt_succ_self _)) #[.float a t1, .float b t2, .float c t3],
    ⟨⟨_, Heap.get?_push_size _ rfl, rfl, rfl⟩, tup3.push _⟩, fun d hd => ?_, Nat.succ_pos 2, ?_, fun v h' tk hP hk => ?_⟩
  · show d < ((s.heap.push _).push _).objs.size
    rw [Heap.size_push, hsz]
    rcases List.mem_cons.mp hd with rfl | hd
    · rw [hsz]; exact Nat.lt_succ_self _
    · rw [List.mem_singleton.mp hd]; exact Nat.lt_succ_of_lt (Nat.lt_succ_self _)
  · intro i j vi vj s Q E hi hj hQ
    have fl : ∀ (i : Nat) (v : Value), #[Value.float a t1, .float b t2, .float c t3][i]? = some v → ∃ t, v = .float (val i) t := fun i v e => by
      match i, e with
      | 0, e => simp at e; exact ⟨_, e.symm⟩
      | 1, e => simp at e; exact ⟨_, e.symm⟩
      | 2, e => simp at e; exact ⟨_, e.symm⟩
      | n + 3, e => simp at e
    obtain ⟨t, rfl⟩ := fl i vi hi
    obtain ⟨u, rfl⟩ := fl j vj hj
    exact AutoFloatOps.lt_0 hQ
  · refine hq v h' tk (old3 hsz hk) ?_
    have hP' : #[Value.float a t1, .float b t2, .float c t3][argBest (fun i j => ltF (val i) (val j)) 2]? = some v := hP
    unfold min3F
    by_cases h1 : ltF b a = true
    · by_cases h2 : ltF c b = true
      · have e : argBest (fun i j => ltF (val i) (val j)) 2 = 2 := by simp [argBest, val, h1, h2]
        rw [e] at hP'; simp at hP'; exact ⟨t3, by simp [h1, h2, ← hP']⟩
      · have e : argBest (fun i j => ltF (val i) (val j)) 2 = 1 := by simp [argBest, val, h1, h2]
        rw [e] at hP'; simp at hP'; exact ⟨t2, by simp [h1, h2, ← hP']⟩
    · by_cases h2 : ltF c a = true
      · have e : argBest (fun i j => ltF (val i) (val j)) 2 = 2 := by simp [argBest, val, h1, h2]
        rw [e] at hP'; simp at hP'; exact ⟨t3, by simp [h1, h2, ← hP']⟩
      · have e : argBest (fun i j => ltF (val i) (val j)) 2 = 0 := by simp [argBest, val, h1, h2]
        rw [e] at hP'; simp at hP'; exact ⟨t1, by simp [h1, h2, ← hP']⟩
theorem body_if_set {h0 : Heap} {ρ : Locs} {test : Expr} {body orelse rest : List Stmt} {pos : Pos} {b : Bool} {P : Value → Heap → Prop} (x : Str) (p : Pr) (ht : ∀ h, Fm h0 h env ρ → Ts prog w k env h test b)
    (h1 : b = true → ∀ (A : Around) (s : Shared) E (Q : Flow → Shared → Prop), Room k A → Fm h0 s.heap env ρ → (∀ h' tk, Fm h0 h' env ((x, p) :: ρ) → Q .next { s with heap := h', toks := tk }) → wpAny (model prog w) A (execs body env) Q E s)
    (h2 : b = false → ∀ (A : Around) (s : Shared) E (Q : Flow → Shared → Prop), Room k A → Fm h0 s.heap env ρ → (∀ h' tk, Fm h0 h' env ((x, p) :: ρ) → Q .next { s with heap := h', toks := tk }) → wpAny (model prog w) A (execs orelse env) Q E s)
    (h3 : BodyP prog w k h0 env ((x, p) :: ρ) rest P) : BodyP prog w k h0 env ρ (.If test body orelse pos :: rest) P := body_if_else _ ht h1 h2 h3
/-- a tuple told item by item -/
noncomputable def TupOf (ps : List Pr) : Value → Heap → Prop := fun v h => ∃ a vs n, v = .ref a ∧ h.get? a = some { cls := .type "tuple", data := .seq vs n } ∧ PAll ps vs.toList h
theorem TupOf.st {ps : List Pr} : ∀ v h h', Pres h h' → TupOf ps v h → TupOf ps v h' := fun v h h' e ⟨a, vs, n, e1, h1, h2⟩ => ⟨a, vs, n, e1, e _ _ rfl h1, h2.st e⟩
noncomputable def prT (ps : List Pr) : Pr := ⟨TupOf ps, TupOf.st⟩
theorem ev_tupP {elts : List Expr} {n : Nat} {pos : Pos} {ps : List Pr} (ha : EvA prog w k env h elts (PAll ps)) (hn : ps.length ≤ sizeLine := by simp [sizeLine]) :
    EvP prog w k env h (.Tuple elts n pos) (TupOf ps) := fun A s E Q rm hx hq =>
  wpAny_Tuple (ha pos A s E _ rm hx fun vs h1 t1 e1 p1 => ⟨by rw [p1.length]; exact hn, hq _ _ _ (e1.trans (Ext.push _ _))
    ⟨_, _, _, rfl, Heap.get?_push_size _ rfl, by simpa using p1.st (Ext.push _ _).pres⟩⟩)
theorem evp_pcons {e : Expr} {rest : List Expr} {p : Pr} {ps : List Pr} (h1 : EvP prog w k env h e p.P) (h2 : EvA prog w k env h rest (PAll ps))
    (he : starEach (e :: rest) env = (false, eval e env) :: starEach rest env := by rfl) : EvA prog w k env h (e :: rest) (PAll (p :: ps)) :=
  evp_cons h1 h2 (fun v h h' e x => p.st _ _ _ e.pres x) (fun v vs h' a b => ⟨a, b⟩) he
theorem evp_pnil : EvA prog w k env h [] (PAll []) := evp_nil fun _ _ => trivial
end
section
variable {w : World} {h : Heap} {G : List (Str × Value)}
noncomputable def hsvPr (r g b : UInt64) : List Pr := if isGreyF r g b then [prF 0, prF 0, prF (max3F r g b)] else [prF (hF r g b), prF (sF r g b), prF (max3F r g b)]
theorem rgb_ok {a : Addr} (X : FnAt h a "rgb_to_hsv" (defParams rgbD) (defBody rgbD) (defScope rgbD)) (gl : Glo G h) {r g b : UInt64}
    (hz : isGreyF r g b = false → Float64.isZero (max3F r g b) = false ∧ Float64.isZero (rngF r g b) = false) :
    FnP pw w 1 h (.ref a) (PAll [prF r, prF g, prF b]) (TupOf (hsvPr r g b)) := by
  refine fn_own (xs := ["r", "g", "b"]) X gl.lim rfl (fun fd vs e e1 e2 hl => ?_) (by decide) (by decide) rfl rfl rfl fun env h0' hx hs hg hb => ?_
  · obtain ⟨_, _, _, _, _, _, _, _, _, _, _, _, _, _, _⟩ := fd
    dsimp only at e e1 e2; subst e e1 e2
    match vs, hl with
    | [v1, v2, v3], _ => rfl
  have kd : ∀ x, env.kindOf x = (defScope rgbD).names.lookup x := fun x => by rw [Env.kindOf, hs]
  have g' := gl.ext hx
  refine body_assign (p := prF (max3F r g b)) (fun h F => ?_) ?_ (.inl (kd _))
  · exact ev_call_builtin (has_b (g'.ext F.base) (by decide) boot_max F.kind (kd _) hg hb) (evp_pcons (ev_var F rfl) (evp_pcons (ev_var F rfl) (evp_pcons (ev_var F rfl) evp_pnil))) fn_max3F
  refine body_assign (p := prF (min3F r g b)) (fun h F => ?_) ?_ (.inl (kd _))
  · exact ev_call_builtin (has_b (g'.ext F.base) (by decide) boot_min F.kind (kd _) hg hb) (evp_pcons (ev_var F rfl) (evp_pcons (ev_var F rfl) (evp_pcons (ev_var F rfl) evp_pnil))) fn_min3F
  refine body_assign (p := prF (rngF r g b)) (fun h F => ev_fsub (ev_var (p := prF _) F rfl) (ev_var (p := prF _) F rfl)) ?_ (.inl (kd _))
  refine body_assign (p := prF (max3F r g b)) (fun h F => ev_var (p := prF _) F rfl) ?_ (.inl (kd _))
  refine body_if_ret (b := isGreyF r g b) (fun h F => ts_cmp (ev_var (p := prF _) F rfl) (ev_var (p := prF _) F rfl) isF_mono cmp_eqFF) (fun e => body_ret fun h F => ?_) fun e => ?_
  · rw [hsvPr, if_pos e]
    exact ev_tupP (evp_pcons (p := prF 0) ev_flt (evp_pcons (p := prF 0) ev_flt (evp_pcons (ev_var F rfl) evp_pnil)))
  obtain ⟨z1, z2⟩ := hz e
  rw [hsvPr, if_neg (by rw [e]; decide)]
  refine body_assign (p := prF (sF r g b)) (fun h F => ev_fdivF (ev_var (p := prF _) F rfl) (ev_var (p := prF _) F rfl) z1) ?_ (.inl (kd _))
  refine body_assign (p := prF (cF r g b r)) (fun h F => ev_fdivF (ev_fsub (ev_var (p := prF _) F rfl) (ev_var (p := prF _) F rfl)) (ev_var (p := prF _) F rfl) z2) ?_ (.inl (kd _))
  refine body_assign (p := prF (cF r g b g)) (fun h F => ev_fdivF (ev_fsub (ev_var (p := prF _) F rfl) (ev_var (p := prF _) F rfl)) (ev_var (p := prF _) F rfl) z2) ?_ (.inl (kd _))
  refine body_assign (p := prF (cF r g b b)) (fun h F => ev_fdivF (ev_fsub (ev_var (p := prF _) F rfl) (ev_var (p := prF _) F rfl)) (ev_var (p := prF _) F rfl) z2) ?_ (.inl (kd _))
  refine body_if_set (b := eqF r (max3F r g b)) (Str.ofString "h") (prF (h0F r g b)) (fun h F => ts_cmp (ev_var (p := prF _) F rfl) (ev_var (p := prF _) F rfl) isF_mono cmp_eqFF) (fun e A s E Q rm F hq => ?_) (fun e A s E Q rm F hq => ?_) ?_
  · refine wp_assign (p := prF (h0F r g b)) rm F ?_ (.inl (kd _)) fun h' tk F' _ _ => wp_nil (hq h' tk F')
    rw [h0F, if_pos e]
    exact ev_fsub (ev_var (p := prF _) F rfl) (ev_var (p := prF _) F rfl)
  · refine wp_if (b := eqF g (max3F r g b)) rm (ts_cmp (ev_var (p := prF _) F rfl) (ev_var (p := prF _) F rfl) isF_mono cmp_eqFF) (fun e' h' tk x => ?_) (fun e' h' tk x => ?_)
    · refine wp_assign (p := prF (h0F r g b)) rm (F.ext x) ?_ (.inl (kd _)) fun h' tk F' _ _ => wp_nil (wp_nil (hq h' tk F'))
      rw [h0F, if_neg (by rw [e]; decide), if_pos e']
      exact ev_fsub (ev_fadd ev_flt (ev_var (p := prF _) (F.ext x) rfl)) (ev_var (p := prF _) (F.ext x) rfl)
    · refine wp_assign (p := prF (h0F r g b)) rm (F.ext x) ?_ (.inl (kd _)) fun h' tk F' _ _ => wp_nil (wp_nil (hq h' tk F'))
      rw [h0F, if_neg (by rw [e]; decide), if_neg (by rw [e']; decide)]
      exact ev_fsub (ev_fadd ev_flt (ev_var (p := prF _) (F.ext x) rfl)) (ev_var (p := prF _) (F.ext x) rfl)
  refine body_assign (p := prF (hF r g b)) (fun h F => ev_fmodF (ev_fdivF (ev_var (p := prF _) F rfl) ev_flt (by decide +kernel)) ev_flt (by decide +kernel)) ?_ (.inl (kd _))
  exact body_ret fun h F => ev_tupP (evp_pcons (ev_var F rfl) (evp_pcons (ev_var F rfl) (evp_pcons (ev_var F rfl) evp_pnil)))
end
end Mine

end

section
open PySem PySem.W PyProof.Rows PySem.SeqAt
set_option Elab.async false
set_option linter.all false
set_option autoImplicit false
namespace Mine

/-- what may change -/
noncomputable def Chg (S : Addr → Prop) (h h' : Heap) : Prop := ∀ b o, ¬ S b → h.get? b = some o → h'.get? b = some o
theorem Chg.refl (S : Addr → Prop) (h : Heap) : Chg S h h := fun _ _ _ e => e
theorem Chg.trans {S : Addr → Prop} {a b c : Heap} (x : Chg S a b) (y : Chg S b c) : Chg S a c := fun p o n e => y p o n (x p o n e)
theorem Chg.mono {S T : Addr → Prop} {a b : Heap} (x : Chg S a b) (h : ∀ b, S b → T b) : Chg T a b := fun p o n e => x p o (fun q => n (h p q)) e
theorem Ext.chg {S : Addr → Prop} {a b : Heap} (x : Ext a b) : Chg S a b := fun p o _ e => x p o e
theorem Chg.one {D : Addr} {a b : Heap} (x : Heap.SameBut D a b) : Chg (fun b => b = D) a b := fun p o n e => (x.2 p n).trans e

/-- a heap less some objects -/
noncomputable def hideS (S : Addr → Prop) (h : Heap) : Heap := ⟨h.objs.mapIdx fun i o => open Classical in if S i then { o with data := .freed } else o, h.life⟩
theorem hideS_get (S : Addr → Prop) (h : Heap) (b : Addr) : (¬ S b → (hideS S h).get? b = h.get? b) ∧ (S b → (hideS S h).get? b = none) := by
  unfold Heap.get? hideS
  simp only [Array.getElem?_mapIdx]
  constructor
  · intro n
    cases h.objs[b]? with
    | none => rfl
    | some o => simp [n]
  · intro y
    cases h.objs[b]? with
    | none => rfl
    | some o => simp [y]
theorem hideS_ext {S : Addr → Prop} {h h' : Heap} (x : Chg S h h') : Ext (hideS S h) h' := fun b o e => by
  by_cases q : S b
  · rw [(hideS_get S h b).2 q] at e; cases e
  · rw [(hideS_get S h b).1 q] at e; exact x b o q e
theorem chg_of_hide {S : Addr → Prop} {h h' : Heap} (x : Ext (hideS S h) h') : Chg S h h' := fun b o q e => x b o (by rw [(hideS_get S h b).1 q]; exact e)
theorem hideS_none {S : Addr → Prop} {h : Heap} {b : Addr} (x : h.get? b = none) : (hideS S h).get? b = none := by
  by_cases q : S b
  · exact (hideS_get S h b).2 q
  · rw [(hideS_get S h b).1 q]; exact x

structure Off (env : Env) (b : Addr) : Prop where
  l : b ≠ env.locals
  c : ∀ z, env.cells.lookup z ≠ some b

section
variable {prog : Program} {w : World} {k : Nat} {env : Env} {h0 h : Heap} {ρ : Locs}
theorem Fm.off_seq (F : Fm h0 h env ρ) {b : Addr} {o : Obj} (e : h.get? b = some o) (hk : keptObj o = true) : Off env b := by
  constructor
  · rintro rfl
    obtain ⟨m, ⟨o1, es, ep, ho, hd, _⟩, _⟩ := F.ns
    rw [ho] at e; cases e; simp [keptObj, hd] at hk
  · intro z q
    obtain ⟨ov, o2, ho2, hd2⟩ := F.cin z b q
    rw [ho2] at e; cases e; simp [keptObj, hd2] at hk
theorem Fm.off_new (F : Fm h0 h env ρ) {b : Addr} (e : h.get? b = none) : Off env b := by
  constructor
  · rintro rfl
    obtain ⟨m, ⟨o1, es, ep, ho, hd, _⟩, _⟩ := F.ns
    rw [ho] at e; cases e
  · intro z q
    obtain ⟨ov, o2, ho2, hd2⟩ := F.cin z b q
    rw [ho2] at e; cases e
theorem Fm.rebase {h1 : Heap} (F : Fm h0 h env ρ) (e : Ext h1 h) (n : ∀ b, h0.get? b = none → h1.get? b = none) : Fm h1 h env ρ where
  base := e
  kind := F.kind
  ns := F.ns
  cel := fun x hx => by
    obtain ⟨c, ov, q1, q2, q3, q4⟩ := F.cel x hx
    exact ⟨c, ov, q1, q2, n _ q3, q4⟩
  dom := F.dom
  inj := F.inj
  freshL := n _ F.freshL
  cin := F.cin
theorem Fm.chg {S : Addr → Prop} {h' : Heap} (F : Fm h0 h env ρ) (hc : Chg S h h') (hS : ∀ b, S b → Off env b) (hS0 : ∀ b, S b → h0.get? b = none)
    (hp : ∀ x p, ρ.lookup x = some p → ∀ v, p.P v h → p.P v h') : Fm h0 h' env ρ where
  base := fun b o e => hc b o (fun q => by rw [hS0 b q] at e; cases e) (F.base b o e)
  kind := F.kind
  ns := by
    obtain ⟨m, ⟨o, es, ep, ho, r⟩, hm⟩ := F.ns
    exact ⟨m, ⟨o, es, ep, hc _ _ (fun q => (hS _ q).l rfl) ho, r⟩, fun x p a b => let ⟨v, c, d⟩ := hm x p a b; ⟨v, c, hp x p a v d⟩⟩
  cel := fun x hx => by
    obtain ⟨c, ov, q1, ⟨o, ho, hd⟩, q3, q4⟩ := F.cel x hx
    exact ⟨c, ov, q1, ⟨o, hc _ _ (fun q => (hS _ q).c x q1) ho, hd⟩, q3, fun p a => let ⟨v, c, d⟩ := q4 p a; ⟨v, c, hp x p a v d⟩⟩
  dom := F.dom
  inj := F.inj
  freshL := F.freshL
  cin := fun z c e => let ⟨ov, o, ho, hd⟩ := F.cin z c e; ⟨ov, o, hc _ _ (fun q => (hS _ q).c z e) ho, hd⟩

/-- the values themselves -/
noncomputable def pinL (vs : Str → Value) (ρ : Locs) : Locs := ρ.map fun x => (x.1, prV (vs x.1))
theorem pinL_lookup (vs : Str → Value) : ∀ (ρ : Locs) (x : Str), (pinL vs ρ).lookup x = (ρ.lookup x).map fun _ => prV (vs x)
  | [], x => rfl
  | (y, p) :: r, x => by
    show ((y, prV (vs y)) :: pinL vs r).lookup x = _
    rw [lk_cons, lk_cons, pinL_lookup vs r x]
    by_cases e : x = y
    · subst e; simp
    · simp [e]
theorem Fm.pin (F : Fm h0 h env ρ) : ∃ vs : Str → Value, Fm h0 h env (pinL vs ρ) ∧ ∀ x p, ρ.lookup x = some p → p.P (vs x) h := by
  have ex : ∀ x, ∃ v, ∀ p, ρ.lookup x = some p → p.P v h ∧ ((env.kindOf x = some .local → ∃ m, h.Ns env.locals m ∧ m x = some v) ∧ (env.kindOf x = some .cell → ∃ c, env.cells.lookup x = some c ∧ h.IsCell c (some v))) := fun x => by
    cases hx : ρ.lookup x with
    | none => exact ⟨.none, fun p e => by cases e⟩
    | some p =>
      rcases F.dom x p hx with hl | hl
      · obtain ⟨m, hn, hm⟩ := F.ns
        obtain ⟨v, hv, hp⟩ := hm x p hx hl
        exact ⟨v, fun q e => by cases e; exact ⟨hp, fun _ => ⟨m, hn, hv⟩, fun q => by rw [hl] at q; cases q⟩⟩
      · obtain ⟨c, ov, q1, q2, _, q4⟩ := F.cel x hl
        obtain ⟨v, rfl, hp⟩ := q4 p hx
        exact ⟨v, fun q e => by cases e; exact ⟨hp, fun q => (by rw [hl] at q; cases q), fun _ => ⟨c, q1, q2⟩⟩⟩
  have ⟨vs, hvs⟩ := Classical.skolem.mp ex
  refine ⟨vs, ?_, fun x p e => (hvs x p e).1⟩
  have look : ∀ x p, (pinL vs ρ).lookup x = some p → p = prV (vs x) ∧ ∃ q, ρ.lookup x = some q := fun x p e => by
    rw [pinL_lookup] at e
    cases hx : ρ.lookup x with
    | none => rw [hx] at e; cases e
    | some q => rw [hx] at e; cases e; exact ⟨rfl, q, rfl⟩
  have nsEq : ∀ m m', h.Ns env.locals m → h.Ns env.locals m' → m = m' := fun m m' ⟨o, es, ep, ho, hd, _, hm⟩ ⟨o', es', ep', ho', hd', _, hm'⟩ => by
    rw [ho] at ho'; cases ho'; rw [hd] at hd'; cases hd'
    funext x; rw [← hm x, ← hm' x]
  refine ⟨F.base, F.kind, ?_, fun x hx => ?_, fun x p e => ?_, F.inj, F.freshL, F.cin⟩
  · obtain ⟨m, hn, hm⟩ := F.ns
    refine ⟨m, hn, fun x p e hl => ?_⟩
    obtain ⟨rfl, q, hq⟩ := look x p e
    obtain ⟨m', hn', hv⟩ := (hvs x q hq).2.1 hl
    exact ⟨vs x, by rw [nsEq m m' hn hn']; exact hv, rfl⟩
  · obtain ⟨c, ov, q1, q2, q3, q4⟩ := F.cel x hx
    refine ⟨c, ov, q1, q2, q3, fun p e => ?_⟩
    obtain ⟨rfl, q, hq⟩ := look x p e
    obtain ⟨c', q1', o', ho', hd'⟩ := (hvs x q hq).2.2 hx
    rw [q1] at q1'; cases q1'
    obtain ⟨o, ho, hd⟩ := q2
    rw [ho] at ho'; cases ho'; rw [hd] at hd'; cases hd'
    exact ⟨vs x, rfl, rfl⟩
  · obtain ⟨rfl, q, hq⟩ := look x p e
    exact F.dom x q hq
theorem Fm.unpin {vs : Str → Value} {ρ' : Locs} (F : Fm h0 h env (ρ' ++ pinL vs ρ)) (hp : ∀ x p, ρ.lookup x = some p → p.P (vs x) h) : Fm h0 h env (ρ' ++ ρ) := by
  refine F.weaken fun x p e => ?_
  have app : ∀ (ρ' ρ : Locs), (ρ' ++ ρ).lookup x = (ρ'.lookup x).or (ρ.lookup x) := by
    intro ρ'
    induction ρ' with
    | nil => intro ρ; rfl
    | cons b r ih =>
      intro ρ
      obtain ⟨y, p⟩ := b
      rw [List.cons_append, lk_cons, lk_cons]
      by_cases e : x = y
      · simp [e]
      · simp only [e, if_false]; exact ih ρ
  rw [app] at e ⊢
  cases h1 : ρ'.lookup x with
  | some q =>
    rw [h1] at e; simp only [Option.some_or] at e ⊢; cases e; exact ⟨_, rfl, fun v y => y⟩
  | none =>
    rw [h1] at e; simp only [Option.none_or] at e ⊢
    rw [pinL_lookup, e]
    refine ⟨_, rfl, fun v y => ?_⟩
    have : v = vs x := y
    rw [this]; exact hp x p e

/-- «x = [..]»: a new list -/
theorem wp_assign_new {A : Around} {s : Shared} {E : Value → Shared → Prop} {Q : Flow → Shared → Prop} {x : Str} {px pos lp : Pos} {elts : List Expr} {rest : List Stmt} {ps : List Pr}
    (rm : Room k A) (F : Fm h0 s.heap env ρ) (he : EvA prog w k env s.heap elts (PAll ps)) (hk : env.kindOf x = some .local ∨ env.kindOf x = some .cell)
    (h : ∀ D ys h' tk, Fm h0 h' env ((x, prV (.ref D)) :: ρ) → h'.PlainList D ys → PAll ps ys.toList h' → s.heap.get? D = none → Pres s.heap h' → Offs env s.heap h' → wpAny (model prog w) A (execs rest env) Q E { s with heap := h', toks := tk })
    (hn : ps.length ≤ sizeLine := by simp [sizeLine]) : wpAny (model prog w) A (execs (.Assign [.Name x px] (.List elts lp) pos :: rest) env) Q E s := by
  refine wpAny_execs_cons (wpAny_Assign_Name (wpAny_List (he lp A s E _ rm (.refl _) fun vs h1 t1 e1 p1 => ⟨by rw [p1.length]; exact hn, ?_⟩)))
  have e2 : Ext s.heap (h1.push { cls := .type "list", data := .seq vs.toArray }) := e1.trans (Ext.push _ _)
  have hl : (h1.push { cls := .type "list", data := .seq vs.toArray }).PlainList h1.objs.size vs.toArray := ⟨_, Heap.get?_push_size _ rfl⟩
  refine Fm.store (p := prV (.ref h1.objs.size)) (F.ext e2) hk rfl fun h2 t2 F2 pr2 off2 => ?_
  obtain ⟨n, hl'⟩ := hl
  refine h _ vs.toArray h2 t2 F2 ⟨n, pr2 _ _ rfl hl'⟩ ?_ ?_ (e2.pres.trans pr2) (e2.offs.trans off2)
  · simpa using (p1.st (Ext.push _ _).pres).st pr2
  · cases q : s.heap.get? h1.objs.size with
    | none => rfl
    | some o => exact absurd (Heap.lt_size (e1 _ _ q)) (Nat.lt_irrefl _)

/-- while -/
theorem wp_while {A : Around} {s : Shared} {E : Value → Shared → Prop} {Q : Flow → Shared → Prop} {test : Expr} {body orelse rest : List Stmt} {pos : Pos} (I : Nat → Heap → Prop) (n : Nat) (hI : I n s.heap)
    (turn : ∀ n h tk (E' : Value → Shared → Prop) (Q' : Bool → Shared → Prop), I n h →
      (∀ b h' tk', (b = true → ∀ (E'' : Value → Shared → Prop) (Q'' : Flow → Shared → Prop), (∀ f h'' tk'', (f = .next ∨ f = .cont → ∃ m, m < n ∧ I m h'') → (f = .brk → wpAny (model prog w) A (execs rest env) Q E { s with heap := h'', toks := tk'' }) → (∀ v, f = .ret v → Q (.ret v) { s with heap := h'', toks := tk'' }) → Q'' f { s with heap := h'', toks := tk'' }) →
          wpAny (model prog w) A (execs body env) Q'' E'' { s with heap := h', toks := tk' }) →
        (b = false → ∀ (E'' : Value → Shared → Prop) (Q'' : Flow → Shared → Prop), (∀ f s', (match f with | .next => wpAny (model prog w) A (execs rest env) Q E s' | f => Q f s') → Q'' f s') → wpAny (model prog w) A (execs orelse env) Q'' E'' { s with heap := h', toks := tk' }) → Q' b { s with heap := h', toks := tk' }) →
      wpAny (model prog w) A (isTrue test env (eval test env)) Q' E' { s with heap := h, toks := tk }) :
    wpAny (model prog w) A (execs (.While test body orelse pos :: rest) env) Q E s := by
  refine wpAny_execs_cons (wpAny_While (codeAny_whileLoop (fun n s' => ∃ h tk, s' = { s with heap := h, toks := tk } ∧ I n h) ?_ n ⟨s.heap, s.toks, rfl, hI⟩))
  rintro n s' ⟨h, tk, rfl, hI⟩
  refine turn n h tk _ _ hI fun b h' tk' ht hf => ?_
  cases b with
  | true =>
    simp only [if_true]
    refine ht rfl _ _ fun f h'' tk'' h1 h2 h3 => ?_
    cases f with
    | next => obtain ⟨m, q1, q2⟩ := h1 (.inl rfl); exact ⟨m, q1, h'', tk'', rfl, q2⟩
    | cont => obtain ⟨m, q1, q2⟩ := h1 (.inr rfl); exact ⟨m, q1, h'', tk'', rfl, q2⟩
    | brk => exact h2 rfl
    | ret v => exact h3 v rfl
  | false =>
    simp only [Bool.false_eq_true, if_false]
    exact hf rfl _ _ fun f s' x => x

/-- where a for goes -/
noncomputable def HitF (prog : Program) (w : World) (A : Around) (s : Shared) (PI : Value → Heap → Prop) (n : Nat) (I : Nat → Value → Prop) (Z : Addr → Prop) : Prop :=
  ∀ xv h1 tk1 (E : Value → Shared → Prop) (Q' : Value → Shared → Prop), Ext s.heap h1 → PI xv h1 →
    (∀ It fp P St h2 tk2, Walks prog w A It fp [It] n P St → St 0 h2 → (∀ b ∈ fp, b = It ∨ Z b) → h1.get? It = none → Ext h1 h2 → (∀ i h', St i h' → ∃ o, h'.get? It = some o ∧ keptObj o = false) → (∀ i v, i < n → P i v → I i v) → Q' (.ref It) { s with heap := h2, toks := tk2 }) →
    wpAny (model prog w) A (pyIter xv) Q' E { s with heap := h1, toks := tk1 }
theorem get_size_none (h : Heap) : h.get? h.objs.size = none := by
  cases e : h.get? h.objs.size with
  | none => rfl
  | some o => exact absurd (Heap.lt_size e) (Nat.lt_irrefl _)
theorem hit_list {A : Around} {s : Shared} {a : Addr} {vs : Array Value} (rm : Room k A) (hl : s.heap.IsList a vs) : HitF prog w A s (fun v _ => v = .ref a) vs.size (fun i v => vs[i]? = some v) (fun b => b = a) := by
  intro xv h1 tk1 E Q' e1 px hq
  subst px
  have hl1 := isList_ext hl e1
  have hlt : a < h1.objs.size := by obtain ⟨_, e, _⟩ := hl1; exact Heap.lt_size e
  refine wpAny_pyIter_list (s := { s with heap := h1, toks := tk1 }) hl1 ?_
  refine hq h1.objs.size _ _ _ _ tk1 (Walks.list (prog := prog) (w := w) (A := A) rm.handled h1.objs.size a (Nat.ne_of_lt hlt) vs) ⟨⟨_, Heap.get?_push_size _ rfl, rfl, rfl⟩, hl1.push _⟩
    (fun b hb => (List.mem_cons.mp hb).imp id fun q => List.mem_singleton.mp q) (get_size_none _) (Ext.push _ _) (fun i h' st => ?_) (fun i v _ hP => hP)
  obtain ⟨⟨o, q1, q2, q3⟩, _⟩ := st
  exact ⟨o, q1, by simp [keptObj, q3]⟩
theorem hit_tuple {A : Around} {s : Shared} {a : Addr} {vs : Array Value} (rm : Room k A) (hl : s.heap.IsTuple a vs) : HitF prog w A s (fun v _ => v = .ref a) vs.size (fun i v => vs[i]? = some v) (fun b => b = a) := by
  intro xv h1 tk1 E Q' e1 px hq
  subst px
  have hl1 := isTuple_ext hl e1
  have hlt : a < h1.objs.size := by obtain ⟨_, e, _⟩ := hl1; exact Heap.lt_size e
  refine wpAny_pyIter_tuple (s := { s with heap := h1, toks := tk1 }) hl1 ?_
  refine hq h1.objs.size _ _ _ _ tk1 (Walks.tuple (prog := prog) (w := w) (A := A) rm.handled h1.objs.size a (Nat.ne_of_lt hlt) vs) ⟨⟨_, Heap.get?_push_size _ rfl, rfl, rfl⟩, hl1.push _⟩
    (fun b hb => (List.mem_cons.mp hb).imp id fun q => List.mem_singleton.mp q) (get_size_none _) (Ext.push _ _) (fun i h' st => ?_) (fun i v _ hP => hP)
  obtain ⟨⟨o, q1, q2, q3⟩, _⟩ := st
  exact ⟨o, q1, by simp [keptObj, q3]⟩
theorem hit_range {A : Around} {s : Shared} {n : Nat} (rm : Room k A) (hn : n < 2 ^ 60) : HitF prog w A s (IsRng n) n (fun i v => ∃ t, v = .int (i : Nat) t) (fun b => False) := by
  intro xv h1 tk1 E Q' e1 px hq
  obtain ⟨a, t, u, z, rfl, hr⟩ := px
  have sz : Builtin.Range.rangeSize 0 (n : Int) 1 = n := by rw [rangeSize_one]; split <;> omega
  refine wpAny_pyIter_range (s := { s with heap := h1, toks := tk1 }) hr ?_ ?_
  · unfold Builtin.Range.small Builtin.Range.rangeFitsLong
    rw [sz]
    simp
    omega
  · rw [sz]
    refine hq h1.objs.size _ _ _ _ tk1 (Walks.range (prog := prog) (w := w) (A := A) rm.handled h1.objs.size 0 1 n) ?_ (fun b hb => .inl (List.mem_singleton.mp hb)) (get_size_none _) (Ext.push _ _) (fun i h' st => ⟨_, st, rfl⟩) (fun i v _ hP => ?_)
    · have := Heap.get?_push_size h1 (o := { cls := .type "range_iterator", data := .fields #[rawInt 0, rawInt n, rawInt 1] }) rfl
      simpa [IsRangeIter] using this
    · obtain ⟨t, rfl⟩ := hP
      exact ⟨t, by congr 1; omega⟩

theorem wp_for {A : Around} {s : Shared} {E : Value → Shared → Prop} {Q : Flow → Shared → Prop} {x : Str} {px pos : Pos} {iter : Expr} {body rest : List Stmt} {PI : Value → Heap → Prop} {n : Nat} {I : Nat → Value → Prop} {Z : Addr → Prop}
    (rm : Room k A) (hi : EvP prog w k env s.heap iter PI) (hit : HitF prog w A s PI n I Z) (J : Addr → Nat → Heap → Prop)
    (start : ∀ It h', Ext s.heap h' → s.heap.get? It = none → J It 0 h')
    (stab : ∀ It i h h', J It i h → (∀ b o, b ≠ It → h.get? b = some o → h'.get? b = some o) → J It i h')
    (turn : ∀ It i v h tk (E' : Value → Shared → Prop) (Q' : Flow → Shared → Prop), i < n → J It i h → I i v → s.heap.get? It = none → (∃ o, h.get? It = some o ∧ keptObj o = false) →
      (∀ f h'' tk'', (f = .next ∨ f = .cont → J It (i + 1) h'' ∧ ∀ b o, (b = It ∨ Z b) → h.get? b = some o → h''.get? b = some o) → (f = .brk → wpAny (model prog w) A (execs rest env) Q E { s with heap := h'', toks := tk'' }) →
        (∀ v, f = .ret v → Q (.ret v) { s with heap := h'', toks := tk'' }) → Q' f { s with heap := h'', toks := tk'' }) →
      wpAny (model prog w) A (assign (.Name x px) env v) (fun _ s2 => wpAny (model prog w) A (execs body env) Q' E' s2) E' { s with heap := h, toks := tk })
    (fin : ∀ It h tk, J It n h → s.heap.get? It = none → wpAny (model prog w) A (execs rest env) Q E { s with heap := h, toks := tk })
    (hs : ∀ x, foldedSetIterable iter env x = pure x := by intro _; rfl) :
    wpAny (model prog w) A (execs (.For (.Name x px) iter body [] pos :: rest) env) Q E s := by
  refine wpAny_execs_cons ?_
  refine wpAny_For ?_ hs
  refine hi A s E _ rm (.refl _) fun xv h1 t1 e1 p1 => ?_
  refine hit xv h1 t1 E _ e1 p1 fun It fp P St h2 t2 W hst hfp hIt e2 hwk hI => ?_
  have hItS : s.heap.get? It = none := by
    cases q : s.heap.get? It with
    | none => rfl
    | some o => have := e1 _ _ q; rw [hIt] at this; cases this
  refine codeAny_forLoop_any (fun j s' => ∃ h tk i, s' = { s with heap := h, toks := tk } ∧ i ≤ n ∧ j = n + 1 - i ∧ St i h ∧ J It i h) ?_ (n + 1) ⟨h2, t2, 0, rfl, Nat.zero_le _, rfl, hst, start It h2 (e1.trans e2) hItS⟩
  rintro j s' ⟨H, tk, i, rfl, hin, rfl, hst', hJ⟩
  rcases Nat.lt_or_ge i n with hlt | hge
  · refine W.item i _ _ _ hlt hst' fun v h3 t3 hPv hst3 k3 => ?_
    refine wpAny_pure ?_
    have J3 := stab It i H h3 hJ fun b o hb e => k3 b o (fun q => hb (List.mem_singleton.mp q)) e
    refine turn It i v h3 t3 _ _ hlt J3 (hI i v hlt hPv) hItS (hwk _ _ hst3) fun f h4 t4 q1 q2 q3 => ?_
    have go : f = .next ∨ f = .cont → ∃ m, m < n + 1 - i ∧ ∃ h tk i, ({ s with heap := h4, toks := t4 } : Shared) = { s with heap := h, toks := tk } ∧ i ≤ n ∧ m = n + 1 - i ∧ St i h ∧ J It i h := fun q => by
      obtain ⟨J4, kp⟩ := q1 q
      exact ⟨n + 1 - (i + 1), by omega, h4, t4, i + 1, rfl, hlt, rfl, W.frame _ _ _ hst3 fun b hb o e => kp b o (hfp b hb) e, J4⟩
    cases f with
    | next => exact go (.inl rfl)
    | cont => exact go (.inr rfl)
    | brk => exact q2 rfl
    | ret v => exact q3 v rfl
  · have hin' : i = n := Nat.le_antisymm hin hge
    subst hin'
    refine W.done _ _ _ hst' fun h3 t3 k3 => ?_
    have J3 := stab It i H h3 hJ fun b o hb e => k3 b o (fun q => hb (List.mem_singleton.mp q)) e
    exact wpAny_execs_nil (fin It h3 t3 J3 hItS)
end
end Mine

end

section
open PySem PySem.W PyProof.Rows PySem.SeqAt
set_option Elab.async false
set_option linter.all false
set_option autoImplicit false
namespace Mine
section
variable {prog : Program} {w : World} {k : Nat} {env : Env} {h0 h : Heap} {ρ : Locs}

theorem ev_listP {elts : List Expr} {pos : Pos} {ps : List Pr} (ha : EvA prog w k env h elts (PAll ps)) (hn : ps.length ≤ sizeLine := by simp [sizeLine]) :
    EvP prog w k env h (.List elts pos) (LstOf ps) := fun A s E Q rm hx hq =>
  wpAny_List (ha pos A s E _ rm hx fun vs h1 t1 e1 p1 => ⟨by rw [p1.length]; exact hn, hq _ _ _ (e1.trans (Ext.push _ _))
    ⟨_, _, rfl, ⟨_, Heap.get?_push_size _ rfl⟩, by simpa using p1.st (Ext.push _ _).pres⟩⟩)

/-- a method of a built-in type -/
theorem ev_meth1 {o e : Expr} {name : Str} {apos pos : Pos} {T id : String} {P1 P2 P : Value → Heap → Prop} (pa : PlainAttrs T) (slot : Slot T name id) (hty : typeOf (.builtin id) = pure (.type "method_descriptor"))
    (ho : EvP prog w k env h o P1) (hT : ∀ v (s : Shared), P1 v s.heap → s.TypeIs v T ∧ ∀ a, v = .ref a → ∃ ob, s.heap.get? a = some ob ∧ ob.dict = none) (m1 : ∀ v h h', Ext h h' → P1 v h → P1 v h')
    (he : EvP prog w k env h e P2) (hc : FnP prog w k h (.builtin id) (fun vs h' => ∃ a b, vs = [a, b] ∧ P1 a h' ∧ P2 b h') P)
    (hbase : attributeBase o name env (eval o env) = eval o env := by rfl) (hst : starEach [e] env = [(false, eval e env)] := by rfl) (hline : (apos.endLine == pos.line) = true := by rfl) :
    EvP prog w k env h (.Call (.Attribute o name apos) [e] [] pos) P := fun A s E Q rm hx hq => by
  refine wpAny_Call_method hbase (by rw [hst]; rfl) hline pa slot hty (ho A s E _ rm hx fun v h1 t1 e1 p1 => ?_)
  obtain ⟨q1, q2⟩ := hT v { s with heap := h1, toks := t1 } p1
  refine ⟨q1, q2, ?_⟩
  refine callWith_method1 ?_ hst
  refine args_cons (he A _ E _ rm (hx.trans e1) fun u h2 t2 e2 p2 => args_nil ?_) hst
  exact hc A _ _ E Q rm ((hx.trans e1).trans e2) ⟨v, u, rfl, m1 _ _ _ e2 p1, p2⟩ fun v h3 t3 e3 p3 => hq v h3 t3 ((e1.trans e2).trans e3) p3
theorem lst_type {ps : List Pr} {v : Value} {s : Shared} (x : LstOf ps v s.heap) : s.TypeIs v "list" ∧ ∀ a, v = .ref a → ∃ ob, s.heap.get? a = some ob ∧ ob.dict = none := by
  obtain ⟨D, ys, rfl, hD, _⟩ := x
  obtain ⟨n, hD⟩ := hD
  exact ⟨⟨_, hD, rfl⟩, fun a e => by cases e; exact ⟨_, hD, rfl⟩⟩
theorem lst_mono {ps : List Pr} : ∀ v h h', Ext h h' → LstOf ps v h → LstOf ps v h' := fun v h h' e x => LstOf.st v h h' e.pres x
theorem fn_index {ds : List PyData} {d dj : PyData} {j : Nat} (hj : ds[j]? = some dj) (he : PyData.eqv dj d = true) (hno : ∀ m dm, m < j → ds[m]? = some dm → PyData.eqv dm d = false) (hd : d.depth ≤ 64) (hsm : ds.length < 2 ^ 60) :
    FnP prog w k h (.builtin "list.index") (fun vs h' => ∃ a b, vs = [a, b] ∧ LstOf (ds.map prD) a h' ∧ IsD d b h') (IsD (.int j)) := fun A s vs E Q rm hx pa hq => by
  obtain ⟨a, b, rfl, p1, p2⟩ := pa
  have hr := LstOf.rd p1
  obtain ⟨D, ys, rfl, ⟨n, hD⟩, hy⟩ := p1
  obtain ⟨l, vs, e, ⟨o, q1, q2, n', q3⟩, hra⟩ := Rd.inv_list hr
  cases e
  rw [hD] at q1; cases q1; cases q3
  obtain ⟨⟨as, ra⟩, ca⟩ := hra
  obtain ⟨⟨bs, rb⟩, cb⟩ := p2
  have hlen : ys.size = ds.length := by simpa using ReadsAll.length _ _ _ ra
  have hget : ∀ (m : Nat) (hm : m < ys.size) (dm : PyData), ds[m]? = some dm → PyData.eqv (readOf s.heap ys[m]) d = PyData.eqv dm d := fun m hm dm hdm => by
    have : RdAll s.heap ys.toList ds := ⟨⟨as, ra⟩, ca⟩
    obtain ⟨v, e1, ⟨as', r'⟩, c'⟩ := this.get hdm
    have e2 : ys[m] = v := by
      have : ys.toList[m]? = some ys[m] := by simp [hm]
      rw [this] at e1; exact Option.some.inj e1
    rw [e2, readOf_eq c' r']
  have hjlt : j < ds.length := by
    rcases Nat.lt_or_ge j ds.length with q | q
    · exact q
    · rw [List.getElem?_eq_none q] at hj; cases hj
  refine call_meets F.slot_list_index ⟨_, hD, rfl⟩ F.entry_list_index (F.args_list_index_2 _ _)
    (list_indexAt D ys n none #[] b (fun y => PyData.eqv (readOf s.heap y) d) j (by omega) (by omega) ?_ fun m hm hmj => ?_) ⟨hD, ?_, ?_⟩
  · rw [hget j (by omega) dj hj]; exact he
  · have hm' : m < ds.length := by omega
    rw [hget m hm ds[m] (by simp [hm'])]
    exact hno m _ hmj (by simp [hm'])
  · exact items_eqAt ra rb ca cb (by have := rm.cl; omega)
  · exact hq _ _ _ (.refl _) Rd.int
theorem fn_tuple {ds : List PyData} (hsz : ds.length ≤ sizeLine) : FnP prog w k h (.type "tuple") (fun vs h' => RdAll h' vs [.list ds]) (IsD (.tuple ds)) := fun A s vs E Q rm hx pa hq => by
  obtain ⟨v, _, rfl, hv, hr⟩ := pa.inv_cons
  rw [hr.inv_nil]
  obtain ⟨a, vs, rfl, hl, hr⟩ := hv.inv_list
  have e : vs.size = ds.length := by simpa using hr.length
  refine call_tuple_list hl (fun h' hk => ?_) (by omega)
  exact hq _ _ _ (Ext.trans hk (Ext.push _ _)) (Rd.tuple ⟨_, Heap.get?_push_size _ rfl, rfl, _, rfl⟩ (hr.ext (Ext.trans hk (Ext.push _ _))))
theorem fn_tupleP {a : Addr} {ys : Array Value} (hsz : ys.size ≤ sizeLine) : FnP prog w k h (.type "tuple") (fun vs h' => vs = [.ref a] ∧ h'.IsList a ys) (fun v h' => ∃ b, v = .ref b ∧ h'.get? b = some { cls := .type "tuple", data := .seq ys }) := fun A s vs E Q rm hx pa hq => by
  obtain ⟨rfl, hl⟩ := pa
  refine call_tuple_list hl (fun h' hk => ?_) hsz
  exact hq _ _ _ (Ext.trans hk (Ext.push _ _)) ⟨_, rfl, Heap.get?_push_size _ rfl⟩
/-- xs.append(e), a statement -/
theorem wp_append {A : Around} {s : Shared} {E : Value → Shared → Prop} {Q : Flow → Shared → Prop} {x : Str} {e : Expr} {px apos pos spos : Pos} {rest : List Stmt} {P : Value → Heap → Prop} {D : Addr} {ys : Array Value}
    (rm : Room k A) (hk : env.scope.kind = .function) (hx : Has prog w s.heap env x (.ref D)) (hD : s.heap.PlainList D ys) (he : EvP prog w k env s.heap e P) (hsz : ys.size ≤ sizeLine)
    (h : ∀ y h1 h2 tk, Ext s.heap h1 → P y h1 → h2.PlainList D (ys.push y) → Heap.SameBut D h1 h2 → wpAny (model prog w) A (execs rest env) Q E { s with heap := h2, toks := tk })
    (hst : starEach [e] env = [(false, eval e env)] := by rfl) (hline : (apos.endLine == pos.line) = true := by rfl) (hd : (x == ("__debug__" : Str)) = false := by decide) :
    wpAny (model prog w) A (execs (.Expr (.Call (.Attribute (.Name x px) "append" apos) [e] [] pos) spos :: rest) env) Q E s := by
  refine wpAny_execs_cons (wpAny_Expr (wpAny_Call_method rfl (by rw [hst]; rfl) hline F.plainAttrs_list F.slot_list_append F.type_list_append (wpAny_Name (hx A s E _ (.refl _) ?_) hd)) (by unfold interactive; rw [hk]; rfl) rfl)
  obtain ⟨n, hD'⟩ := id hD
  refine ⟨⟨_, hD', rfl⟩, fun a e => by cases e; exact ⟨_, hD', rfl⟩, callWith_method1 (args_cons (he A s E _ rm (.refl _) fun y h1 t1 e1 p1 => args_nil ?_) hst) hst⟩
  refine wpAny_list_append_plain (s := { s with heap := h1, toks := t1 }) (hsz := hsz) ⟨n, e1 _ _ hD'⟩ fun h2 l2 s2 => ?_
  exact h y h1 h2 t1 e1 p1 l2 s2
end
end Mine

end

section
open PySem PySem.W PyProof.Rows PySem.SeqAt
set_option Elab.async false
set_option linter.all false
set_option autoImplicit false
namespace Mine
abbrev Pt := Int × Int
noncomputable def ptD (p : Pt) : PyData := pt p.1 p.2
noncomputable def zP : Pt := (0, 0)
noncomputable def at_ (P : List Pt) (i : Nat) : Pt := P.getD i zP
noncomputable def kindsOf (P : List Pt) : List Pt := ((List.range P.length).filter fun i => decide (at_ P i ≠ zP) && !decide (at_ P i ∈ P.take i)).map (at_ P)
noncomputable def minI (l : List Int) : Int := l.min?.getD 0
noncomputable def headsOf (P : List Pt) : List Pt := (kindsOf P).filter fun one => decide (minI ((kindsOf P).map (lft one)) = 0)
noncomputable def nxt (P : List Pt) (i : Nat) : Nat := ((List.range P.length).filter fun j => decide (0 < lft (at_ P i) (at_ P j))).headD 0
noncomputable def ringW (nx : Nat → Nat) : Nat → List Nat → Nat → List Nat
  | 0, init, last => init.drop (init.idxOf last) ++ [last]
  | f + 1, init, last => if last ∈ init then init.drop (init.idxOf last) ++ [last] else ringW nx f (init ++ [last]) (nx last)
noncomputable def startOf (P : List Pt) : Nat := P.idxOf ((kindsOf P).headD zP)
noncomputable def ringOf (P : List Pt) : List Nat := ringW (nxt P) (P.length + 1) [] (startOf P)
noncomputable def ringD (P : List Pt) : PyData := if headsOf P = [] then .list ((ringOf P).map fun i => .int (i : Nat)) else .none
noncomputable def rankOf (P : List Pt) (p : Pt) : Int :=
  if p = zP ∨ p ∈ headsOf P then 0 else if headsOf P = [] then -1 else (((kindsOf P).filter fun one => decide (one ∈ headsOf P) || decide (0 < lft one p)).length : Nat)
noncomputable def maxI (l : List Int) : Int := l.max?.getD 0
noncomputable def roundsN (P : List Pt) : Nat := (maxI (P.map (rankOf P)) + 1).toNat
noncomputable def roundOf (P : List Pt) (r : Nat) : List Nat := (List.range P.length).filter fun j => decide (rankOf P (at_ P j) = (r : Int))
noncomputable def roundsD (P : List Pt) : PyData := .list ((List.range (roundsN P)).map fun r => .tuple ((roundOf P r).map fun j => .int (j : Nat)))
noncomputable def dueD' (P : List Pt) : PyData := .tuple [ringD P, roundsD P]

theorem min_spec {l : List Int} (h : l ≠ []) : minI l ∈ l ∧ ∀ a ∈ l, minI l ≤ a := by
  cases hm : l.min? with
  | none => exact absurd (List.min?_eq_none_iff.mp hm) h
  | some m =>
    have := List.min?_eq_some_iff.mp hm
    simp only [minI, hm, Option.getD_some]; exact this
theorem max_spec {l : List Int} (h : l ≠ []) : maxI l ∈ l ∧ ∀ a ∈ l, a ≤ maxI l := by
  cases hm : l.max? with
  | none => exact absurd (List.max?_eq_none_iff.mp hm) h
  | some m =>
    have := List.max?_eq_some_iff.mp hm
    simp only [maxI, hm, Option.getD_some]; exact this
theorem eqv_ptD (p q : Pt) : PyData.eqv (ptD p) (ptD q) = decide (p = q) := by
  rw [ptD, ptD, eqv_pt]
  rw [decide_eq_decide]
  exact ⟨fun ⟨a, b⟩ => Prod.ext a b, fun e => by rw [e]; exact ⟨rfl, rfl⟩⟩
theorem any_ptD (P : List Pt) (p : Pt) : (P.map ptD).any (fun y => PyData.eqv y (ptD p)) = decide (p ∈ P) := by
  rw [List.any_map]
  rw [Bool.eq_iff_iff]
  simp only [List.any_eq_true, decide_eq_true_eq, Function.comp]
  constructor
  · rintro ⟨x, hx, e⟩
    rw [eqv_ptD] at e; rw [← of_decide_eq_true e]; exact hx
  · intro hp
    exact ⟨p, hp, by rw [eqv_ptD]; simp⟩
theorem depth_ptD (p : Pt) : (ptD p).depth ≤ 64 := by simp [ptD, pt, PyData.depth, PyData.depthAll]
theorem at_get {P : List Pt} {i : Nat} (h : i < P.length) : P[i]? = some (at_ P i) := by
  rw [at_, List.getD_eq_getElem?_getD, List.getElem?_eq_getElem h]; rfl
theorem at_mem {P : List Pt} {i : Nat} (h : i < P.length) : at_ P i ∈ P := List.mem_of_getElem? (at_get h)
theorem kinds_sub {P : List Pt} {p : Pt} (h : p ∈ kindsOf P) : p ∈ P ∧ p ≠ zP := by
  obtain ⟨i, hi, rfl⟩ := List.mem_map.mp h
  rw [List.mem_filter] at hi
  have := List.mem_range.mp hi.1
  refine ⟨at_mem this, ?_⟩
  have := hi.2
  simp at this; exact this.1
theorem depth_pts (l : List Pt) : (PyData.list (l.map ptD)).depth ≤ 64 := by
  have : ∀ l : List Pt, PyData.depthAll (l.map ptD) ≤ 1 := by
    intro l
    induction l with
    | nil => simp [PyData.depthAll]
    | cons p l ih => simp only [List.map_cons, PyData.depthAll]; have : (ptD p).depth = 1 := by simp [ptD, pt, PyData.depth, PyData.depthAll]
                     omega
  have := this l
  simp only [PyData.depth]; omega
theorem eqv_nil_pts (l : List Pt) : PyData.eqv (.list (l.map ptD)) (.list []) = decide (l = []) := by
  cases l <;> simp [PyData.eqv, PyData.eqvAll]

theorem idxOf_get {α : Type} [BEq α] [LawfulBEq α] {l : List α} {x : α} (h : x ∈ l) : l[l.idxOf x]? = some x := by
  have := List.idxOf_lt_length_iff.mpr h
  rw [List.getElem?_eq_getElem this, List.getElem_idxOf this]
theorem idxOf_first {α : Type} [BEq α] [LawfulBEq α] {x : α} : ∀ {l : List α} {m : Nat} {y : α}, m < l.idxOf x → l[m]? = some y → y ≠ x
  | [], m, y, _, e => by simp at e
  | a :: l, 0, y, h, e => by
    simp at e; subst e
    rintro rfl
    simp [List.idxOf_cons] at h
  | a :: l, m + 1, y, h, e => by
    simp at e
    rw [List.idxOf_cons] at h
    by_cases q : (a == x) = true
    · rw [q] at h; simp at h
    · simp only [q] at h
      exact idxOf_first (l := l) (m := m) (Nat.lt_of_succ_lt_succ h) e
theorem any_natD (l : List Nat) (x : Nat) : (l.map fun i => PyData.int (i : Nat)).any (fun y => PyData.eqv y (.int (x : Nat))) = decide (x ∈ l) := by
  rw [List.any_map, Bool.eq_iff_iff]
  simp only [List.any_eq_true, decide_eq_true_eq, Function.comp, PyData.eqv, beq_iff_eq]
  constructor
  · rintro ⟨y, hy, e⟩
    have : y = x := by omega
    rw [← this]; exact hy
  · intro hx; exact ⟨x, hx, rfl⟩
theorem nodup_bound {l : List Nat} {n : Nat} (h : l.Nodup) (hb : ∀ i ∈ l, i < n) : l.length ≤ n := by
  have := h.length_le_of_subset (l₂ := List.range n) fun i hi => List.mem_range.mpr (hb i hi)
  simpa using this
noncomputable def nI (l : List Nat) : List Int := l.map fun i : Nat => (i : Int)
noncomputable def nD (l : List Nat) : List PyData := l.map fun i : Nat => PyData.int (i : Int)
theorem nD_eq (l : List Nat) : (nI l).map .int = nD l := by simp [nI, nD, List.map_map, Function.comp]
theorem nat_snoc {vs : List Value} {l : List Nat} {i : Nat} {t : Tok} (x : IntsAre vs (nI l)) : IntsAre (vs ++ [.int (i : Nat) t]) (nI (l ++ [i])) := by
  rw [nI, List.map_append]; exact x.append (.cons _ t .nil)
theorem Ts.run {prog : Program} {w : World} {k : Nat} {env : Env} {A : Around} {s : Shared} {E : Value → Shared → Prop} {Q : Bool → Shared → Prop} {e : Expr} {b : Bool} (x : Ts prog w k env s.heap e b) (rm : Room k A)
    (hq : ∀ h' tk, Ext s.heap h' → Q b { s with heap := h', toks := tk }) : wpAny (model prog w) A (isTrue e env (eval e env)) Q E s := x A s E Q rm (.refl _) hq
theorem nxt_spec {P : List Pt} {i : Nat} (h : ∃ j, j < P.length ∧ 0 < lft (at_ P i) (at_ P j)) : nxt P i < P.length ∧ 0 < lft (at_ P i) (at_ P (nxt P i)) ∧
    ((List.range P.length).filter fun j => decide (0 < lft (at_ P i) (at_ P j)))[0]? = some (nxt P i) := by
  have hne : ((List.range P.length).filter fun j => decide (0 < lft (at_ P i) (at_ P j))) ≠ [] := by
    obtain ⟨j, h1, h2⟩ := h
    intro q
    have : j ∈ ((List.range P.length).filter fun j => decide (0 < lft (at_ P i) (at_ P j))) := List.mem_filter.mpr ⟨List.mem_range.mpr h1, by simpa using h2⟩
    rw [q] at this; cases this
  obtain ⟨a, r, e⟩ := List.exists_cons_of_ne_nil hne
  have hm : a ∈ ((List.range P.length).filter fun j => decide (0 < lft (at_ P i) (at_ P j))) := by rw [e]; exact List.mem_cons_self
  have hn : nxt P i = a := by rw [nxt, e]; rfl
  rw [List.mem_filter] at hm
  rw [hn, e]
  exact ⟨List.mem_range.mp hm.1, by simpa using hm.2, rfl⟩
theorem lft_zero (a : Pt) : lft a zP = 0 := by simp [lft, zP]

section
variable {w : World} {h : Heap} {G : List (Str × Value)}
theorem ev_len {prog : Program} {k : Nat} {env : Env} {α : Type} {xs : List α} {f : α → PyData} {x : Expr} {p1 p2 : Pos} (hb : Has prog w h env "len" (.builtin "len")) (hx : EvD prog w k env h x (.list (xs.map f))) (hn : xs.length < 2 ^ 60)
    (he : starEach [x] env = [(false, eval x env)] := by rfl) : EvD prog w k env h (.Call (.Name "len" p1) [x] [] p2) (.int (xs.length : Nat)) := by
  have := ev_call_builtin (prog := prog) (w := w) (k := k) (px := p1) (pos := p2) hb (eva_cons hx eva_nil he) (fn_len (by simp; omega)) he
  rw [List.length_map] at this; exact this
theorem ev_range {prog : Program} {k : Nat} {env : Env} {n : Nat} {x : Expr} {p1 p2 : Pos} (hb : Has prog w h env "range" (.type "range")) (hx : EvD prog w k env h x (.int (n : Nat)))
    (he : starEach [x] env = [(false, eval x env)] := by rfl) : EvP prog w k env h (.Call (.Name "range" p1) [x] [] p2) (IsRng n) :=
  ev_call_type hb (eva_cons hx eva_nil he) fn_range he

/-- as has_cap, the environment taken from a name that is known -/
theorem has_capV {prog : Program} {env : Env} {scope : Scope} {C n c : Addr} {x y : Str} {vx v : Value} (hv : Has prog w h (cEnv scope (capL scope env) C n env) x vx) (hl : scope.names.lookup y = some .free)
    (hno : scope.names.all (fun p => !(p.1 == y && p.2 == .cell)) = true) (hk : scope.kind = .function) (hc : env.cells.lookup y = some c) (hv : h.IsCell c (some v)) (hn : (y == ("__classdict__" : Str)) = false := by decide) :
    Has prog w h (cEnv scope (capL scope env) C n env) y v := has_cap hl hno hk hc hv hn

theorem Fm.chgV {env : Env} {h0 h h' : Heap} {ρ : Locs} {S : Addr → Prop} (F : Fm h0 h env ρ) (hpin : ∀ x p, ρ.lookup x = some p → ∃ u, p = prV u) (hc : Chg S h h') (hS : ∀ b, S b → Off env b) (hS0 : ∀ b, S b → h0.get? b = none) : Fm h0 h' env ρ :=
  F.chg hc hS hS0 fun x p e v y => by obtain ⟨u, rfl⟩ := hpin x p e; exact y
theorem pinned {vs : Str → Value} {ρ : Locs} : ∀ x p, (pinL vs ρ).lookup x = some p → ∃ u, p = prV u := fun x p e => by
  rw [pinL_lookup] at e
  cases hx : ρ.lookup x with
  | none => rw [hx] at e; cases e
  | some q => rw [hx] at e; cases e; exact ⟨_, rfl⟩
theorem pinned1 {vs : Str → Value} {ρ : Locs} {y : Str} {a : Value} : ∀ x p, ((y, prV a) :: pinL vs ρ).lookup x = some p → ∃ u, p = prV u := fun x p e => by
  rw [lk_cons] at e
  by_cases q : x = y
  · simp only [q, if_true] at e; cases e; exact ⟨_, rfl⟩
  · simp only [q, if_false] at e; exact pinned x p e
theorem ints_snoc {vs : List Value} {ns : List Int} {i : Int} {t : Tok} (x : IntsAre vs ns) : IntsAre (vs ++ [.int i t]) (ns ++ [i]) := x.append (.cons i t .nil)

theorem cap_cells {env : Env} {scope : Scope} {C n c : Addr} {y : Str} (hl : scope.names.lookup y = some .free) (hno : scope.names.all (fun p => !(p.1 == y && p.2 == .cell)) = true) (hc : env.cells.lookup y = some c) :
    (cEnv scope (capL scope env) C n env).cells.lookup y = some c := by
  show (cellsFrom n scope.names (capL scope env)).lookup y = some c
  rw [other_cells y _ _ _ (fun kd hm q => by have := List.all_eq_true.mp hno _ hm; rw [q] at this; simp at this), capL, closL_lookup _ y _ _ (.inl (mem_of_lookup hl)), hc]; rfl
theorem noLists_ints {α : Type} (l : List α) (f : α → Int) : noLists (l.map fun a => .int (f a)) = true := by
  induction l with
  | nil => rfl
  | cons a l ih => simp [noLists, noList, ih]

theorem sz9 {n : Nat} (h : n ≤ 9) : n ≤ sizeLine := Nat.le_trans h (by decide)
theorem szR {n : Nat} (h : n ≤ 9) : (List.range n).length ≤ sizeLine := by rw [List.length_range]; exact sz9 h
theorem ix63 {i n : Nat} (h : i < n) (hn : n ≤ 9) : ((i : Nat) : Int) < 2 ^ 63 := by omega
theorem due_ok {a al : Addr} (X : FnAt h a "_law_due" (defParams dueD) (defBody dueD) (defScope dueD)) (g : Glo G h) (XL : FnAt h al "_law_left" (defParams leftD) (defBody leftD) (defScope leftD))
    (gl : G.lookup (Str.ofString "_law_left") = some (.ref al)) (P : List Pt) (hn : P.length ≤ 9) (hbd : ∀ p ∈ P, p.1.natAbs < 2 ^ 60 ∧ p.2.natAbs < 2 ^ 60) (hk0 : kindsOf P ≠ [])
    (hsucc : headsOf P = [] → ∀ i, i < P.length → at_ P i ≠ zP → ∃ j, j < P.length ∧ 0 < lft (at_ P i) (at_ P j)) :
    FnP pw w 2 h (.ref a) (PAll [prL (P.map fun p => prD (ptD p))]) (IsD (dueD' P)) := by
  refine fn_own (k := 1) (xs := ["points"]) X g.lim rfl (fun fd vs e e1 e2 hl => ?_) (by decide) (by decide) rfl rfl rfl fun env h0 hx hs hg hb => ?_
  · obtain ⟨_, _, _, _, _, _, _, _, _, _, _, _, _, _, _⟩ := fd
    dsimp only at e e1 e2; subst e e1 e2
    match vs, hl with
    | [v1], _ => rfl
  have kd : ∀ x, env.kindOf x = (defScope dueD).names.lookup x := fun x => by rw [Env.kindOf, hs]
  have g' := g.ext hx
  have hP60 : P.length < 2 ^ 60 := by omega
  intro A s E Q rm F hq
  -- kinds
  have hc1 := F.cel "points" (kd _)
  obtain ⟨cp, ov, hcp1, hcp2, _, hcp4⟩ := hc1
  obtain ⟨vp, rfl, hvp⟩ := hcp4 _ rfl
  refine wp_assign_comp (xs := List.range P.length) (sp := fun i => prD (.int (i : Nat))) (q := fun i => decide (at_ P i ≠ zP) && !decide (at_ P i ∈ P.take i)) (g := fun i => prD (ptD (at_ P i))) rm F (PI := IsRng P.length)
    (ev_range (has_b (g'.ext F.base) (by decide) boot_range F.kind (kd _) hg hb) (ev_len (has_b (g'.ext F.base) (by decide) boot_len F.kind (kd _) hg hb) (ev_varL F rfl) hP60))
    (src_range hP60) (safeX fun _ => rfl) (szR hn) (frees ["points"] rfl (fun y hy => by rw [List.mem_singleton.mp hy, hcp1]; rfl)) rfl (by decide) (.inl rfl)
    (fun i hi v C c0 h2 e p hv hcv => ts_one ?_) (fun i hi v C c0 h2 _ e p hv hcv => ?_) (.inr (kd _)) ⟨_, rfl⟩ fun h1 t1 F1 _ _ => ?_
  · have hi := List.mem_range.mp hi
    have vpts := fun pos => ev_itemI (k := 1) (x := "points") (pos := pos) (has_capV (y := "points") hv rfl rfl rfl hcp1 (hcp2.keeps e)) (Rd.ext (prL_rd hvp) e)
    have hd : (P.map ptD)[((i : Nat) : Int).toNat]? = some (ptD (at_ P i)) := by simp [at_get hi]
    refine ts_and (ts_cmp (ev_item (vpts _) (ev_itemI hv p) (Int.natCast_nonneg _) (ix63 hi hn) hd) (ev_tuple (eva_cons ev_int (eva_cons ev_int eva_nil))) isD_mono ?_) fun _ => ?_
    · have := cmp_neD (prog := pw) (w := w) (k := 1) (h := h2) (a := ptD (at_ P i)) (b := pt 0 0) (depth_ptD _) (depth_ptD (0, 0))
      rw [show pt 0 0 = ptD zP from rfl, eqv_ptD, show (!decide (at_ P i = zP)) = decide (at_ P i ≠ zP) by simp] at this
      exact this
    · refine ts_cmp (ev_item (vpts _) (ev_itemI hv p) (Int.natCast_nonneg _) (ix63 hi hn) hd) (ev_uptoX (vpts _) (ev_itemI hv p) (by simp [sizeLine]; omega)) isD_mono ?_
      have := cmp_notInD (prog := pw) (w := w) (k := 1) (h := h2) (x := ptD (at_ P i)) (xs := (P.take i).map ptD) (depth_ptD _)
      rw [any_ptD] at this
      exact this
  · have hi := List.mem_range.mp hi
    have vpts := fun pos => ev_itemI (k := 1) (x := "points") (pos := pos) (has_capV (y := "points") hv rfl rfl rfl hcp1 (hcp2.keeps e)) (Rd.ext (prL_rd hvp) e)
    exact ev_item (vpts _) (ev_itemI hv p) (Int.natCast_nonneg _) (ix63 hi hn) (by simp [at_get hi])
  have ek : ((List.range P.length).filter (fun i => decide (at_ P i ≠ zP) && !decide (at_ P i ∈ P.take i))).map (fun i => prD (ptD (at_ P i))) = (kindsOf P).map fun p => prD (ptD p) := by rw [kindsOf, List.map_map]; rfl
  rw [ek] at F1
  have klen : (kindsOf P).length ≤ 9 := by
    have : ((List.range P.length).filter fun i => decide (at_ P i ≠ zP) && !decide (at_ P i ∈ P.take i)).length ≤ (List.range P.length).length := List.length_filter_le _ _
    simp only [kindsOf, List.length_map, List.length_range] at this ⊢; omega
  have lf : ∀ (h2 : Heap) (o q : Pt), Ext h h2 → o ∈ P → FnP pw w 1 h2 (.ref al) (PAll [prD (ptD o), prD (ptD q)]) (IsD (.int (lft o q))) := fun h2 o q e ho => left_ok (XL.ext e) (g.ext e).lim (hbd o ho).1 (hbd o ho).2
  -- heads
  have hc2 := F1.cel "kinds" (kd _)
  obtain ⟨ck, ov, hck1, hck2, _, hck4⟩ := hc2
  obtain ⟨vk, rfl, hvk⟩ := hck4 _ rfl
  refine wp_assign_comp (xs := kindsOf P) (sp := fun p => prD (ptD p)) (q := fun one => decide (minI ((kindsOf P).map (lft one)) = 0)) (g := fun p => prD (ptD p)) rm F1 (PI := IsD (.list ((kindsOf P).map ptD)))
    (ev_varL F1 rfl) src_listX (safeX fun _ => rfl) (sz9 klen) (frees ["kinds"] rfl (fun y hy => by rw [List.mem_singleton.mp hy, hck1]; rfl)) rfl (by decide) (.inr rfl)
    (fun one hone v C c0 h2 e p hv hcv => ts_one ?_) (fun i hi v C c0 h2 _ e p hv hcv => ev_itemI hv p) (.inr (kd _)) ⟨_, rfl⟩ fun h3 t3 F3 _ _ => ?_
  · have he2 : Ext h h2 := (hx.trans F1.base).trans e
    obtain ⟨co, hco1, hco2⟩ := hcv (relabel_plain rfl (by decide))
    have hkin := has_capV (y := "kinds") hv rfl rfl rfl hck1 (hck2.keeps e)
    have hne : (kindsOf P).map (lft one) ≠ [] := by intro q; have := List.map_eq_nil_iff.mp q; rw [this] at hone; cases hone
    refine ts_cmp (ev_call_builtin (has_bC (g.ext he2) (by decide) boot_min rfl rfl hg hb) (eva_cons (d := .list (((kindsOf P).map (lft one)).map .int)) ?_ eva_nil) (fn_min (min_spec hne).1 (min_spec hne).2)) ev_int isD_mono cmp_eqI
    rw [List.map_map]
    refine ev_mapD (xs := kindsOf P) (sp := fun p => prD (ptD p)) (f := fun q => .int (lft one q)) (ev_itemI hkin (Rd.ext (prL_rd hvk) e)) src_listX (safeX fun _ => rfl) (sz9 klen)
      (frees ["one"] rfl (fun y hy => by rw [List.mem_singleton.mp hy, hco1]; rfl)) rfl (by decide) (.inl rfl) (fun q hq v2 C2 c2 h5 e5 p5 hv5 hcv5 => ?_)
    have he5 : Ext h h5 := he2.trans e5
    exact ev_call_own (has_gC (g.ext he5) gl rfl rfl hg) (XL.ext he5).fn.choose_spec.choose_spec.1 (XL.ext he5).fn.choose_spec.choose_spec.2.1
      (eva_pall (eva_cons (ev_itemI (has_cap rfl rfl rfl hco1 (hco2.keeps e5)) (Rd.ext p e5)) (eva_cons (ev_itemI hv5 p5) eva_nil))) (lf h5 one q he5 (kinds_sub hone).1)
  change Fm h0 h3 env ((_, prL ((headsOf P).map fun p => prD (ptD p))) :: _) at F3
  have hlen : (headsOf P).length ≤ 9 := by
    have : (headsOf P).length ≤ (kindsOf P).length := List.length_filter_le _ _
    exact Nat.le_trans this klen
  have vH : ∀ (h : Heap) (ρ : Locs) (p : Pos), Fm h0 h env ρ → ρ.lookup (Str.ofString "heads") = some (prL ((headsOf P).map fun p => prD (ptD p))) → EvD pw w 1 env h (.Name "heads" p) (.list ((headsOf P).map ptD)) := fun h ρ p F e => ev_varL F e
  -- ring
  refine wp_assign (p := prD .none) rm F3 ev_none (.inl (kd _)) fun h4 t4 F4 _ _ => ?_
  -- what follows
  have rest : ∀ (ss : List Stmt) (hss : ss = (defBody dueD).drop 4) (h : Heap) (tk : Nat), Fm h0 h env [(Str.ofString "ring", prD (ringD P)), (Str.ofString "heads", prL ((headsOf P).map fun p => prD (ptD p))), (Str.ofString "kinds", prL ((kindsOf P).map fun p => prD (ptD p))), (Str.ofString "points", prL (P.map fun p => prD (ptD p)))] →
      wpAny (model pw w) A (execs ss env) Q E { s with heap := h, toks := tk } := by
    intro ss hss hB tkB FB
    subst hss
    obtain ⟨vs, FP, hvs⟩ := FB.pin
    obtain ⟨ap, vsP, hap, hlP, hrP⟩ : ∃ ap vsP, vs (Str.ofString "points") = .ref ap ∧ hB.PlainList ap vsP ∧ PAll (P.map fun p => prD (ptD p)) vsP.toList hB := by
      obtain ⟨D, ys, q1, q2, q3⟩ := hvs (Str.ofString "points") _ rfl
      exact ⟨D, ys, q1, q2, q3⟩
    have hszP : vsP.size = P.length := by have := hrP.length; simpa using this
    -- ranks
    refine wp_assign_new (ps := []) rm FP evp_pnil (.inr (kd _)) fun D ys h1 t1 F1 hD hys hDn pr1 off1 => ?_
    have hys0 : ys.toList = [] := by
      cases q : ys.toList with
      | nil => rfl
      | cons _ _ => rw [q] at hys; exact hys.elim
    have hD0 : h0.get? D = none := by
      cases q : h0.get? D with
      | none => rfl
      | some o => have := FB.base _ _ q; rw [hDn] at this; cases this
    have hDap : D ≠ ap := by
      rintro rfl
      obtain ⟨n, hl⟩ := hlP
      rw [hl] at hDn; cases hDn
    refine wp_for (PI := fun v _ => v = .ref ap) (n := vsP.size) (I := fun i v => vsP[i]? = some v) (Z := fun b => b = ap) rm ((ev_var F1 rfl).mono fun v h' _ (q : v = vs (Str.ofString "points")) => by rw [q, hap])
      (hit_list rm (by obtain ⟨n, hl⟩ := hlP; exact ⟨_, pr1 _ _ rfl hl, rfl, n, rfl⟩))
      (fun It i h => ∃ ys : Array Value, Fm h0 h env ((Str.ofString "ranks", prV (.ref D)) :: pinL vs [(Str.ofString "ring", prD (ringD P)), (Str.ofString "heads", prL ((headsOf P).map fun p => prD (ptD p))), (Str.ofString "kinds", prL ((kindsOf P).map fun p => prD (ptD p))), (Str.ofString "points", prL (P.map fun p => prD (ptD p)))]) ∧
        Pres hB h ∧ h.PlainList D ys ∧ IntsAre ys.toList ((P.take i).map (rankOf P)) ∧ Off env It ∧ h0.get? It = none ∧ It ≠ D ∧ hB.get? It = none) ?_ ?_ ?_ ?_
    · intro It h' e hIt
      have offIt := F1.off_new hIt
      refine ⟨ys, F1.ext e, pr1.trans e.pres, hD.at fun o q => e _ _ q, by rw [hys0]; exact .nil, offIt, ?_, ?_, ?_⟩
      · cases q : h0.get? It with
        | none => rfl
        | some o => have := F1.base _ _ q; rw [hIt] at this; cases this
      · rintro rfl
        obtain ⟨n, hl⟩ := hD
        rw [hl] at hIt; cases hIt
      · cases q : hB.get? It with
        | none => rfl
        | some o => have := off1 _ _ offIt.l offIt.c q; rw [hIt] at this; cases this
    · rintro It i h h' ⟨zs, FJ, prJ, hDJ, hI, o1, o2, o3, o4⟩ hk
      refine ⟨zs, FJ.chgV (S := fun b => b = It) pinned1 (fun b o n e => hk b o n e) (fun b q => q ▸ o1) (fun b q => q ▸ o2), fun b o hb e => hk b o (fun q => by rw [q, o4] at e; cases e) (prJ b o hb e), hDJ.at fun o e => hk _ o (Ne.symm o3) e, hI, o1, o2, o3, o4⟩
    · rintro It i v h2 t2 E' Q' hi ⟨zs, FJ, prJ, hDJ, hI, o1, o2, o3, o4⟩ hv hIt _ hQ'
      have hiP : i < P.length := by omega
      -- the item
      have hpv : Rd h2 v (ptD (at_ P i)) := by
        obtain ⟨p, q1, q2⟩ := hrP.get (i := i) (v := v) (by simpa using hv)
        rw [List.getElem?_map, at_get hiP] at q1
        cases q1
        exact Rd.pres q2 prJ
      refine wpAny_assign_Name (Fm.store (p := prD (ptD (at_ P i))) FJ (.inr (kd _)) hpv fun h3 t3 F3 pr3 off3 => ?_)
      have pr3' := prJ.trans pr3
      have FU := Fm.unpin (ρ' := [(Str.ofString "point", prD (ptD (at_ P i))), (Str.ofString "ranks", prV (.ref D))]) F3 (fun x p e => p.st _ _ _ pr3' (hvs x p e))
      have hD3 : h3.PlainList D zs := by obtain ⟨n, hl⟩ := hDJ; exact ⟨n, pr3 _ _ rfl hl⟩
      have offD : Off env D := by obtain ⟨n, hl⟩ := hDJ; exact FJ.off_seq hl rfl
      have hzs : zs.size ≤ sizeLine := by have := hI.length; simp at this; simp [sizeLine]; omega
      have rk : (P.take (i + 1)).map (rankOf P) = (P.take i).map (rankOf P) ++ [rankOf P (at_ P i)] := by rw [List.take_add_one, at_get hiP]; simp
      -- an append ends the turn
      have app : ∀ (e : Expr) (px apos pos spos : Pos) (h4 : Heap) (t4 : Nat), Ext h3 h4 → EvD pw w 1 env h4 e (.int (rankOf P (at_ P i))) → (starEach [e] env = [(false, eval e env)]) → ((apos.endLine == pos.line) = true) →
          wpAny (model pw w) A (execs [.Expr (.Call (.Attribute (.Name "ranks" px) "append" apos) [e] [] pos) spos] env) Q' E' { s with heap := h4, toks := t4 } := by
        intro e px apos pos spos h4 t4 x4 he hst hline
        have F4 := F3.ext x4
        obtain ⟨vr, hvr, (hvr' : vr = .ref D)⟩ := F4.has (prog := pw) (w := w) (x := "ranks") rfl
        subst hvr'
        refine wp_append rm F4.kind hvr (hD3.at fun o q => x4 _ _ q) he hzs (fun y h5 h6 t6 x5 py l6 s6 => wp_nil ?_) hst hline
        obtain ⟨ty, rfl⟩ := py.inv_int
        refine hQ' _ _ _ (fun _ => ⟨⟨zs.push (.int _ ty), ?_, ?_, l6, ?_, o1, o2, o3, o4⟩, ?_⟩) (fun q => by cases q) (fun v q => by cases q)
        · have F5 := F4.ext x5
          have FW : Fm h0 h5 env ((Str.ofString "ranks", prV (.ref D)) :: pinL vs [(Str.ofString "ring", prD (ringD P)), (Str.ofString "heads", prL ((headsOf P).map fun p => prD (ptD p))), (Str.ofString "kinds", prL ((kindsOf P).map fun p => prD (ptD p))), (Str.ofString "points", prL (P.map fun p => prD (ptD p)))]) := by
            refine F5.weaken fun x p hp => ?_
            refine ⟨p, ?_, fun _ y => y⟩
            rw [lk_cons]
            by_cases q : x = Str.ofString "point"
            · subst q; exact absurd hp (by rw [lk_cons, pinL_lookup]; exact fun z => by cases z)
            · rw [if_neg q]; exact hp
          exact FW.chgV (S := fun b => b = D) pinned1 (Chg.one s6) (fun b q => q ▸ offD) (fun b q => q ▸ hD0)
        · intro b o hb q
          refine (s6.2 b fun z => ?_).trans (x5 _ _ (x4 _ _ (pr3' b o hb q)))
          rw [z, hDn] at q; cases q
        · rw [Array.toList_push, rk]; exact ints_snoc hI
        · intro b o hb q
          rcases hb with rfl | rfl
          · refine (s6.2 b o3).trans (x5 _ _ (x4 _ _ (off3 _ _ o1.l o1.c q)))
          · refine (s6.2 b (Ne.symm hDap)).trans (x5 _ _ (x4 _ _ ?_))
            obtain ⟨n, hl⟩ := hlP
            have e1 := prJ _ _ rfl hl
            rw [e1] at q; cases q
            exact pr3 _ _ rfl e1
      have vpt : ∀ (h4 : Heap) (p : Pos), Ext h3 h4 → EvD pw w 1 env h4 (.Name "point" p) (ptD (at_ P i)) := fun h4 p x => ev_varD (FU.ext x) rfl
      have zz : ∀ (h4 : Heap), Cmp (prog := pw) (w := w) 1 .Eq h4 (IsD (ptD (at_ P i))) (IsD (.tuple [.int 0, .int 0])) (decide (at_ P i = zP)) := fun h4 => by
        have := cmp_eqD (prog := pw) (w := w) (k := 1) (h := h4) (a := ptD (at_ P i)) (b := ptD zP) (depth_ptD _) (depth_ptD _)
        rw [eqv_ptD] at this; exact this
      have inH : ∀ (h4 : Heap) (p : Pt), Cmp (prog := pw) (w := w) 1 .In h4 (IsD (ptD p)) (IsD (.list ((headsOf P).map ptD))) (decide (p ∈ headsOf P)) := fun h4 p => by
        have := cmp_inD (prog := pw) (w := w) (k := 1) (h := h4) (x := ptD p) (xs := (headsOf P).map ptD) (depth_ptD _)
        rw [any_ptD] at this; exact this
      have nilH : ∀ (h4 : Heap), Cmp (prog := pw) (w := w) 1 .Eq h4 (IsD (.list ((headsOf P).map ptD))) (IsD (.list [])) (decide (headsOf P = [])) := fun h4 => by
        have := cmp_eqD (prog := pw) (w := w) (k := 1) (h := h4) (a := .list ((headsOf P).map ptD)) (b := .list []) (depth_pts _) (by simp [PyData.depth, PyData.depthAll])
        rw [eqv_nil_pts] at this; exact this
      have fall : ∀ (f : Flow) (s' : Shared), Q' f s' → (match f with | .next => wpAny (model pw w) A (execs [] env) Q' E' s' | f => Q' f s') := fun f s' x => by
        cases f with
        | next => exact wp_nil x
        | brk => exact x
        | cont => exact x
        | ret v => exact x
      refine wp_if (b := decide (at_ P i = zP) || decide (at_ P i ∈ headsOf P)) rm (ts_or (ts_cmp (vpt h3 _ (.refl _)) (ev_tuple (eva_cons ev_int (eva_cons ev_int eva_nil))) isD_mono (zz h3)) fun _ => ts_cmp (vpt h3 _ (.refl _)) (vH _ _ _ FU rfl) isD_mono (inH h3 _)) (fun e h4 t4 x4 => ?_) (fun e h4 t4 x4 => ?_)
      · have r0 : rankOf P (at_ P i) = 0 := by rw [rankOf, if_pos (by simpa using e)]
        refine wpAny_mono (app _ _ _ _ _ h4 t4 x4 (by rw [r0]; exact ev_int) rfl rfl) (fun f s' x => fall f s' x) fun _ _ x => x
      · have e' : ¬ (at_ P i = zP ∨ at_ P i ∈ headsOf P) := by simpa using e
        refine wpAny_mono (Q := Q') ?_ (fun f s' x => fall f s' x) fun _ _ x => x
        have FU4 := FU.ext x4
        refine wp_if (b := decide (headsOf P = [])) rm (ts_cmp (vH _ _ _ FU4 rfl) (ev_list eva_nil) isD_mono (nilH h4)) (fun e2 h5 t5 x5 => ?_) (fun e2 h5 t5 x5 => ?_)
        · have e2 := of_decide_eq_true e2
          have r0 : rankOf P (at_ P i) = -1 := by rw [rankOf, if_neg e', if_pos e2]
          refine wpAny_mono (app _ _ _ _ _ h5 t5 (x4.trans x5) (by rw [r0]; exact ev_neg ev_int) rfl rfl) (fun f s' x => fall f s' x) fun _ _ x => x
        · have e2 := of_decide_eq_false e2
          have r0 : rankOf P (at_ P i) = (((kindsOf P).filter fun one => decide (one ∈ headsOf P) || decide (0 < lft one (at_ P i))).length : Nat) := by rw [rankOf, if_neg e', if_neg e2]
          refine wpAny_mono (app _ _ _ _ _ h5 t5 (x4.trans x5) ?_ rfl rfl) (fun f s' x => fall f s' x) fun _ _ x => x
          have FU5 := FU4.ext x5
          obtain ⟨cH, ovH, qH1, qH2, _, qH4⟩ := FU5.cel "heads" (kd _)
          obtain ⟨vh, rfl, hvh⟩ := qH4 _ rfl
          obtain ⟨cQ, ovQ, qQ1, qQ2, _, qQ4⟩ := FU5.cel "point" (kd _)
          obtain ⟨vq, rfl, hvq⟩ := qQ4 _ rfl
          rw [r0]
          refine ev_len (f := ptD) (has_b (g'.ext FU5.base) (by decide) boot_len FU5.kind (kd _) hg hb) (ev_filD (xs := kindsOf P) (sp := fun p => prD (ptD p)) (q := fun one => decide (one ∈ headsOf P) || decide (0 < lft one (at_ P i))) (f := ptD) (ev_varL (f := ptD) FU5 rfl) src_listX (safeX fun _ => rfl) (sz9 klen)
            (frees ["heads", "point"] rfl (fun y hy => by
              rcases List.mem_cons.mp hy with rfl | hy
              · rw [qH1]; rfl
              · rw [List.mem_singleton.mp hy, qQ1]; rfl)) rfl (by decide) (.inl rfl) (fun one hone v2 C c0 h6 e6 p6 hv6 hcv6 => ?_) (fun one hone v2 C c0 h6 _ e6 p6 hv6 hcv6 => ev_itemI hv6 p6)) ?_
          · have he6 : Ext h h6 := (hx.trans FU5.base).trans e6
            refine ts_or (ts_cmp (ev_itemI hv6 p6) (ev_itemI (has_capV (y := "heads") hv6 rfl rfl rfl qH1 (qH2.keeps e6)) (Rd.ext (prL_rd hvh) e6)) isD_mono (inH h6 one)) fun _ => ?_
            exact ts_cmp (ev_call_own (has_gC (g.ext he6) gl rfl rfl hg) (XL.ext he6).fn.choose_spec.choose_spec.1 (XL.ext he6).fn.choose_spec.choose_spec.2.1
              (eva_pall (eva_cons (ev_itemI hv6 p6) (eva_cons (ev_itemI (has_capV (y := "point") hv6 rfl rfl rfl qQ1 (qQ2.keeps e6)) (Rd.ext hvq e6)) eva_nil))) (lf h6 one (at_ P i) he6 (kinds_sub hone).1)) ev_int isD_mono cmp_gtI
          · have : ((kindsOf P).filter fun one => decide (one ∈ headsOf P) || decide (0 < lft one (at_ P i))).length ≤ (kindsOf P).length := List.length_filter_le _ _
            omega
    · rintro It h2 t2 ⟨zs, FJ, prJ, hDJ, hI, o1, o2, o3, o4⟩ _
      rw [hszP, List.take_length] at hI
      have FU := Fm.unpin (ρ' := [(Str.ofString "ranks", prV (.ref D))]) FJ (fun x p e => p.st _ _ _ prJ (hvs x p e))
      have rdR : Rd h2 (.ref D) (.list ((P.map (rankOf P)).map .int)) := Rd.list hDJ.isList (of_ints hI)
      have FU' : Fm h0 h2 env ((Str.ofString "ranks", prD (.list ((P.map (rankOf P)).map .int))) :: [(Str.ofString "ring", prD (ringD P)), (Str.ofString "heads", prL ((headsOf P).map fun p => prD (ptD p))), (Str.ofString "kinds", prL ((kindsOf P).map fun p => prD (ptD p))), (Str.ofString "points", prL (P.map fun p => prD (ptD p)))]) := by
        refine FU.weaken fun x p hp => ?_
        show ∃ q, ((Str.ofString "ranks", prV (.ref D)) :: _).lookup x = some q ∧ _
        rw [lk_cons] at hp ⊢
        by_cases q : x = Str.ofString "ranks"
        · rw [if_pos q] at hp ⊢
          cases hp
          exact ⟨_, rfl, fun v y => by have y' : v = .ref D := y; rw [y']; exact rdR⟩
        · rw [if_neg q] at hp ⊢; exact ⟨p, hp, fun _ y => y⟩
      have hne : P.map (rankOf P) ≠ [] := by
        intro q
        have := List.map_eq_nil_iff.mp q
        apply hk0
        rw [this]; rfl
      have rge : ∀ p, -1 ≤ rankOf P p := fun p => by unfold rankOf; split <;> (try split) <;> omega
      have mge : -1 ≤ maxI (P.map (rankOf P)) := by
        obtain ⟨p, _, q⟩ := List.mem_map.mp (max_spec hne).1
        rw [← q]; exact rge p
      have mle : maxI (P.map (rankOf P)) ≤ 9 := by
        obtain ⟨p, _, q⟩ := List.mem_map.mp (max_spec hne).1
        rw [← q]
        have : ((kindsOf P).filter fun one => decide (one ∈ headsOf P) || decide (0 < lft one p)).length ≤ (kindsOf P).length := List.length_filter_le _ _
        unfold rankOf; split <;> (try split) <;> omega
      have hrN : (roundsN P : Int) = maxI (P.map (rankOf P)) + 1 := by unfold roundsN; omega
      obtain ⟨cR, ovR, qR1, qR2, _, qR4⟩ := FU'.cel "ranks" (kd _)
      obtain ⟨vr, rfl, hvr⟩ := qR4 _ rfl
      obtain ⟨cP, ovP, qP1, qP2, _, qP4⟩ := FU'.cel "points" (kd _)
      obtain ⟨vp2, rfl, hvp2⟩ := qP4 _ rfl
      refine wp_ret rm (P := IsD (dueD' P)) (ev_tuple (eva_cons (ev_varD FU' rfl) (eva_cons (ev_mapD (xs := List.range (roundsN P)) (sp := fun i => prD (.int (i : Nat))) (f := fun r => .tuple ((roundOf P r).map fun j => .int (j : Nat)))
        (ev_range (has_b (g'.ext FU'.base) (by decide) boot_range FU'.kind (kd _) hg hb) (n := roundsN P) ?_) (src_range (by omega)) (safeX fun r => by simp only [noList]; exact noLists_ints _ _) (by simp [sizeLine]; omega)
        (frees ["points", "ranks"] rfl (fun y hy => by
          rcases List.mem_cons.mp hy with rfl | hy
          · rw [qP1]; rfl
          · rw [List.mem_singleton.mp hy, qR1]; rfl)) rfl (by decide) (.inr rfl) (fun r hr v C c0 h6 e6 p6 hv6 hcv6 => ?_)) eva_nil))) fun v h' tk' e p => hq v h' tk' (FJ.base.trans e) p
      · rw [hrN]
        exact ev_add (ev_call_builtin (has_b (g'.ext FU'.base) (by decide) boot_max FU'.kind (kd _) hg hb) (eva_cons (ev_varD FU' rfl) eva_nil) (fn_max (max_spec hne).1 (max_spec hne).2)) ev_int
      · have he6 : Ext h h6 := (hx.trans FU'.base).trans e6
        obtain ⟨ck6, qk1, qk2⟩ := hcv6 (relabel_plain rfl (by decide))
        refine ev_call_type (has_bC (g.ext he6) (by decide) boot_tuple rfl rfl hg hb) (eva_cons (ev_filD (xs := List.range P.length) (sp := fun i => prD (.int (i : Nat))) (q := fun j => decide (rankOf P (at_ P j) = (r : Int))) (f := fun j => .int (j : Nat))
          (ev_range (has_bC (g.ext he6) (by decide) boot_range rfl rfl hg hb) (ev_len (has_bC (g.ext he6) (by decide) boot_len rfl rfl hg hb) (ev_itemI (has_capV (y := "points") hv6 rfl rfl rfl qP1 (qP2.keeps e6)) (Rd.ext (prL_rd hvp2) e6)) hP60)) (src_range hP60) (safeX fun _ => rfl) (szR hn)
          (frees ["k", "ranks"] rfl (fun y hy => by
            rcases List.mem_cons.mp hy with rfl | hy
            · rw [qk1]; rfl
            · rw [List.mem_singleton.mp hy, cap_cells rfl rfl qR1]; rfl)) rfl (by decide) (.inl rfl) (fun j hj v7 C7 c7 h7 e7 p7 hv7 hcv7 => ?_) (fun j hj v7 C7 c7 h7 _ e7 p7 hv7 hcv7 => ev_itemI hv7 p7)) eva_nil) (fn_tuple ?_)
        · have hj := List.mem_range.mp hj
          refine ts_cmp (ev_item (ev_itemI (has_capV (y := "ranks") hv7 rfl rfl rfl (cap_cells rfl rfl qR1) ((qR2.keeps e6).keeps e7)) (Rd.ext hvr (e6.trans e7))) (ev_itemI hv7 p7) (by omega) (by omega) (d := .int (rankOf P (at_ P j))) ?_) (ev_itemI (has_capV (y := "k") hv7 rfl rfl rfl qk1 (qk2.keeps e7)) (Rd.ext p6 e7)) isD_mono cmp_eqI
          simp [at_get hj]
        · have : (roundOf P r).length ≤ (List.range P.length).length := List.length_filter_le _ _
          simp only [List.length_range] at this
          simp only [List.length_map, sizeLine]
          unfold roundOf at this
          omega
  refine wp_if (b := decide (headsOf P = [])) rm (ts_cmp (vH _ _ _ F4 rfl) (ev_list eva_nil) isD_mono ?_) (fun e h5 t5 x5 => ?_) (fun e h5 t5 x5 => wp_nil (rest _ rfl _ _ ?_))
  · have := cmp_eqD (prog := pw) (w := w) (k := 1) (h := h4) (a := .list ((headsOf P).map ptD)) (b := .list []) (depth_pts _) (by simp [PyData.depth, PyData.depthAll])
    rw [eqv_nil_pts] at this; exact this
  · have e := of_decide_eq_true e
    have F5 := F4.ext x5
    obtain ⟨vs, FP, hvs⟩ := F5.pin
    obtain ⟨k0, ks, hks⟩ := List.exists_cons_of_ne_nil hk0
    have hst : startOf P = P.idxOf k0 := by rw [startOf, hks]; rfl
    have hk0P : k0 ∈ P ∧ k0 ≠ zP := kinds_sub (by rw [hks]; exact List.mem_cons_self)
    have hstg := idxOf_get hk0P.1
    have hstl : startOf P < P.length := by rw [hst]; exact List.idxOf_lt_length_iff.mpr hk0P.1
    have hsta : at_ P (startOf P) = k0 := by have := at_get hstl; rw [hst, hstg] at this; rw [hst]; exact (Option.some.inj this).symm
    -- walk
    refine wp_assign_new (ps := [prD (.int (startOf P : Nat))]) rm FP (evp_pcons (p := prD (.int (startOf P : Nat))) (ev_meth1 (P1 := LstOf ((P.map ptD).map prD)) (P2 := IsD (ptD k0)) PySem.F.plainAttrs_list PySem.F.slot_list_index PySem.F.type_list_index
      (by rw [List.map_map]; exact ev_var (p := prL (P.map fun p => prD (ptD p))) F5 rfl) (fun v s x => lst_type x) lst_mono (ev_item (ev_varL F5 rfl) ev_int (by decide) (by decide) (by rw [hks]; rfl)) (fn_index (dj := ptD k0) ?_ (by rw [eqv_ptD]; simp) ?_ (depth_ptD _) (by simp; omega))) evp_pnil) (.inr (kd _))
      fun D ys h6 t6 F6 hD hys hDn pr6 off6 => ?_
    · rw [List.getElem?_map, hst, hstg]; rfl
    · intro m dm hm hdm
      rw [List.getElem?_map] at hdm
      cases hq : P[m]? with
      | none => rw [hq] at hdm; cases hdm
      | some y =>
        rw [hq] at hdm; cases hdm
        rw [eqv_ptD]
        exact decide_eq_false (idxOf_first (by rw [← hst]; exact hm) hq)
    have hys0 : IntsAre ys.toList (nI ([] ++ [startOf P])) := by
      match hq : ys.toList, hys with
      | [v], ⟨pv, _⟩ =>
        obtain ⟨t, rfl⟩ := Rd.inv_int pv
        exact .cons _ t .nil
    have hD0 : h0.get? D = none := by
      cases q : h0.get? D with
      | none => rfl
      | some o => have := F5.base _ _ q; rw [hDn] at this; cases this
    have hrng : ringW (nxt P) (P.length + 1 - ([] : List Nat).length) [] (startOf P) = ringOf P := rfl
    refine wp_while (fun m h => ∃ (init : List Nat) (last : Nat) (zs : Array Value), Fm h0 h env ((Str.ofString "walk", prV (.ref D)) :: pinL vs ((Str.ofString "ring", prD .none) :: (Str.ofString "heads", prL ((headsOf P).map fun p => prD (ptD p))) :: (Str.ofString "kinds", prL ((kindsOf P).map fun p => prD (ptD p))) :: [(Str.ofString "points", prL (P.map fun p => prD (ptD p)))])) ∧
        Pres h5 h ∧ h.PlainList D zs ∧ IntsAre zs.toList (nI (init ++ [last])) ∧ init.Nodup ∧ (∀ i ∈ init, i < P.length) ∧ last < P.length ∧ at_ P last ≠ zP ∧ ringW (nxt P) (P.length + 1 - init.length) init last = ringOf P ∧ m = P.length + 1 - init.length)
      (P.length + 1) ⟨[], startOf P, ys, F6, pr6, hD, hys0, List.nodup_nil, (fun i hi => by cases hi), hstl, by rw [hsta]; exact hk0P.2, hrng, rfl⟩ ?_
    rintro m h7 t7 E' Q' ⟨init, last, zs, F7, pr7, hD7, hI7, nd, ib, lb, lz, hring, rfl⟩ hQ'
    have FU := Fm.unpin (ρ' := [(Str.ofString "walk", prV (.ref D))]) F7 (fun x p e => p.st _ _ _ pr7 (hvs x p e))
    have hilen := nodup_bound nd ib
    have rdW : ∀ h8, Ext h7 h8 → Rd h8 (.ref D) (.list (nD (init ++ [last]))) := fun h8 x => by
      have := of_ints (h := h8) hI7
      rw [nD_eq] at this
      exact Rd.list (hD7.at fun o q => x _ _ q).isList this
    have vW : ∀ h8 p, Ext h7 h8 → EvD pw w 1 env h8 (.Name "walk" p) (.list (nD (init ++ [last]))) := fun h8 p x =>
      (ev_var (p := prV (.ref D)) (F7.ext x) rfl).mono fun v h9 x9 (q : v = .ref D) => by rw [q]; exact rdW h9 (x.trans x9)
    have eW : nD (init ++ [last]) = nD init ++ [.int (last : Nat)] := by simp [nD]
    have wsz : (nD init ++ [PyData.int (last : Nat)]).length ≤ sizeLine := by simp [sizeLine, nD]; omega
    refine Ts.run (k := 1) (b := !decide (last ∈ init)) ?_ rm fun h8 t8 x8 => hQ' _ h8 t8 (fun e8 E'' Q'' hf => ?_) (fun e8 E'' Q'' hf => wp_nil (hf _ _ ?_))
    · refine ts_cmp (ev_last (ds := nD init) (d := .int (last : Nat)) (by rw [← eW]; exact vW h7 _ (.refl _)) (ev_neg ev_int)) (ev_butlast (ds := nD init) (d := .int (last : Nat)) (by rw [← eW]; exact vW h7 _ (.refl _)) (ev_neg ev_int) wsz) isD_mono ?_
      have := cmp_notInD (prog := pw) (w := w) (k := 1) (h := h7) (x := .int (last : Nat)) (xs := nD init) (by simp [PyData.depth])
      rw [nD, any_natD] at this; exact this
    · have e8 : last ∉ init := by simpa using e8
      have hsc := hsucc e last lb lz
      obtain ⟨n1, n2, n3⟩ := nxt_spec hsc
      have F8 := F7.ext x8
      have FU8 := FU.ext x8
      obtain ⟨vr, hvr, (hvr' : vr = .ref D)⟩ := F8.has (prog := pw) (w := w) (x := "walk") rfl
      subst hvr'
      obtain ⟨cP, ovP, qP1, qP2, _, qP4⟩ := FU8.cel "points" (kd _)
      obtain ⟨vp2, rfl, hvp2⟩ := qP4 _ rfl
      obtain ⟨cW, ovW, qW1, qW2, _, qW4⟩ := FU8.cel "walk" (kd _)
      obtain ⟨vw2, rfl, (hvw2 : vw2 = .ref D)⟩ := qW4 _ rfl
      subst hvw2
      refine wp_append (P := IsD (.int (nxt P last : Nat))) rm F8.kind hvr (hD7.at fun o q => x8 _ _ q) (ev_item (ds := nD ((List.range P.length).filter fun j => decide (0 < lft (at_ P last) (at_ P j)))) (ev_filD (xs := List.range P.length) (sp := fun i => prD (.int (i : Nat))) (q := fun j => decide (0 < lft (at_ P last) (at_ P j))) (f := fun j => .int (j : Nat))
        (ev_range (has_b (g'.ext F8.base) (by decide) boot_range F8.kind (kd _) hg hb) (ev_len (has_b (g'.ext F8.base) (by decide) boot_len F8.kind (kd _) hg hb) (ev_varL (f := ptD) FU8 rfl) hP60)) (src_range hP60) (safeX fun _ => rfl) (szR hn)
        (frees ["points", "walk"] rfl (fun y hy => by
          rcases List.mem_cons.mp hy with rfl | hy
          · rw [qP1]; rfl
          · rw [List.mem_singleton.mp hy, qW1]; rfl)) rfl (by decide) (.inl rfl) (fun j hj v9 C9 c9 h9 e9 p9 hv9 hcv9 => ?_) (fun j hj v9 C9 c9 h9 _ e9 p9 hv9 hcv9 => ev_itemI hv9 p9)) ev_int (by decide) (by decide) (by rw [nD, List.getElem?_map]; exact congrArg (Option.map _) n3)) ?_ fun y h9 h10 t10 x9 py l10 s10 => wp_nil ?_
      · have hj := List.mem_range.mp hj
        have he9 : Ext h h9 := (hx.trans F8.base).trans e9
        have vpts := fun pos => ev_itemI (k := 1) (x := "points") (pos := pos) (has_capV (y := "points") hv9 rfl rfl rfl qP1 (qP2.keeps e9)) (Rd.ext (prL_rd (f := ptD) hvp2) e9)
        have vwk := fun pos => ev_itemI (k := 1) (x := "walk") (pos := pos) (has_capV (y := "walk") hv9 rfl rfl rfl qW1 (qW2.keeps e9)) (eW ▸ rdW h9 (x8.trans e9))
        exact ts_cmp (ev_call_own (has_gC (g.ext he9) gl rfl rfl hg) (XL.ext he9).fn.choose_spec.choose_spec.1 (XL.ext he9).fn.choose_spec.choose_spec.2.1
          (eva_pall (eva_cons (ev_item (vpts _) (ev_last (vwk _) (ev_neg ev_int)) (Int.natCast_nonneg _) (ix63 lb hn) (d := ptD (at_ P last)) (by simp [at_get lb])) (eva_cons (ev_item (vpts _) (ev_itemI hv9 p9) (Int.natCast_nonneg _) (ix63 hj hn) (d := ptD (at_ P j)) (by simp [at_get hj])) eva_nil)))
          (lf h9 (at_ P last) (at_ P j) he9 (at_mem lb))) ev_int isD_mono cmp_gtI
      · have := hI7.length; simp [nI] at this; simp [sizeLine]; omega
      obtain ⟨ty, rfl⟩ := py.inv_int
      have offD : Off env D := by obtain ⟨n, hl⟩ := hD7; exact F7.off_seq hl rfl
      refine hf _ _ _ (fun _ => ⟨P.length + 1 - (init.length + 1), ?_, init ++ [last], nxt P last, zs.push (.int _ ty), (F8.ext x9).chgV (S := fun b => b = D) pinned1 (Chg.one s10) (fun b q => q ▸ offD) (fun b q => q ▸ hD0), ?_, l10, ?_, ?_, ?_, n1, ?_, ?_, ?_⟩) (fun q => by cases q) (fun v q => by cases q)
      · omega
      · intro b o hb q
        refine (s10.2 b fun z => ?_).trans (x9 _ _ (x8 _ _ (pr7 b o hb q)))
        rw [z, hDn] at q; cases q
      · rw [Array.toList_push]; exact nat_snoc hI7
      · rw [List.nodup_append]; exact ⟨nd, by simp, fun a ha b hb => by rw [List.mem_singleton.mp hb]; rintro rfl; exact e8 ha⟩
      · intro i hi
        rcases List.mem_append.mp hi with q | q
        · exact ib i q
        · rw [List.mem_singleton.mp q]; exact lb
      · intro q; rw [q, lft_zero] at n2; omega
      · have e9 : P.length + 1 - init.length = (P.length + 1 - (init ++ [last]).length) + 1 := by simp; omega
        rw [e9, ringW, if_neg e8] at hring
        exact hring
      · simp
    · have e8 : last ∈ init := by simpa using e8
      have F8 := F7.ext x8
      have hring' : ringOf P = init.drop (init.idxOf last) ++ [last] := by
        rw [← hring]
        cases hfu : P.length + 1 - init.length with
        | zero => rw [ringW]
        | succ f => rw [ringW, if_pos e8]
      have hix : (init ++ [last]).idxOf last = init.idxOf last := by rw [List.idxOf_append, if_pos e8]
      have hil := List.idxOf_lt_length_iff.mpr e8
      have hinN : ∀ x : Nat, PyData.eqv (.int (x : Nat)) (.int (last : Nat)) = decide (x = last) := fun x => by
        simp only [PyData.eqv]; rw [Bool.eq_iff_iff]; simp only [beq_iff_eq, decide_eq_true_eq]; omega
      refine wp_assign (p := prD (ringD P)) rm F8 ?_ (.inl (kd _)) fun h9 t9 F9 pr9 _ => wp_nil (rest _ rfl _ _ ?_)
      · have hrd : ringD P = .list ((nD (init ++ [last])).drop (init.idxOf last)) := by
          rw [ringD, if_pos e, hring', nD, ← List.map_drop, List.drop_append_of_le_length (Nat.le_of_lt hil)]
        rw [hrd]
        refine ev_from (vW h8 _ x8) (ev_meth1 (P1 := LstOf ((nD (init ++ [last])).map prD)) (P2 := IsD (.int (last : Nat))) PySem.F.plainAttrs_list PySem.F.slot_list_index PySem.F.type_list_index ?_ (fun v s x => lst_type x) lst_mono
          (ev_last (ds := nD init) (d := .int (last : Nat)) (by rw [← eW]; exact vW h8 _ x8) (ev_neg ev_int)) (fn_index (dj := .int (last : Nat)) ?_ (by rw [hinN]; simp) ?_ (by simp [PyData.depth]) (by simp [nD]; omega))) (by rw [eW]; exact wsz) (by simp [nD]; omega)
        · refine (ev_var (p := prV (.ref D)) F8 rfl).mono fun v h9 x9 (q : v = .ref D) => ?_
          rw [q]
          exact ⟨D, zs, rfl, hD7.at fun o q => x9 _ _ (x8 _ _ q), PAll.of_rd (by have := of_ints (h := h9) hI7; rw [nD_eq] at this; exact this)⟩
        · rw [nD, List.getElem?_map, ← hix, idxOf_get (by simp)]; rfl
        · intro m dm hm hdm
          rw [nD, List.getElem?_map] at hdm
          cases hq : (init ++ [last])[m]? with
          | none => rw [hq] at hdm; cases hdm
          | some y =>
            rw [hq] at hdm; cases hdm
            rw [hinN]
            exact decide_eq_false (idxOf_first (by rw [hix]; exact hm) hq)
      · have pr9' := (pr7.trans x8.pres).trans pr9
        have FU9 := Fm.unpin (ρ' := [(Str.ofString "ring", prD (ringD P)), (Str.ofString "walk", prV (.ref D))]) F9 (fun x p e => p.st _ _ _ pr9' (hvs x p e))
        refine FU9.weaken fun x p hp => ?_
        refine ⟨p, ?_, fun _ y => y⟩
        show ((Str.ofString "ring", prD (ringD P)) :: (Str.ofString "walk", prV (.ref D)) :: (Str.ofString "ring", prD .none) :: _).lookup x = some p
        rw [lk_cons] at hp ⊢
        by_cases q : x = Str.ofString "ring"
        · rw [if_pos q] at hp ⊢; exact hp
        · rw [if_neg q] at hp ⊢
          rw [lk_cons, lk_cons, if_neg q]
          by_cases q2 : x = Str.ofString "walk"
          · subst q2; exact absurd hp (fun z => by cases z)
          · rw [if_neg q2]; exact hp
  · have e := of_decide_eq_false e
    refine (F4.ext x5).weaken fun x p hp => ?_
    have : ringD P = .none := by rw [ringD, if_neg e]
    rw [this] at hp
    exact ⟨p, hp, fun _ y => y⟩
end
end Mine

end

section
open PySem PySem.W PyProof.Rows PySem.SeqAt
set_option Elab.async false
set_option linter.all false
set_option autoImplicit false
namespace Mine
/-- the written part of the heap (printed by a program) -/
noncomputable def fnO (nm qn : Str) (D : List Stmt) (dv pm cd : Value) : Obj :=
  { cls := .type "function", data := .func { name := nm, qualname := qn, params := defParams D, body := .stmts (defBody D), scope := defScope D, globals := 3, closure := [], defaults := dv, kwdefaults := .none, doc := .none, pyModule := pm, annotations := none, code := cd, closureTuple := .none, builtins := 0 } }
noncomputable def KF (P : Params) : Frag := [
  (3, { cls := Value.type "dict", data := Data.dict #[{ hash := PyData.keyHash P (Str.ofString "__name__"), key := Value.str (Str.ofString "__name__") 165, val := Value.str (Str.ofString "law_mj0219_01") 396 }, { hash := PyData.keyHash P (Str.ofString "__doc__"), key := Value.str (Str.ofString "__doc__") 166, val := Value.none }, { hash := PyData.keyHash P (Str.ofString "__package__"), key := Value.str (Str.ofString "__package__") 167, val := Value.none }, { hash := PyData.keyHash P (Str.ofString "__loader__"), key := Value.str (Str.ofString "__loader__") 168, val := Value.builtin "__main__.__loader__#opaque" }, { hash := PyData.keyHash P (Str.ofString "__spec__"), key := Value.str (Str.ofString "__spec__") 169, val := Value.none }, { hash := PyData.keyHash P (Str.ofString "__annotations__"), key := Value.str (Str.ofString "__annotations__") 170, val := Value.ref 6 }, { hash := PyData.keyHash P (Str.ofString "__builtins__"), key := Value.str (Str.ofString "__builtins__") 171, val := Value.ref 4 }, { hash := PyData.keyHash P (Str.ofString "__file__"), key := Value.str (Str.ofString "__file__") 173, val := Value.str (Str.ofString "/claim/cut.py") 172 }, { hash := PyData.keyHash P (Str.ofString "__cached__"), key := Value.str (Str.ofString "__cached__") 174, val := Value.none }, { hash := PyData.keyHash P (Str.ofString "_wall"), key := Value.str (Str.ofString "_wall") 193, val := Value.ref 21 }, { hash := PyData.keyHash P (Str.ofString "rgb_to_hsv"), key := Value.str (Str.ofString "rgb_to_hsv") 213, val := Value.ref 28 }, { hash := PyData.keyHash P (Str.ofString "_NODE_OUT"), key := Value.str (Str.ofString "_NODE_OUT") 218, val := Value.int (-1) 217 }, { hash := PyData.keyHash P (Str.ofString "_NODE_DONE"), key := Value.str (Str.ofString "_NODE_DONE") 221, val := Value.int (-2) 220 }, { hash := PyData.keyHash P (Str.ofString "_NodeInfo"), key := Value.str (Str.ofString "_NodeInfo") 258, val := Value.ref 47 }, { hash := PyData.keyHash P (Str.ofString "CycleError"), key := Value.str (Str.ofString "CycleError") 276, val := Value.ref 62 }, { hash := PyData.keyHash P (Str.ofString "TopologicalSorter"), key := Value.str (Str.ofString "TopologicalSorter") 395, val := Value.ref 144 }, { hash := PyData.keyHash P (Str.ofString "_law_point"), key := Value.str (Str.ofString "_law_point") 405, val := Value.ref 155 }, { hash := PyData.keyHash P (Str.ofString "_law_place"), key := Value.str (Str.ofString "_law_place") 412, val := Value.ref 162 }, { hash := PyData.keyHash P (Str.ofString "_law_left"), key := Value.str (Str.ofString "_law_left") 420, val := Value.ref 169 }, { hash := PyData.keyHash P (Str.ofString "_law_colours"), key := Value.str (Str.ofString "_law_colours") 426, val := Value.ref 174 }, { hash := PyData.keyHash P (Str.ofString "_law_due"), key := Value.str (Str.ofString "_law_due") 432, val := Value.ref 179 }, { hash := PyData.keyHash P (Str.ofString "law"), key := Value.str (Str.ofString "law") 438, val := Value.ref 184 }] 22 }),
  (27, { cls := Value.type "code", data := Data.fields #[Value.str (Str.ofString "rgb_to_hsv") 196, Value.str (Str.ofString "rgb_to_hsv") 197, Value.str (Str.ofString "/claim/cut.py") 198, Value.int 5 0, Value.int 3 0, Value.int 0 0, Value.int 0 0, Value.int 3 0, Value.ref 22, Value.bool true, Value.int 181 0, Value.ref 23, Value.none, Value.ref 24, Value.ref 25, Value.ref 26, Value.int 211 0, Value.int 5 0, Value.str (Str.ofString "/claim/cut.py") 212] }),
  (28, fnO (Str.ofString "rgb_to_hsv") (Str.ofString "rgb_to_hsv") rgbD (Value.none) (Value.str (Str.ofString "cpy313.colorsys") 194) (Value.ref 27)),
  (42, { cls := Value.type "code", data := Data.fields #[Value.str (Str.ofString "__init__") 238, Value.str (Str.ofString "_NodeInfo.__init__") 239, Value.str (Str.ofString "/claim/cut.py") 240, Value.int 30 0, Value.int 2 0, Value.int 0 0, Value.int 0 0, Value.int 3 0, Value.ref 37, Value.bool true, Value.int 181 0, Value.ref 38, Value.none, Value.ref 39, Value.ref 40, Value.ref 41, Value.int 243 0, Value.int 30 0, Value.str (Str.ofString "/claim/cut.py") 244] }),
  (43, fnO (Str.ofString "__init__") (Str.ofString "_NodeInfo.__init__") nodeC.tail (Value.none) (Value.str (Str.ofString "cpy313.graphlib") 214) (Value.ref 42)),
  (46, { cls := Value.type "dict", data := Data.dict #[{ hash := PyData.keyHash P (Str.ofString "__module__"), key := Value.str (Str.ofString "__module__") 229, val := Value.str (Str.ofString "cpy313.graphlib") 214 }, { hash := PyData.keyHash P (Str.ofString "__firstlineno__"), key := Value.str (Str.ofString "__firstlineno__") 233, val := Value.int 27 232 }, { hash := PyData.keyHash P (Str.ofString "__slots__"), key := Value.str (Str.ofString "__slots__") 237, val := Value.ref 36 }, { hash := PyData.keyHash P (Str.ofString "__init__"), key := Value.str (Str.ofString "__init__") 245, val := Value.ref 43 }, { hash := PyData.keyHash P (Str.ofString "__static_attributes__"), key := Value.str (Str.ofString "__static_attributes__") 249, val := Value.ref 44 }, { hash := PyData.keyHash P (Str.ofString "node"), key := Value.str (Str.ofString "node") 251, val := Value.ref 48 }, { hash := PyData.keyHash P (Str.ofString "npredecessors"), key := Value.str (Str.ofString "npredecessors") 253, val := Value.ref 49 }, { hash := PyData.keyHash P (Str.ofString "successors"), key := Value.str (Str.ofString "successors") 255, val := Value.ref 50 }, { hash := PyData.keyHash P (Str.ofString "__doc__"), key := Value.str (Str.ofString "__doc__") 256, val := Value.none }] 5 }),
  (47, { cls := Value.type "type", data := Data.cls { name := Str.ofString "_NodeInfo", bases := [Value.type "object"], mro := [Value.ref 47, Value.type "object"], ns := 46, qualname := Str.ofString "_NodeInfo", hasDict := false, slotNames := [Str.ofString "node", Str.ofString "npredecessors", Str.ofString "successors"] }, slots := #[none, none, some (Value.str (Str.ofString "_NodeInfo") 222), some (Value.str (Str.ofString "_NodeInfo") 230), some (Value.builtin "object.__new__"), some (Value.bool false)] }),
  (48, { cls := Value.type "member_descriptor", data := Data.fields #[Value.str (Str.ofString "node") 250, Value.ref 47, Value.builtin "proto.slot", Value.builtin "proto.slot#set", Value.int 2 0] }),
  (49, { cls := Value.type "member_descriptor", data := Data.fields #[Value.str (Str.ofString "npredecessors") 252, Value.ref 47, Value.builtin "proto.slot", Value.builtin "proto.slot#set", Value.int 1 0] }),
  (50, { cls := Value.type "member_descriptor", data := Data.fields #[Value.str (Str.ofString "successors") 254, Value.ref 47, Value.builtin "proto.slot", Value.builtin "proto.slot#set", Value.int 0 0] }),
  (53, { cls := Value.type "tuple", data := Data.seq #[Value.type "ValueError"] }),
  (61, { cls := Value.type "dict", data := Data.dict #[{ hash := PyData.keyHash P (Str.ofString "__module__"), key := Value.str (Str.ofString "__module__") 266, val := Value.str (Str.ofString "cpy313.graphlib") 214 }, { hash := PyData.keyHash P (Str.ofString "__firstlineno__"), key := Value.str (Str.ofString "__firstlineno__") 270, val := Value.int 34 269 }, { hash := PyData.keyHash P (Str.ofString "__static_attributes__"), key := Value.str (Str.ofString "__static_attributes__") 271, val := Value.ref 60 }, { hash := PyData.keyHash P (Str.ofString "__weakref__"), key := Value.str (Str.ofString "__weakref__") 273, val := Value.ref 63 }, { hash := PyData.keyHash P (Str.ofString "__doc__"), key := Value.str (Str.ofString "__doc__") 274, val := Value.none }] 3 }),
  (62, { cls := Value.type "type", data := Data.cls { name := Str.ofString "CycleError", bases := [Value.type "ValueError"], mro := [Value.ref 62, Value.type "ValueError", Value.type "Exception", Value.type "BaseException", Value.type "object"], ns := 61, qualname := Str.ofString "CycleError" }, slots := #[some (Value.ref 53), none, some (Value.str (Str.ofString "CycleError") 259), some (Value.str (Str.ofString "CycleError") 267), some (Value.builtin "ValueError.__new__"), some (Value.bool true)] }),
  (63, { cls := Value.type "getset_descriptor", data := Data.fields #[Value.str (Str.ofString "__weakref__") 272, Value.ref 62, Value.builtin "ExceptionGroup.__weakref__", Value.none] }),
  (73, { cls := Value.type "tuple", data := Data.seq #[Value.none] }),
  (79, { cls := Value.type "code", data := Data.fields #[Value.str (Str.ofString "__init__") 289, Value.str (Str.ofString "TopologicalSorter.__init__") 290, Value.str (Str.ofString "/claim/cut.py") 291, Value.int 38 0, Value.int 2 0, Value.int 0 0, Value.int 0 0, Value.int 3 0, Value.ref 74, Value.bool true, Value.int 181 0, Value.ref 75, Value.none, Value.ref 76, Value.ref 77, Value.ref 78, Value.int 296 0, Value.int 38 0, Value.str (Str.ofString "/claim/cut.py") 297] }),
  (80, fnO (Str.ofString "__init__") (Str.ofString "TopologicalSorter.__init__") sortC (Value.ref 73) (Value.str (Str.ofString "cpy313.graphlib") 214) (Value.ref 79)),
  (86, { cls := Value.type "code", data := Data.fields #[Value.str (Str.ofString "_get_nodeinfo") 299, Value.str (Str.ofString "TopologicalSorter._get_nodeinfo") 300, Value.str (Str.ofString "/claim/cut.py") 301, Value.int 47 0, Value.int 2 0, Value.int 0 0, Value.int 0 0, Value.int 3 0, Value.ref 81, Value.bool true, Value.int 181 0, Value.ref 82, Value.none, Value.ref 83, Value.ref 84, Value.ref 85, Value.int 305 0, Value.int 47 0, Value.str (Str.ofString "/claim/cut.py") 306] }),
  (87, fnO (Str.ofString "_get_nodeinfo") (Str.ofString "TopologicalSorter._get_nodeinfo") (sortC.drop 1) (Value.none) (Value.str (Str.ofString "cpy313.graphlib") 214) (Value.ref 86)),
  (93, { cls := Value.type "code", data := Data.fields #[Value.str (Str.ofString "add") 308, Value.str (Str.ofString "TopologicalSorter.add") 309, Value.str (Str.ofString "/claim/cut.py") 310, Value.int 52 0, Value.int 2 0, Value.int 0 0, Value.int 0 0, Value.int 7 0, Value.ref 88, Value.bool true, Value.int 181 0, Value.ref 89, Value.none, Value.ref 90, Value.ref 91, Value.ref 92, Value.int 317 0, Value.int 52 0, Value.str (Str.ofString "/claim/cut.py") 318] }),
  (94, fnO (Str.ofString "add") (Str.ofString "TopologicalSorter.add") (sortC.drop 2) (Value.none) (Value.str (Str.ofString "cpy313.graphlib") 214) (Value.ref 93)),
  (98, { cls := Value.type "code", data := Data.fields #[Value.str (Str.ofString "prepare") 320, Value.str (Str.ofString "TopologicalSorter.prepare") 321, Value.str (Str.ofString "/claim/cut.py") 322, Value.int 61 0, Value.int 1 0, Value.int 0 0, Value.int 0 0, Value.int 3 0, Value.ref 95, Value.bool true, Value.int 181 0, Value.ref 96, Value.none, Value.none, Value.none, Value.ref 97, Value.int 323 0, Value.int 61 0, Value.str (Str.ofString "/claim/cut.py") 324] }),
  (99, fnO (Str.ofString "prepare") (Str.ofString "TopologicalSorter.prepare") (sortC.drop 3) (Value.none) (Value.str (Str.ofString "cpy313.graphlib") 214) (Value.ref 98)),
  (105, { cls := Value.type "code", data := Data.fields #[Value.str (Str.ofString "get_ready") 326, Value.str (Str.ofString "TopologicalSorter.get_ready") 327, Value.str (Str.ofString "/claim/cut.py") 328, Value.int 69 0, Value.int 1 0, Value.int 0 0, Value.int 0 0, Value.int 3 0, Value.ref 100, Value.bool true, Value.int 181 0, Value.ref 101, Value.none, Value.ref 102, Value.ref 103, Value.ref 104, Value.int 333 0, Value.int 69 0, Value.str (Str.ofString "/claim/cut.py") 334] }),
  (106, fnO (Str.ofString "get_ready") (Str.ofString "TopologicalSorter.get_ready") (sortC.drop 4) (Value.none) (Value.str (Str.ofString "cpy313.graphlib") 214) (Value.ref 105)),
  (112, { cls := Value.type "code", data := Data.fields #[Value.str (Str.ofString "is_active") 336, Value.str (Str.ofString "TopologicalSorter.is_active") 337, Value.str (Str.ofString "/claim/cut.py") 338, Value.int 80 0, Value.int 1 0, Value.int 0 0, Value.int 0 0, Value.int 3 0, Value.ref 107, Value.bool true, Value.int 181 0, Value.ref 108, Value.none, Value.ref 109, Value.ref 110, Value.ref 111, Value.int 340 0, Value.int 80 0, Value.str (Str.ofString "/claim/cut.py") 341] }),
  (113, fnO (Str.ofString "is_active") (Str.ofString "TopologicalSorter.is_active") (sortC.drop 5) (Value.none) (Value.str (Str.ofString "cpy313.graphlib") 214) (Value.ref 112)),
  (126, { cls := Value.type "code", data := Data.fields #[Value.str (Str.ofString "done") 350, Value.str (Str.ofString "TopologicalSorter.done") 351, Value.str (Str.ofString "/claim/cut.py") 352, Value.int 88 0, Value.int 1 0, Value.int 0 0, Value.int 0 0, Value.int 7 0, Value.ref 121, Value.bool true, Value.int 181 0, Value.ref 122, Value.none, Value.ref 123, Value.ref 124, Value.ref 125, Value.int 361 0, Value.int 88 0, Value.str (Str.ofString "/claim/cut.py") 362] }),
  (127, fnO (Str.ofString "done") (Str.ofString "TopologicalSorter.done") (sortC.drop 7) (Value.none) (Value.str (Str.ofString "cpy313.graphlib") 214) (Value.ref 126)),
  (133, { cls := Value.type "code", data := Data.fields #[Value.str (Str.ofString "_find_cycle") 364, Value.str (Str.ofString "TopologicalSorter._find_cycle") 365, Value.str (Str.ofString "/claim/cut.py") 366, Value.int 111 0, Value.int 1 0, Value.int 0 0, Value.int 0 0, Value.int 3 0, Value.ref 128, Value.bool true, Value.int 181 0, Value.ref 129, Value.none, Value.ref 130, Value.ref 131, Value.ref 132, Value.int 374 0, Value.int 111 0, Value.str (Str.ofString "/claim/cut.py") 375] }),
  (134, fnO (Str.ofString "_find_cycle") (Str.ofString "TopologicalSorter._find_cycle") (sortC.drop 8) (Value.none) (Value.str (Str.ofString "cpy313.graphlib") 214) (Value.ref 133)),
  (143, { cls := Value.type "dict", data := Data.dict #[{ hash := PyData.keyHash P (Str.ofString "__module__"), key := Value.str (Str.ofString "__module__") 284, val := Value.str (Str.ofString "cpy313.graphlib") 214 }, { hash := PyData.keyHash P (Str.ofString "__firstlineno__"), key := Value.str (Str.ofString "__firstlineno__") 288, val := Value.int 36 287 }, { hash := PyData.keyHash P (Str.ofString "__init__"), key := Value.str (Str.ofString "__init__") 298, val := Value.ref 80 }, { hash := PyData.keyHash P (Str.ofString "_get_nodeinfo"), key := Value.str (Str.ofString "_get_nodeinfo") 307, val := Value.ref 87 }, { hash := PyData.keyHash P (Str.ofString "add"), key := Value.str (Str.ofString "add") 319, val := Value.ref 94 }, { hash := PyData.keyHash P (Str.ofString "prepare"), key := Value.str (Str.ofString "prepare") 325, val := Value.ref 99 }, { hash := PyData.keyHash P (Str.ofString "get_ready"), key := Value.str (Str.ofString "get_ready") 335, val := Value.ref 106 }, { hash := PyData.keyHash P (Str.ofString "is_active"), key := Value.str (Str.ofString "is_active") 342, val := Value.ref 113 }, { hash := PyData.keyHash P (Str.ofString "__bool__"), key := Value.str (Str.ofString "__bool__") 349, val := Value.ref 120 }, { hash := PyData.keyHash P (Str.ofString "done"), key := Value.str (Str.ofString "done") 363, val := Value.ref 127 }, { hash := PyData.keyHash P (Str.ofString "_find_cycle"), key := Value.str (Str.ofString "_find_cycle") 376, val := Value.ref 134 }, { hash := PyData.keyHash P (Str.ofString "static_order"), key := Value.str (Str.ofString "static_order") 383, val := Value.ref 141 }, { hash := PyData.keyHash P (Str.ofString "__static_attributes__"), key := Value.str (Str.ofString "__static_attributes__") 388, val := Value.ref 142 }, { hash := PyData.keyHash P (Str.ofString "__dict__"), key := Value.str (Str.ofString "__dict__") 390, val := Value.ref 145 }, { hash := PyData.keyHash P (Str.ofString "__weakref__"), key := Value.str (Str.ofString "__weakref__") 392, val := Value.ref 146 }, { hash := PyData.keyHash P (Str.ofString "__doc__"), key := Value.str (Str.ofString "__doc__") 393, val := Value.none }] 4 }),
  (144, { cls := Value.type "type", data := Data.cls { name := Str.ofString "TopologicalSorter", bases := [Value.type "object"], mro := [Value.ref 144, Value.type "object"], ns := 143, qualname := Str.ofString "TopologicalSorter" }, slots := #[none, none, some (Value.str (Str.ofString "TopologicalSorter") 277), some (Value.str (Str.ofString "TopologicalSorter") 285), some (Value.builtin "object.__new__"), some (Value.bool true)] }),
  (145, { cls := Value.type "getset_descriptor", data := Data.fields #[Value.str (Str.ofString "__dict__") 389, Value.ref 144, Value.builtin "function.__dict__", Value.builtin "function.__dict__#set"] }),
  (146, { cls := Value.type "getset_descriptor", data := Data.fields #[Value.str (Str.ofString "__weakref__") 391, Value.ref 144, Value.builtin "ExceptionGroup.__weakref__", Value.none] }),
  (154, { cls := Value.type "code", data := Data.fields #[Value.str (Str.ofString "_law_point") 398, Value.str (Str.ofString "_law_point") 399, Value.str (Str.ofString "/claim/cut.py") 400, Value.int 143 0, Value.int 1 0, Value.int 0 0, Value.int 0 0, Value.int 3 0, Value.ref 149, Value.bool true, Value.int 181 0, Value.ref 150, Value.none, Value.ref 151, Value.ref 152, Value.ref 153, Value.int 403 0, Value.int 143 0, Value.str (Str.ofString "/claim/cut.py") 404] }),
  (155, fnO (Str.ofString "_law_point") (Str.ofString "_law_point") pointD' (Value.none) (Value.str (Str.ofString "law_mj0219_01") 396) (Value.ref 154)),
  (161, { cls := Value.type "code", data := Data.fields #[Value.str (Str.ofString "_law_place") 406, Value.str (Str.ofString "_law_place") 407, Value.str (Str.ofString "/claim/cut.py") 408, Value.int 148 0, Value.int 1 0, Value.int 0 0, Value.int 0 0, Value.int 3 0, Value.ref 156, Value.bool true, Value.int 181 0, Value.ref 157, Value.none, Value.ref 158, Value.ref 159, Value.ref 160, Value.int 410 0, Value.int 148 0, Value.str (Str.ofString "/claim/cut.py") 411] }),
  (162, fnO (Str.ofString "_law_place") (Str.ofString "_law_place") placeD (Value.none) (Value.str (Str.ofString "law_mj0219_01") 396) (Value.ref 161)),
  (168, { cls := Value.type "code", data := Data.fields #[Value.str (Str.ofString "_law_left") 413, Value.str (Str.ofString "_law_left") 414, Value.str (Str.ofString "/claim/cut.py") 415, Value.int 156 0, Value.int 2 0, Value.int 0 0, Value.int 0 0, Value.int 3 0, Value.ref 163, Value.bool true, Value.int 181 0, Value.ref 164, Value.none, Value.ref 165, Value.ref 166, Value.ref 167, Value.int 418 0, Value.int 156 0, Value.str (Str.ofString "/claim/cut.py") 419] }),
  (169, fnO (Str.ofString "_law_left") (Str.ofString "_law_left") leftD (Value.none) (Value.str (Str.ofString "law_mj0219_01") 396) (Value.ref 168)),
  (173, { cls := Value.type "code", data := Data.fields #[Value.str (Str.ofString "_law_colours") 421, Value.str (Str.ofString "_law_colours") 422, Value.str (Str.ofString "/claim/cut.py") 423, Value.int 158 0, Value.int 1 0, Value.int 0 0, Value.int 0 0, Value.int 3 0, Value.ref 170, Value.bool true, Value.int 181 0, Value.ref 171, Value.none, Value.none, Value.none, Value.ref 172, Value.int 424 0, Value.int 158 0, Value.str (Str.ofString "/claim/cut.py") 425] }),
  (174, fnO (Str.ofString "_law_colours") (Str.ofString "_law_colours") coloursD (Value.none) (Value.str (Str.ofString "law_mj0219_01") 396) (Value.ref 173)),
  (178, { cls := Value.type "code", data := Data.fields #[Value.str (Str.ofString "_law_due") 427, Value.str (Str.ofString "_law_due") 428, Value.str (Str.ofString "/claim/cut.py") 429, Value.int 166 0, Value.int 1 0, Value.int 0 0, Value.int 0 0, Value.int 3 0, Value.ref 175, Value.bool true, Value.int 181 0, Value.ref 176, Value.none, Value.none, Value.none, Value.ref 177, Value.int 430 0, Value.int 166 0, Value.str (Str.ofString "/claim/cut.py") 431] }),
  (179, fnO (Str.ofString "_law_due") (Str.ofString "_law_due") dueD (Value.none) (Value.str (Str.ofString "law_mj0219_01") 396) (Value.ref 178))]
def KAs : List Addr := [3, 27, 28, 42, 43, 46, 47, 48, 49, 50, 53, 61, 62, 63, 73, 79, 80, 86, 87, 93, 94, 98, 99, 105, 106, 112, 113, 126, 127, 133, 134, 143, 144, 145, 146, 154, 155, 161, 162, 168, 169, 173, 174, 178, 179]
end Mine

end

section
open PySem PySem.W PyProof.Rows PySem.SeqAt
set_option Elab.async false
set_option linter.all false
set_option autoImplicit false
namespace Mine
section
variable (P : Params)
/-- facts about the classes -/
theorem kT_get : findIn (KF P) (.ref 144) "__getattribute__" = some (some (.builtin "object.__getattribute__")) := by kernel_rfl
theorem kT_ga : findIn (KF P) (.ref 144) "__getattr__" = some none := by kernel_rfl
theorem kT_set : findIn (KF P) (.ref 144) "__setattr__" = some (some (.builtin "object.__setattr__")) := by kernel_rfl
theorem kT_over : plainOver (KF P) 144 = true := by kernel_rfl
theorem kT_dict : hasDictIn (KF P) 144 = true := by kernel_rfl
theorem kT_makes : makesIn (KF P) 144 = true := by kernel_rfl
noncomputable def attrs : List Str := ["_node2info", "_ready_nodes", "_npassedout", "_nfinished"]
theorem kT_attr : attrs.all (fun n => findIn (KF P) (.ref 144) n == some none) = true := by kernel_rfl
theorem kT_taker : attrs.all (fun n => takerIn (KF P) 144 n == some none) = true := by kernel_rfl
noncomputable def meths : List (Str × Addr) := [("__init__", 80), ("_get_nodeinfo", 87), ("add", 94), ("prepare", 99), ("get_ready", 106), ("is_active", 113), ("done", 127), ("_find_cycle", 134)]
theorem kT_meth : meths.all (fun n => findIn (KF P) (.ref 144) n.1 == some (some (.ref n.2)) && typeIn (KF P) (.ref n.2) == some (.type "function")) = true := by kernel_rfl
theorem kN_get : findIn (KF P) (.ref 47) "__getattribute__" = some (some (.builtin "object.__getattribute__")) := by kernel_rfl
theorem kN_ga : findIn (KF P) (.ref 47) "__getattr__" = some none := by kernel_rfl
theorem kN_set : findIn (KF P) (.ref 47) "__setattr__" = some (some (.builtin "object.__setattr__")) := by kernel_rfl
theorem kN_over : plainOver (KF P) 47 = true := by kernel_rfl
theorem kN_cls : (clsIn (KF P) 47).isSome = true := by kernel_rfl
theorem kN_makes : makesIn (KF P) 47 = true := by kernel_rfl
noncomputable def slotsN : List (Str × Addr × Nat) := [("node", 48, 0), ("npredecessors", 49, 1), ("successors", 50, 2)]
theorem kN_slot : slotsN.all (fun n => findIn (KF P) (.ref 47) n.1 == some (some (.ref n.2.1)) && specialIn (KF P) (.ref n.2.1) "__get__" == some (some (.builtin "member_descriptor.__get__")) &&
  takesIn (KF P) (.ref n.2.1) == some true && slotIn (KF P) n.2.1 47 == some n.2.2 && takerIn (KF P) 47 n.1 == some (some (.ref n.2.1)) && typeIn (KF P) (.ref n.2.1) == some (.type "member_descriptor")) = true := by kernel_rfl
theorem kN_init : findIn (KF P) (.ref 47) "__init__" = some (some (.ref 43)) ∧ typeIn (KF P) (.ref 43) = some (.type "function") := ⟨by kernel_rfl, by kernel_rfl⟩
theorem k_keep : [28, 47, 144, 80, 87, 94, 99, 106, 113, 127, 134, 155, 162, 169, 174, 179].all (fun a => keepIn (KF P) (.ref a)) = true := by kernel_rfl
end
end Mine

end

section
open PySem PySem.W PyProof.Rows PySem.SeqAt
set_option Elab.async false
set_option linter.all false
set_option autoImplicit false
namespace Mine
/-- the entries of an object's dict -/
noncomputable def Ent : List DictEntry → List (Str × Value) → Prop
  | [], [] => True
  | e :: es, p :: kv => (∃ t, e.key = .str p.1 t) ∧ e.val = p.2 ∧ Ent es kv
  | _, _ => False
noncomputable def putK (name : Str) (v : Value) : List (Str × Value) → List (Str × Value)
  | [] => [(name, v)]
  | p :: r => if p.1 = name then (p.1, v) :: r else p :: putK name v r
theorem isStr_iff (n m : Str) (t : Tok) : (Value.str n t).isStr m = decide (n = m) := by
  show (n == m) = decide (n = m)
  by_cases q : n = m <;> simp [q]
theorem Ent.put {name : Str} {v : Value} {hsh : Int} {t : Tok} : ∀ {es : List DictEntry} {kv : List (Str × Value)}, Ent es kv → Ent (putL name hsh (.str name t) v es) (putK name v kv)
  | [], [], _ => ⟨⟨t, rfl⟩, rfl, trivial⟩
  | e :: es, p :: kv, ⟨⟨u, h1⟩, h2, h3⟩ => by
    unfold putL putK
    rw [h1, isStr_iff]
    by_cases q : p.1 = name
    · simp only [q, decide_true, if_true]; exact ⟨⟨u, rfl⟩, rfl, h3⟩
    · simp only [q, decide_false, Bool.false_eq_true, if_false]; exact ⟨⟨u, h1⟩, h2, Ent.put h3⟩
  | [], _ :: _, x => x.elim
  | _ :: _, [], x => x.elim
theorem Ent.length : ∀ {es : List DictEntry} {kv : List (Str × Value)}, Ent es kv → es.length = kv.length
  | [], [], _ => rfl
  | _ :: _, _ :: _, x => by simp [Ent.length x.2.2]
  | [], _ :: _, x => x.elim
  | _ :: _, [], x => x.elim
theorem Ent.find {name : Str} : ∀ {es : List DictEntry} {kv : List (Str × Value)}, Ent es kv → getL name es = some (kv.lookup name)
  | [], [], _ => rfl
  | e :: es, p :: kv, ⟨⟨u, h1⟩, h2, h3⟩ => by
    have ih := Ent.find (name := name) h3
    unfold getL at ih ⊢
    rw [List.find?_cons, h1, isStr_iff, List.lookup_cons]
    by_cases q : p.1 = name
    · subst q; simp [h2]
    · have q' : (name == p.1) = false := by simp; exact fun z => q z.symm
      simp only [q, decide_false, q']
      rw [List.any_cons]
      have : e.refKey = false := by simp [DictEntry.refKey, h1]
      rw [this, Bool.false_or]
      exact ih
  | [], _ :: _, x => x.elim
  | _ :: _, [], x => x.elim

/-- all objects, one set apart -/
theorem ledger {h : Heap} {L x : Addr} {ox : Obj} (hx : h.get? x = some ox) (hne : x ≠ L) :
    ∃ post : List (Addr × Obj), News ⟨#[], h.life⟩ L h ([] ++ (x, ox) :: post) ∧ (∀ p ∈ post, p.1 ≠ x) ∧ ∀ b o, b ≠ x → b ≠ L → h.get? b = some o → (b, o) ∈ post := by
  have emp : ∀ b, (⟨#[], h.life⟩ : Heap).get? b = none := fun b => by simp [Heap.get?]
  refine ⟨(List.range h.objs.size).filterMap fun b => if b = x ∨ b = L then none else (h.get? b).map fun o => (b, o), fun p hp => ?_, fun p hp => ?_, fun b o h1 h2 e => ?_⟩
  · rw [List.nil_append] at hp
    rcases List.mem_cons.mp hp with rfl | hp
    · exact ⟨hx, hne, emp _⟩
    · obtain ⟨b, _, e⟩ := List.mem_filterMap.mp hp
      split at e
      · cases e
      · rename_i q
        obtain ⟨o, h1, rfl⟩ := Option.map_eq_some_iff.mp e
        exact ⟨h1, fun z => q (.inr z), emp _⟩
  · obtain ⟨b, _, e⟩ := List.mem_filterMap.mp hp
    split at e
    · cases e
    · rename_i q
      obtain ⟨o, h1, rfl⟩ := Option.map_eq_some_iff.mp e
      exact fun z => q (.inl z)
  · refine List.mem_filterMap.mpr ⟨b, List.mem_range.mpr (Heap.lt_size e), ?_⟩
    rw [if_neg (fun z => z.elim h1 h2), e]; rfl
theorem ledgerFr {h : Heap} {L : Addr} {m : Str → Option Value} (hn : h.Ns L m) : Fr ⟨#[], h.life⟩ L h m := ⟨hn, fun b o e => by simp [Heap.get?] at e, Nat.zero_le _⟩

/-- all but two -/
noncomputable def But (L D : Addr) (h h' : Heap) : Prop := ∀ b o, b ≠ D → b ≠ L → h.get? b = some o → h'.get? b = some o

noncomputable def Ins (h : Heap) (x dx : Addr) (kv : List (Str × Value)) : Prop :=
  h.get? x = some (instObj 144 dx) ∧ ∃ es n, h.get? dx = some (dictOf es n) ∧ Ent es kv
theorem Ins.inst {h : Heap} {x dx : Addr} {kv} (I : Ins h x dx kv) : ∃ es n, InstAt h x (instObj 144 dx) 144 (some (dictOf es n)) ∧ Ent es kv ∧ h.get? dx = some (dictOf es n) := by
  obtain ⟨h1, es, n, h2, h3⟩ := I
  exact ⟨es, n, ⟨h1, rfl, rfl, h2⟩, h3, h2⟩
noncomputable def Inf (h : Heap) (y dy : Addr) (a b c : Value) : Prop :=
  h.get? y = some { cls := .ref 47, dict := some dy, data := .plain, slots := #[some a, some b, some c] } ∧ h.get? dy = some emptyDict

section
variable {prog : Program} {w : World} {A : Around} {E : Value → Shared → Prop} {s : Shared} {x dx y dy : Addr} {kv : List (Str × Value)} {name : Str} {v a b c : Value}

theorem ins_get {Q : Value → Shared → Prop} {expr : Bool} (X : (KF w.params).In s.heap) (I : Ins s.heap x dx kv) (ha : name ∈ attrs) (hl : kv.lookup name = some v) (hv : handedIn v = true) (h : Q v { s with toks := s.toks + 1 }) :
    wpAny (model prog w) A (getAttr (.ref x) name expr) Q E s := by
  obtain ⟨es, n, I', he, _⟩ := I.inst
  have hf : findIn (KF w.params) (.ref 144) name = some none := by simpa using List.all_eq_true.mp (kT_attr w.params) name ha
  refine get_value X I' (kT_get _) (findObj_own (kT_dict _) hf rfl ?_) hv h
  rw [lookIn_dict, he.find, hl]
theorem ins_method {Q : Value × List Value → Shared → Prop} {f : Addr} {pl : Sem Bool} (X : (KF w.params).In s.heap) (I : Ins s.heap x dx kv) (hm : (name, f) ∈ meths) (hl : kv.lookup name = none) (h : Q (.ref f, [.ref x]) s) :
    wpAny (model prog w) A (getMethod (.ref x) name pl) Q E s := by
  obtain ⟨es, n, I', he, _⟩ := I.inst
  have hf := List.all_eq_true.mp (kT_meth w.params) (name, f) hm
  simp only [Bool.and_eq_true, beq_iff_eq] at hf
  refine method_fn X I' (kT_get _) (kT_ga _) hf.1 hf.2 ?_ h
  show (lookIn name (dictOf es n)).map (·.isSome) = some false
  rw [lookIn_dict, he.find, hl]; rfl
theorem ins_set {Q : Unit → Shared → Prop} {L : Addr} {m : Str → Option Value} (X : (KF w.params).In s.heap) (I : Ins s.heap x dx kv) (ha : name ∈ attrs) (hn : s.heap.Ns L m) (hL : dx ≠ L) (hz : kv.length ≤ 900)
    (h : ∀ h' tk, h'.Ns L m → Ins h' x dx (putK name v kv) → But L dx s.heap h' → Q () { s with heap := h', toks := tk }) : wpAny (model prog w) A (setAttr (.ref x) name v) Q E s := by
  obtain ⟨es, n, I', he, hd⟩ := I.inst
  have ht : takerIn (KF w.params) 144 name = some none := by simpa using List.all_eq_true.mp (kT_taker w.params) name ha
  obtain ⟨post, N, h1, h2⟩ := ledger hd hL
  have hxdx : x ≠ dx := by rintro rfl; rw [I'.at_] at hd; cases hd
  have hxL : x ≠ L := by
    rintro rfl
    obtain ⟨o, es, ep, ho, hdd, _⟩ := hn
    rw [I'.at_] at ho; cases ho; cases hdd
  refine set_plain X I' (kT_set _) (osa_dict (s := { s with toks := s.toks + 1 }) (pre := []) (ledgerFr hn) N X I' rfl (kT_over _) ht (kT_dict _) (by rw [lookIn_dict, he.find]; rfl) (fun p hp => by cases hp) h1
    (putName_dict _ _ _ _ _ _) rfl ?_ fun h' F' N' => ?_)
  · have e1 := (he.put (name := name) (v := v) (hsh := PyData.keyHash w.params name) (t := s.toks + 1)).length
    have : ∀ kv : List (Str × Value), (putK name v kv).length ≤ kv.length + 1 := by
      intro kv
      induction kv with
      | nil => simp [putK]
      | cons p r ih => unfold putK; split <;> simp; omega
    have := this kv
    exact Nat.le_trans (Nat.le_of_eq e1) (by omega)
  · refine h h' _ F'.ns ⟨?_, _, _, (N' _ List.mem_cons_self).1, he.put⟩ fun b o b1 b2 e => (N' (b, o) (List.mem_cons_of_mem _ (h2 b o b1 b2 e))).1
    exact (N' (x, instObj 144 dx) (List.mem_cons_of_mem _ (h2 x _ hxdx hxL I'.at_))).1

theorem Inf.inst {h : Heap} (I : Inf h y dy a b c) : InstAt h y { cls := .ref 47, dict := some dy, data := .plain, slots := #[some a, some b, some c] } 47 (some emptyDict) := ⟨I.1, rfl, rfl, I.2⟩
theorem inf_get {Q : Value → Shared → Prop} {expr : Bool} {p : Addr} {i : Nat} (X : (KF w.params).In s.heap) (I : Inf s.heap y dy a b c) (hm : (name, p, i) ∈ slotsN) (hv : (#[some a, some b, some c][i]?).join = some v) (hh : handedIn v = true) (h : Q v { s with toks := s.toks + 1 }) :
    wpAny (model prog w) A (getAttr (.ref y) name expr) Q E s := by
  have hf := List.all_eq_true.mp (kN_slot w.params) (name, p, i) hm
  simp only [Bool.and_eq_true, beq_iff_eq] at hf
  obtain ⟨⟨⟨⟨⟨f1, f2⟩, f3⟩, f4⟩, f5⟩, f6⟩ := hf
  refine get_bind X I.inst (kN_get _) (findObj_data (kN_cls _) f1 f2 f3) (kN_ga _) (wpAny_call ?_)
  refine slot_get (s := { s with toks := s.toks + 1 }) X I.inst f4 hv ?_
  show wpAny _ _ (handedOut v) _ _ _
  rw [handedOut_of hh]; exact wpAny_pure h
/-- a slot is set; ox: what stood there -/
theorem slot_put {Q : Unit → Shared → Prop} {L p : Addr} {i : Nat} {m : Str → Option Value} {sl : Array (Option Value)} (X : (KF w.params).In s.heap) (hy : s.heap.get? y = some { cls := .ref 47, dict := some dy, data := .plain, slots := sl }) (hdy : s.heap.get? dy = some emptyDict)
    (hm : (name, p, i) ∈ slotsN) (hn : s.heap.Ns L m)
    (h : ∀ h' tk, h'.Ns L m → h'.get? y = some { cls := .ref 47, dict := some dy, data := .plain, slots := (sl ++ Array.replicate (i + 1 - sl.size) none).setIfInBounds i (some v) } → But L y s.heap h' → Q () { s with heap := h', toks := tk }) :
    wpAny (model prog w) A (setAttr (.ref y) name v) Q E s := by
  have hf := List.all_eq_true.mp (kN_slot w.params) (name, p, i) hm
  simp only [Bool.and_eq_true, beq_iff_eq] at hf
  obtain ⟨⟨⟨⟨⟨f1, f2⟩, f3⟩, f4⟩, f5⟩, f6⟩ := hf
  have hyL : y ≠ L := by
    rintro rfl
    obtain ⟨o, es, ep, ho, hdd, _⟩ := hn
    rw [hy] at ho; cases ho; cases hdd
  have I : InstAt s.heap y { cls := .ref 47, dict := some dy, data := .plain, slots := sl } 47 (some emptyDict) := ⟨hy, rfl, rfl, hdy⟩
  obtain ⟨post, N, h1, h2⟩ := ledger hy hyL
  refine set_plain X I (kN_set _) (osa_descr (s := { s with toks := s.toks + 1 }) KF.slot_mset X I (kN_over _) f5 f6 ?_)
  refine slot_set (s := { s with toks := s.toks + 1 }) (pre := []) (ledgerFr hn) N X I f4 ?_ (fun p hp => by cases hp) h1 rfl rfl fun h' F' N' => ?_
  · have : i ≤ 2 := by
      simp only [slotsN, List.mem_cons, Prod.mk.injEq, List.not_mem_nil, or_false] at hm
      omega
    omega
  · exact h h' _ F'.ns (N' _ List.mem_cons_self).1 fun b o b1 b2 e => (N' (b, o) (List.mem_cons_of_mem _ (h2 b o b1 b2 e))).1
theorem inf_set {Q : Unit → Shared → Prop} {L : Addr} {m : Str → Option Value} (X : (KF w.params).In s.heap) (I : Inf s.heap y dy a b c) (hn : s.heap.Ns L m) (hL : dy ≠ L)
    (h : ∀ h' tk, h'.Ns L m → Inf h' y dy a v c → But L y s.heap h' → Q () { s with heap := h', toks := tk }) : wpAny (model prog w) A (setAttr (.ref y) "npredecessors" v) Q E s := by
  refine slot_put (p := 49) (i := 1) X I.1 I.2 (by decide) hn fun h' tk n' g B => h h' tk n' ⟨g, B dy _ ?_ hL I.2⟩ B
  rintro rfl
  have := I.1; rw [I.2] at this; cases this
end
end Mine

end

section
open PySem PySem.W PyProof.Rows PySem.SeqAt
set_option Elab.async false
set_option linter.all false
set_option autoImplicit false
namespace Mine
noncomputable def fnD (nm qn : Str) (D : List Stmt) (dv pm cd : Value) : FuncData :=
  { name := nm, qualname := qn, params := defParams D, body := .stmts (defBody D), scope := defScope D, globals := 3, closure := [], defaults := dv, kwdefaults := .none, doc := .none, pyModule := pm, annotations := none, code := cd, closureTuple := .none, builtins := 0 }
section
variable {prog : Program} {w : World} {k : Nat}
noncomputable def BindTo (prog : Program) (w : World) (s : Shared) (fd : FuncData) (vs : List Value) (binds : List (Str × Value)) (h1 : Heap) : Prop :=
  ∀ (A : Around) (E : Value → Shared → Prop) (Q : List (Str × Value) → Shared → Prop), Q binds { s with heap := h1 } → wpAny (model prog w) A (bindArgs fd ⟨vs, []⟩) Q E s
theorem bind_pure {s : Shared} {fd : FuncData} {vs : List Value} {binds : List (Str × Value)} (e : bindArgs fd ⟨vs, []⟩ = pure binds) : BindTo prog w s fd vs binds s.heap := fun A E Q h => by rw [e]; exact wpAny_pure h
theorem bind_add {s : Shared} {nm qn : Str} {pm cd : Value} {x n : Value} {ps : List Value} (hz : ps.length ≤ sizeLine) :
    BindTo prog w s (fnD nm qn (sortC.drop 2) .none pm cd) (x :: n :: ps) [("self", x), ("node", n), ("predecessors", .ref s.heap.objs.size)] (s.heap.push { cls := .type "tuple", data := .seq ps.toArray }) := fun A E Q h => by
  have e : bindArgs (fnD nm qn (sortC.drop 2) .none pm cd) ⟨x :: n :: ps, []⟩ = (do let t ← newTuple ps; pure [("self", x), ("node", n), ("predecessors", t)]) := by
    unfold bindArgs
    have h2 : (fnD nm qn (sortC.drop 2) .none pm cd).params.vararg.isNone = false := rfl
    dsimp only
    rw [h2, Bool.and_false]
    rfl
  rw [e]
  exact wpAny_bind (wpAny_newTuple (wpAny_pure h) hz)
theorem bind_done {s : Shared} {nm qn : Str} {pm cd : Value} {x : Value} {ps : List Value} (hz : ps.length ≤ sizeLine) :
    BindTo prog w s (fnD nm qn (sortC.drop 7) .none pm cd) (x :: ps) [("self", x), ("nodes", .ref s.heap.objs.size)] (s.heap.push { cls := .type "tuple", data := .seq ps.toArray }) := fun A E Q h => by
  have e : bindArgs (fnD nm qn (sortC.drop 7) .none pm cd) ⟨x :: ps, []⟩ = (do let t ← newTuple ps; pure [("self", x), ("nodes", t)]) := by
    unfold bindArgs
    have h2 : (fnD nm qn (sortC.drop 7) .none pm cd).params.vararg.isNone = false := rfl
    dsimp only
    rw [h2, Bool.and_false]
    rfl
  rw [e]
  exact wpAny_bind (wpAny_newTuple (wpAny_pure h) hz)
theorem bind_init {s : Shared} {nm qn : Str} {pm cd : Value} {x g : Value} (h73 : s.heap.get? 73 = some { cls := .type "tuple", data := .seq #[.none] }) :
    BindTo prog w s (fnD nm qn sortC (.ref 73) pm cd) [x, g] [("self", x), ("graph", g)] s.heap := fun A E Q h => by
  show wpAny _ _ (seqItems? (.ref 73) >>= _) _ _ _
  refine wpAny_bind ?_
  unfold seqItems?
  refine wpAny_bind (wpAny_load h73 (wpAny_pure ?_))
  exact wpAny_pure h

theorem pinB_lookup : ∀ {binds : List (Str × Value)} {y : Str} {p : Pr}, (binds.map fun b => (b.1, prV b.2)).lookup y = some p → ∃ v, (y, v) ∈ binds ∧ p = prV v
  | [], y, p, e => by simp at e
  | (x, v) :: r, y, p, e => by
    rw [List.map_cons, lk_cons] at e
    by_cases q : y = x
    · subst q; simp at e; exact ⟨v, List.mem_cons_self, e.symm⟩
    · simp only [q, if_false] at e
      obtain ⟨u, h1, h2⟩ := pinB_lookup e
      exact ⟨u, List.mem_cons_of_mem _ h1, h2⟩
theorem run_fn {A : Around} {s : Shared} {R : Result → Shared → Prop} {a : Addr} {nm qn : Str} {D : List Stmt} {dv pm cd : Value} {vs : List Value} {binds : List (Str × Value)} {h1 : Heap}
    (rm : Room (k + 1) A) (ho : s.heap.get? a = some (fnO nm qn D dv pm cd)) (hlim : s.heap.NoLimit) (hcd : s.heap.CodeRec cd qn) (hb : BindTo prog w s (fnD nm qn D dv pm cd) vs binds h1) (hx1 : Ext s.heap h1)
    (hnd : (binds.map (·.1)).Nodup) (hkd : ∀ b ∈ binds, (defScope D).names.lookup b.1 = some .local ∨ (defScope D).names.lookup b.1 = some .cell)
    (hco : (defScope D).isCoroutine = false) (hgen : (defScope D).isGenerator = false) (hk : (defScope D).kind = .function)
    (h : ∀ env h2 tk, env = callEnvC (fnD nm qn D dv pm cd) h1.objs.size a → env.scope = defScope D → env.globals = mainGlobals → env.builtins = builtinsNs → Fm h1 h2 env (binds.map fun b => (b.1, prV b.2)) → (∀ b o, h1.get? b = some o → Off env b) → Room k (A.deeper env) →
      wpAny (model prog w) (A.deeper env) (execs (defBody D) env) (fun f s' => R (.ok (.ret (match f with | .ret v => v | _ => .none))) s')
        (fun e s' => wpAny (model prog w) (A.deeper env) (leaving env e) (fun _ s'' => R (.error e) s'') (fun e' s'' => R (.error e') s'') s') { s with heap := h2, toks := tk }) :
    codeAny (model prog w) A (.call (.ref a) ⟨vs, []⟩) R s := by
  have cs : ∀ y, (defScope D).names.lookup y = some .cell → ∀ n, ((cellsFrom n (defScope D).names []).lookup y).isSome = true := fun y hy n => cells_isSome (defScope D).names n [] (.inl hy)
  refine codeAny_call_function (fd := fnD nm qn D dv pm cd) rm.lim ho rfl hco hgen rfl hcd (hb _ _ _ ?_)
  show wpAny _ _ (newFunctionEnv _ _ [] _ _ _ _ _ _) _ _ _
  refine wpAny_newFunctionEnv_cells (s := { s with heap := h1 }) hk (fun b hb => ?_) fun env he s' x => ?_
  · rcases hkd _ hb with q | q
    · exact .inl q
    · exact .inr ⟨q, cs _ q _⟩
  · subst he
    refine ⟨(hlim.keeps hx1).keeps x.toInCall.keep, codeAny_func ?_⟩
    have F := fm_entry (s := { s with heap := h1 }) (fd := fnD nm qn D dv pm cd) (a := a) (ρ := binds.map fun b => (b.1, prV b.2)) x hk hnd (fun y hy => cs y hy 0) (fun y p hy => by
      obtain ⟨v, q1, rfl⟩ := pinB_lookup hy
      exact ⟨hkd (y, v) q1, v, q1, rfl⟩)
    obtain ⟨h2, tk, rfl⟩ := x.toInCall.same
    refine h _ h2 tk rfl rfl rfl rfl F (fun b o e => ⟨Nat.ne_of_lt (Heap.lt_size e), fun z q => ?_⟩) (rm.deeper _)
    have := x.above z b (mem_of_lookup q)
    exact absurd (Heap.lt_size e) (Nat.not_lt.mpr (Nat.le_of_lt this))
end
end Mine

end

section
open PySem PySem.W PyProof.Rows PySem.SeqAt
set_option Elab.async false
set_option linter.all false
set_option autoImplicit false
namespace Mine
section
variable {prog : Program} {w : World} {k : Nat} {A : Around} {E : Value → Shared → Prop} {s : Shared} {env : Env} {x dx y dy : Addr} {kv : List (Str × Value)} {name : Str} {v a b c : Value}

theorem kT_bind (P : Params) : meths.all (fun n => specialIn (KF P) (.ref n.2) "__get__" == some (some (.builtin "function.__get__")) && takesIn (KF P) (.ref n.2) == some false && !copiedNames.contains n.1) = true := by kernel_rfl
theorem k_fns (P : Params) : meths.all (fun n => fnIn (KF P) n.2 && keepIn (KF P) (.ref n.2)) = true := by kernel_rfl

/-- x.name as a value: a method object -/
theorem ins_bound {Q : Value → Shared → Prop} {f : Addr} {expr : Bool} (X : (KF w.params).In s.heap) (I : Ins s.heap x dx kv) (hm : (name, f) ∈ meths) (hl : kv.lookup name = none)
    (h : Q (.ref s.heap.objs.size) { s with heap := s.heap.push (methodObj (.ref f) (.ref x)), toks := s.toks + 1 }) : wpAny (model prog w) A (getAttr (.ref x) name expr) Q E s := by
  obtain ⟨es, n, I', he, _⟩ := I.inst
  have hf := List.all_eq_true.mp (kT_meth w.params) (name, f) hm
  have hb := List.all_eq_true.mp (kT_bind w.params) (name, f) hm
  simp only [Bool.and_eq_true, beq_iff_eq, Bool.not_eq_true'] at hf hb
  obtain ⟨cd, hc, hd⟩ := any_some (kT_dict w.params)
  have ho : W.ownOf cd (some (dictOf es n)) name = some none := by unfold W.ownOf; rw [if_pos hd]; show lookIn name (dictOf es n) = _; rw [lookIn_dict, he.find, hl]
  refine get_bind X I' (kT_get _) (g := .builtin "function.__get__") (a := .ref f) ?_ (kT_ga _) (wpAny_call ?_)
  · unfold findObj
    rw [hc, Option.bind_some, hf.1, Option.bind_some]
    simp only [hb.1.1, hb.1.2, Option.bind_some, ho, hb.2, Bool.false_and, Bool.false_eq_true, if_false]
  · refine fn_get (s := { s with toks := s.toks + 1 }) X hf.2 ?_
    show wpAny _ _ (handedOut _) _ _ _
    rw [handedOut_of rfl]; exact wpAny_pure h

/-- a sequence after a star -/
theorem notIter_seq {T : String} {o : Obj} {Q : Bool → Shared → Prop} {at_ : Addr} (D : s.heap.get? at_ = some o) (hc : o.cls = .type T) (hT : T = "list" ∨ T = "tuple") (h : Q false s) :
    wpAny (model prog w) A (notIterableAtAll (.ref at_)) Q E s := by
  have hT' : s.TypeIs (.ref at_) T := ⟨o, D, hc⟩
  unfold notIterableAtAll
  refine wpAny_bind ?_
  rcases hT with rfl | rfl
  · exact wpAny_specialOf hT' PySem.F.slot_list_iter.lookup (wpAny_pure h)
  · exact wpAny_specialOf hT' PySem.F.slot_tuple_iter.lookup (wpAny_pure h)
noncomputable def SeqV (vs : List Value) : Value → Heap → Prop := fun v h => ∃ a o n, v = .ref a ∧ h.get? a = some o ∧ (o.cls = .type "list" ∨ o.cls = .type "tuple") ∧ o.data = .seq vs.toArray n
theorem spl_star {m : Sem Value} {Q : List Value → Shared → Prop} (h : wpAny (model prog w) A m (fun v s1 => ∃ vs, vs.length ≤ sizeLine ∧ SeqV vs v s1.heap ∧ ∀ h', Ext s1.heap h' → Q vs { s1 with heap := h' }) E s) :
    wpAny (model prog w) A (spliced [(true, m)]) Q E s := by
  rw [spliced]
  refine wpAny_bind (wpAny_mono h (fun v s1 h1 => ?_) fun _ _ x => x)
  obtain ⟨vs, hz, ⟨at_, o, n, rfl, D, hc, hd⟩, hq⟩ := h1
  have fin : ∀ h', Ext s1.heap h' → wpAny (model prog w) A (do let r ← holding vs (spliced []); pure (vs ++ r)) Q E { s1 with heap := h' } := fun h' e => by
    rw [spliced]
    refine wpAny_bind (wpAny_holding (wpAny_pure (wpAny_pure ?_)))
    rw [List.append_nil]; exact hq h' e
  have z : ∀ (k : List Value → Sem (List Value)), (∀ h', Ext s1.heap h' → wpAny (model prog w) A (k vs) Q E { s1 with heap := h' }) → wpAny (model prog w) A (collect (.ref at_) >>= k) Q E s1 := fun k hk => by
    refine wpAny_bind ?_
    rcases hc with hc | hc
    · exact wpAny_collect_seq at_ (.inl rfl) D hc hd (fun h' e => hk h' e) (by simpa using hz)
    · exact wpAny_collect_seq at_ (.inr rfl) D hc hd (fun h' e => hk h' e) (by simpa using hz)
  have ni : ∀ {Q' : Bool → Shared → Prop}, Q' false s1 → wpAny (model prog w) A (notIterableAtAll (.ref at_)) Q' E s1 := fun h => by
    rcases hc with hc | hc
    · exact notIter_seq D hc (.inl rfl) h
    · exact notIter_seq D hc (.inr rfl) h
  simp only [if_true]
  first
    | (refine wpAny_bind (wpAny_bind (ni ?_))
       simp only [Bool.false_eq_true, if_false]
       first | exact z _ fin | exact wpAny_bind (z _ fin) | (refine wpAny_pure ?_; exact z _ fin))
    | (refine wpAny_bind (ni ?_)
       simp only [Bool.false_eq_true, if_false]
       first | exact z _ fin | exact wpAny_bind (wpAny_pure (z _ fin)))

theorem lone_star {f : Value} {m : Sem Value} {Q : Args → Shared → Prop} (h : wpAny (model prog w) A m (fun v s1 => ∃ vs, vs.length ≤ sizeLine ∧ SeqV vs v s1.heap ∧ ∀ h', Ext s1.heap h' → Q ⟨vs, []⟩ { s1 with heap := h' }) E s) :
    wpAny (model prog w) A (evalArgs f true [(true, m)] []) Q E s := by
  unfold evalArgs
  refine wpAny_bind (wpAny_mono h (fun v s1 h1 => wpAny_bind (wpAny_pure ?_)) fun _ _ x => x)
  obtain ⟨vs, hz, ⟨at_, o, n, rfl, D, hc, hd⟩, hq⟩ := h1
  dsimp only
  refine wpAny_holding ?_
  refine wpAny_bind (wpAny_pure (wpAny_bind (wpAny_bind ?_)))
  have z : wpAny (model prog w) A (collect (.ref at_)) (fun vs s' => Q ⟨vs, []⟩ s') E s1 := by
    rcases hc with hc | hc
    · exact wpAny_collect_seq at_ (.inl rfl) D hc hd (fun h' e => hq h' e) (by simpa using hz)
    · exact wpAny_collect_seq at_ (.inr rfl) D hc hd (fun h' e => hq h' e) (by simpa using hz)
  have ni : ∀ {Q' : Bool → Shared → Prop}, Q' false s1 → wpAny (model prog w) A (notIterableAtAll (.ref at_)) Q' E s1 := fun h => by
    rcases hc with hc | hc
    · exact notIter_seq D hc (.inl rfl) h
    · exact notIter_seq D hc (.inr rfl) h
  refine ni ?_
  simp only [Bool.false_eq_true, if_false]
  exact wpAny_holding (wpAny_mono z (fun vs s' q => wpAny_pure q) fun _ _ e => e)
/-- f(.., *xs) where f is a method object -/
theorem callWith_star {q f : Addr} {self : Value} {pos : Pos} {args : List (Bool × Sem Value)} {Q : Value → Shared → Prop} (hst : args.any (·.1) = true) (hf : fnIn (KF w.params) f = true)
    (h : wpAny (model prog w) A (evalArgs (.ref q) true args []) (fun a s1 => MethP (KF w.params) q f self s1.heap ∧ a.kw = [] ∧ wpAny (model prog w) A (call (.ref q) a.pos) Q E s1) E s) : wpAny (model prog w) A (callWith pos (.ref q) [] args []) Q E s := by
  unfold callWith
  refine wpAny_bind (wpAny_holding (wpAny_mono h (fun a s1 h1 => wpAny_bind (wpAny_standAt ?_)) fun _ _ x => x))
  obtain ⟨X, hkw, h1⟩ := h1
  have L : Looks (model prog w) s1.heap (keeperOf (.ref q)) .boundFrame := by
    unfold fnIn at hf
    split at hf
    · rename_i e
      refine (Looks.ld (part := none) X.1).andThen ?_
      exact (Looks.ld (part := none) (X.2 _ _ e)).andThen .now
    · cases hf
  simp only [hst, Bool.true_or, List.nil_append, hkw]
  refine wpAny_bind (L.here ?_)
  dsimp only
  exact wpAny_bind (wpAny_mono (wpAny_operateT h1) (fun r s2 hr => wpAny_bind (wpAny_holding (wpAny_point (wpAny_pure hr)))) fun _ _ x => x)
end
end Mine

end

section
open PySem PySem.W PyProof.Rows PySem.SeqAt
set_option Elab.async false
set_option linter.all false
set_option autoImplicit false
namespace Mine
abbrev IsV (v : Value) : Value → Heap → Prop := fun u _ => u = v
noncomputable def RQ (Q : Value → Shared → Prop) (E : Value → Shared → Prop) : Result → Shared → Prop := fun r s' => match r with | .ok (.ret v) => Q v s' | .ok _ => False | .error e => E e s'
theorem weight_tc (a : Args) : (Code.builtin "type.__call__" a).weight ≤ 1 := by
  show 0 + (if (Code.builtin "type.__call__" a).isCreation = true then 1 else 0) + 0 + 0 ≤ 1
  split <;> decide
theorem units_tc (a : Args) : (Code.builtin "type.__call__" a).cUnits ≤ 8 := Nat.le_of_ble_eq_true (by rfl)
theorem Room.under {k : Nat} {A : Around} {a : Args} (r : Room (k + 1) A) : Room k (A.under (.builtin "type.__call__" a)) :=
  ⟨r.handled, Nat.lt_of_le_of_lt (show A.depth + (Code.builtin "type.__call__" a).weight + k ≤ A.depth + (k + 1) by rw [Nat.add_assoc, Nat.add_comm k]; exact Nat.add_le_add_left (Nat.add_le_add_right (weight_tc a) k) _) r.depth,
    Nat.lt_of_le_of_lt (show A.units + (Code.builtin "type.__call__" a).cUnits + 8 * k ≤ A.units + 8 * (k + 1) by rw [Nat.add_assoc, Nat.mul_succ, Nat.add_comm (8 * k)]; exact Nat.add_le_add_left (Nat.add_le_add_right (units_tc a) _) _) r.units⟩
section
variable {prog : Program} {w : World} {k : Nat} {A : Around} {E : Value → Shared → Prop} {s : Shared} {env : Env} {h h0 : Heap} {ρ : Locs} {x dx y dy : Addr} {kv : List (Str × Value)} {name : Str} {v a b c : Value}

theorem Ins.ext {h' : Heap} (I : Ins h x dx kv) (e : Ext h h') : Ins h' x dx kv := let ⟨h1, es, n, h2, h3⟩ := I; ⟨e _ _ h1, es, n, e _ _ h2, h3⟩
theorem Inf.ext {h' : Heap} (I : Inf h y dy a b c) (e : Ext h h') : Inf h' y dy a b c := ⟨e _ _ I.1, e _ _ I.2⟩
theorem KIn.ext {h' : Heap} (X : (KF w.params).In h) (e : Ext h h') : (KF w.params).In h' := fun a o q => e _ _ (X a o q)

theorem ev_attr {o : Expr} {pos : Pos} (X : (KF w.params).In h) (I : Ins h x dx kv) (ho : EvP prog w k env h o (IsV (.ref x))) (ha : name ∈ attrs) (hl : kv.lookup name = some v) (hv : handedIn v = true)
    (hbase : attributeBase o name env (eval o env) = eval o env := by rfl) : EvP prog w k env h (.Attribute o name pos) (IsV v) := fun A s E Q rm hx hq => by
  rw [arm_eval_Attribute, hbase]
  refine wpAny_bind (ho A s E _ rm hx fun u h1 t1 e1 p1 => wpAny_bind (wpAny_standAt (wpAny_bind (wpAny_holding ?_))))
  cases p1
  refine ins_get (s := { s with heap := h1, toks := t1 }) (KIn.ext X (hx.trans e1)) (I.ext (hx.trans e1)) ha hl hv ?_
  exact wpAny_bind (wpAny_letTemporaryGo (wpAny_pure (hq v h1 _ e1 rfl)))
theorem ev_slot {o : Expr} {pos : Pos} {p : Addr} {i : Nat} (X : (KF w.params).In h) (I : Inf h y dy a b c) (ho : EvP prog w k env h o (IsV (.ref y))) (hm : (name, p, i) ∈ slotsN) (hl : (#[some a, some b, some c][i]?).join = some v) (hv : handedIn v = true)
    (hbase : attributeBase o name env (eval o env) = eval o env := by rfl) : EvP prog w k env h (.Attribute o name pos) (IsV v) := fun A s E Q rm hx hq => by
  rw [arm_eval_Attribute, hbase]
  refine wpAny_bind (ho A s E _ rm hx fun u h1 t1 e1 p1 => wpAny_bind (wpAny_standAt (wpAny_bind (wpAny_holding ?_))))
  cases p1
  refine inf_get (s := { s with heap := h1, toks := t1 }) (KIn.ext X (hx.trans e1)) (I.ext (hx.trans e1)) hm hl hv ?_
  exact wpAny_bind (wpAny_letTemporaryGo (wpAny_pure (hq v h1 _ e1 rfl)))

/-- x.name() -/
theorem meth0 {o : Expr} {apos pos : Pos} {f : Addr} {Q : Value → Shared → Prop} (rm : Room k A) (X : (KF w.params).In s.heap) (I : Ins s.heap x dx kv) (ho : EvP prog w k env s.heap o (IsV (.ref x))) (hm : (name, f) ∈ meths) (hl : kv.lookup name = none)
    (h : ∀ h1 tk, Ext s.heap h1 → codeAny (model prog w) A (.call (.ref f) ⟨[.ref x], []⟩) (RQ Q E) { s with heap := h1, toks := tk })
    (hbase : attributeBase o name env (eval o env) = eval o env := by rfl) (hline : (apos.endLine == pos.line) = true := by rfl) :
    wpAny (model prog w) A (eval (.Call (.Attribute o name apos) [] [] pos) env) Q E s := by
  rw [arm_eval_Call, hbase]
  refine wpAny_bind (ho A s E _ rm (.refl _) fun u h1 t1 e1 p1 => wpAny_bind (wpAny_standAt ?_))
  cases p1
  have hk := List.all_eq_true.mp (k_fns w.params) (name, f) hm
  simp only [Bool.and_eq_true] at hk
  refine wpAny_bind (wpAny_holding (ins_method (s := { s with heap := h1, toks := t1 }) (KIn.ext X e1) (I.ext e1) hm hl ?_))
  dsimp only
  have e : methodCallPos (methodCallForm 0 (backTo pos (starEach [] env)) (backToKw pos (keywordEach [] env))) o env apos pos = pure pos := by
    unfold methodCallPos; rw [hline, Bool.or_true]; rfl
  refine wpAny_bind ?_
  show wpAny _ _ (methodCallPos (methodCallForm 0 (backTo pos (starEach [] env)) (backToKw pos (keywordEach [] env))) o env apos pos) _ _ _
  rw [e]
  exact wpAny_pure (callWith_K0 (KIn.ext X e1) hk.2 (wpAny_call (h h1 t1 e1)))
/-- x.name(e) -/
theorem meth1 {o e1 : Expr} {apos pos : Pos} {f : Addr} {P : Value → Heap → Prop} {Q : Value → Shared → Prop} (rm : Room k A) (X : (KF w.params).In s.heap) (I : Ins s.heap x dx kv) (ho : EvP prog w k env s.heap o (IsV (.ref x))) (hm : (name, f) ∈ meths) (hl : kv.lookup name = none)
    (he : EvP prog w k env s.heap e1 P) (h : ∀ u h1 tk, Ext s.heap h1 → P u h1 → codeAny (model prog w) A (.call (.ref f) ⟨[.ref x, u], []⟩) (RQ Q E) { s with heap := h1, toks := tk })
    (hst : starEach [e1] env = [(false, eval e1 env)] := by rfl)
    (hbase : attributeBase o name env (eval o env) = eval o env := by rfl) (hline : (apos.endLine == pos.line) = true := by rfl) :
    wpAny (model prog w) A (eval (.Call (.Attribute o name apos) [e1] [] pos) env) Q E s := by
  rw [arm_eval_Call, hbase]
  refine wpAny_bind (ho A s E _ rm (.refl _) fun u h1 t1 x1 p1 => wpAny_bind (wpAny_standAt ?_))
  cases p1
  have hk := List.all_eq_true.mp (k_fns w.params) (name, f) hm
  simp only [Bool.and_eq_true] at hk
  have e : methodCallPos (methodCallForm 1 (backTo pos (starEach [e1] env)) (backToKw pos (keywordEach [] env))) o env apos pos = pure pos := by
    unfold methodCallPos; rw [hline, Bool.or_true]; rfl
  have e2 : methodCallForm 1 (backTo pos (starEach [e1] env)) (backToKw pos (keywordEach [] env)) = true := by rw [hst]; rfl
  show wpAny _ _ (holding [.ref x] (calleeOf (methodCallForm 1 (backTo pos (starEach [e1] env)) (backToKw pos (keywordEach [] env))) o env (.ref x) name) >>= fun p => methodCallPos (methodCallForm 1 (backTo pos (starEach [e1] env)) (backToKw pos (keywordEach [] env))) o env apos pos >>= fun cp => callWith cp p.1 p.2 (backTo pos (starEach [e1] env)) (backToKw pos (keywordEach [] env))) _ _ _
  rw [e, e2]
  refine wpAny_bind (wpAny_holding (ins_method (s := { s with heap := h1, toks := t1 }) (KIn.ext X x1) (I.ext x1) hm hl ?_))
  refine wpAny_bind (wpAny_pure ?_)
  refine callWith_K (KIn.ext X x1) hk.2 (args_cons (he A _ E _ rm x1 fun u h2 t2 x2 p2 => args_nil ⟨KIn.ext X (x1.trans x2), wpAny_call (h u h2 t2 (x1.trans x2) p2)⟩) hst) hst
/-- x.name(*e) -/
theorem methS {o e1 : Expr} {sp apos pos : Pos} {f : Addr} {Q : Value → Shared → Prop} (rm : Room k A) (X : (KF w.params).In s.heap) (I : Ins s.heap x dx kv) (ho : EvP prog w k env s.heap o (IsV (.ref x))) (hm : (name, f) ∈ meths) (hl : kv.lookup name = none)
    (PS : List Value → Prop) (hz : ∀ vs, PS vs → vs.length ≤ sizeLine) (he : EvP prog w k env s.heap e1 fun v h => ∃ vs, PS vs ∧ SeqV vs v h) (h : ∀ vs h1 tk, Ext s.heap h1 → PS vs → codeAny (model prog w) A (.call (.ref f) ⟨.ref x :: vs, []⟩) (RQ Q E) { s with heap := h1, toks := tk })
    (hst : starEach [.Starred e1 sp] env = [(true, eval e1 env)] := by rfl)
    (hbase : attributeBase o name env (eval o env) = eval o env := by rfl) :
    wpAny (model prog w) A (eval (.Call (.Attribute o name apos) [.Starred e1 sp] [] pos) env) Q E s := by
  rw [arm_eval_Call, hbase]
  refine wpAny_bind (ho A s E _ rm (.refl _) fun u h1 t1 x1 p1 => wpAny_bind (wpAny_standAt ?_))
  cases p1
  have hk := List.all_eq_true.mp (k_fns w.params) (name, f) hm
  simp only [Bool.and_eq_true] at hk
  have e2 : methodCallForm 1 (backTo pos (starEach [.Starred e1 sp] env)) (backToKw pos (keywordEach [] env)) = false := by rw [hst]; rfl
  show wpAny _ _ (holding [.ref x] (calleeOf (methodCallForm 1 (backTo pos (starEach [.Starred e1 sp] env)) (backToKw pos (keywordEach [] env))) o env (.ref x) name) >>= fun p => methodCallPos (methodCallForm 1 (backTo pos (starEach [.Starred e1 sp] env)) (backToKw pos (keywordEach [] env))) o env apos pos >>= fun cp => callWith cp p.1 p.2 (backTo pos (starEach [.Starred e1 sp] env)) []) _ _ _
  rw [e2, hst]
  refine wpAny_bind (wpAny_holding (wpAny_bind (ins_bound (s := { s with heap := h1, toks := t1 }) (KIn.ext X x1) (I.ext x1) hm hl (wpAny_pure ?_))))
  refine wpAny_bind (m := methodCallPos false o env apos pos) (wpAny_pure ?_)
  have x2 : Ext s.heap (h1.push (methodObj (.ref f) (.ref x))) := x1.trans (Ext.push _ _)
  have hq : (h1.push (methodObj (.ref f) (.ref x))).get? h1.objs.size = some (methodObj (.ref f) (.ref x)) := Heap.get?_push_size _ rfl
  refine callWith_star (f := f) (self := .ref x) rfl hk.1 (lone_star ?_)
  refine wpAny_bind (he A { s with heap := h1.push (methodObj (.ref f) (.ref x)), toks := t1 + 1 } E _ rm x2 fun u h2 t2 x3 ⟨vs, p1, p2⟩ => wpAny_bind (wpAny_standAt (wpAny_pure ⟨vs, hz vs p1, p2, fun h3 x4 => ?_⟩)))
  have x5 := (x2.trans x3).trans x4
  exact ⟨⟨(x3.trans x4) _ _ hq, KIn.ext X x5⟩, rfl, wpAny_call (method_call ((x3.trans x4) _ _ hq) (h vs h3 t2 x5 p1))⟩
/-- x.name(e1, *e2) -/
theorem methS2 {o e1 e2 : Expr} {sp apos pos : Pos} {f : Addr} {P : Value → Heap → Prop} {Q : Value → Shared → Prop} (rm : Room k A) (X : (KF w.params).In s.heap) (I : Ins s.heap x dx kv) (ho : EvP prog w k env s.heap o (IsV (.ref x))) (hm : (name, f) ∈ meths) (hl : kv.lookup name = none)
    (he1 : EvP prog w k env s.heap e1 P) (m1 : ∀ v h h', Ext h h' → P v h → P v h') (PS : List Value → Prop) (hz : ∀ vs, PS vs → vs.length ≤ sizeLine) (he2 : EvP prog w k env s.heap e2 fun v h => ∃ vs, PS vs ∧ SeqV vs v h)
    (h : ∀ u vs h1 tk, Ext s.heap h1 → P u h1 → PS vs → codeAny (model prog w) A (.call (.ref f) ⟨.ref x :: u :: vs, []⟩) (RQ Q E) { s with heap := h1, toks := tk })
    (hst : starEach [e1, .Starred e2 sp] env = [(false, eval e1 env), (true, eval e2 env)] := by rfl)
    (hbase : attributeBase o name env (eval o env) = eval o env := by rfl) :
    wpAny (model prog w) A (eval (.Call (.Attribute o name apos) [e1, .Starred e2 sp] [] pos) env) Q E s := by
  rw [arm_eval_Call, hbase]
  refine wpAny_bind (ho A s E _ rm (.refl _) fun u h1 t1 x1 p1 => wpAny_bind (wpAny_standAt ?_))
  cases p1
  have hk := List.all_eq_true.mp (k_fns w.params) (name, f) hm
  simp only [Bool.and_eq_true] at hk
  have e3 : methodCallForm 2 (backTo pos (starEach [e1, .Starred e2 sp] env)) (backToKw pos (keywordEach [] env)) = false := by rw [hst]; rfl
  show wpAny _ _ (holding [.ref x] (calleeOf (methodCallForm 2 (backTo pos (starEach [e1, .Starred e2 sp] env)) (backToKw pos (keywordEach [] env))) o env (.ref x) name) >>= fun p => methodCallPos (methodCallForm 2 (backTo pos (starEach [e1, .Starred e2 sp] env)) (backToKw pos (keywordEach [] env))) o env apos pos >>= fun cp => callWith cp p.1 p.2 (backTo pos (starEach [e1, .Starred e2 sp] env)) []) _ _ _
  rw [e3, hst]
  refine wpAny_bind (wpAny_holding (wpAny_bind (ins_bound (s := { s with heap := h1, toks := t1 }) (KIn.ext X x1) (I.ext x1) hm hl (wpAny_pure ?_))))
  refine wpAny_bind (m := methodCallPos false o env apos pos) (wpAny_pure ?_)
  have x2 : Ext s.heap (h1.push (methodObj (.ref f) (.ref x))) := x1.trans (Ext.push _ _)
  have hq : (h1.push (methodObj (.ref f) (.ref x))).get? h1.objs.size = some (methodObj (.ref f) (.ref x)) := Heap.get?_push_size _ rfl
  refine callWith_star (f := f) (self := .ref x) rfl hk.1 (Calls.evalArgs_plain ?_)
  refine Calls.spliced_cons ?_
  show wpAny _ _ (eval e1 env) _ _ _
  refine he1 A { s with heap := h1.push (methodObj (.ref f) (.ref x)), toks := t1 + 1 } E _ rm x2 fun u h2 t2 x3 p2 => spl_star ?_
  show wpAny _ _ (eval e2 env >>= fun v => standAt pos >>= fun _ => pure v) _ _ _
  refine wpAny_bind (he2 A _ E _ rm (x2.trans x3) fun u2 h3 t3 x4 ⟨vs, p3, p4⟩ => wpAny_bind (wpAny_standAt (wpAny_pure ⟨vs, hz vs p3, p4, fun h4 x5 => ?_⟩)))
  have x6 := ((x2.trans x3).trans x4).trans x5
  have hq' := ((x3.trans x4).trans x5) _ _ hq
  exact ⟨⟨hq', KIn.ext X x6⟩, rfl, wpAny_call (method_call hq' (h u vs h4 t3 x6 (m1 _ _ _ (x4.trans x5) p2) p3))⟩
end
end Mine

end

section
open PySem PySem.W PyProof.Rows PySem.SeqAt
set_option Elab.async false
set_option linter.all false
set_option autoImplicit false
namespace Mine
theorem But.refl (L D : Addr) (h : Heap) : But L D h h := fun _ _ _ _ e => e
theorem Ext.but {L D : Addr} {h h' : Heap} (e : Ext h h') : But L D h h' := fun b o _ _ q => e b o q
theorem But.trans {L D : Addr} {a b c : Heap} (x : But L D a b) (y : But L D b c) : But L D a c := fun p o n1 n2 e => y p o n1 n2 (x p o n1 n2 e)
section
variable {prog : Program} {w : World} {k : Nat} {A : Around} {E : Value → Shared → Prop} {s : Shared} {env : Env} {h h0 : Heap} {ρ : Locs} {x dx y dy : Addr} {kv : List (Str × Value)} {name : Str} {v a b c : Value}

theorem Fm.but {D : Addr} {h' : Heap} {m : Str → Option Value} {oD : Obj} (F : Fm h0 h env ρ) (hn : h.Ns env.locals m) (hn' : h'.Ns env.locals m) (B : But env.locals D h h') (hD : Off env D) (hD0 : h0.get? D = none) (hk : h.get? D = some oD) (hkk : keptObj oD = false) :
    Fm h0 h' env ρ ∧ Pres h h' := by
  have pr : Pres h h' := fun b o hb e => B b o (by rintro rfl; rw [hk] at e; cases e; rw [hb] at hkk; cases hkk) (by
    rintro rfl
    obtain ⟨o1, es, ep, ho, hd, _⟩ := hn
    rw [ho] at e; cases e; simp [keptObj, hd] at hb) e
  have nsEq : ∀ m m', h.Ns env.locals m → h.Ns env.locals m' → m = m' := fun m m' ⟨o, es, ep, ho, hd, _, hm⟩ ⟨o', es', ep', ho', hd', _, hm'⟩ => by
    rw [ho] at ho'; cases ho'; rw [hd] at hd'; cases hd'
    funext x; rw [← hm x, ← hm' x]
  have cne : ∀ z c, env.cells.lookup z = some c → c ≠ env.locals := fun z c e q => by
    obtain ⟨ov, o2, ho2, hd2⟩ := F.cin z c e
    obtain ⟨o1, es, ep, ho, hd, _⟩ := hn
    rw [q, ho] at ho2; cases ho2; rw [hd] at hd2; cases hd2
  refine ⟨⟨fun b o e => B b o (fun q => by rw [q, hD0] at e; cases e) (fun q => by have := F.freshL; rw [← q, e] at this; cases this) (F.base b o e), F.kind, ?_, fun z hz => ?_, F.dom, F.inj, F.freshL, fun z c e => ?_⟩, pr⟩
  · obtain ⟨m1, hn1, hm1⟩ := F.ns
    rw [nsEq m1 m hn1 hn] at hm1
    exact ⟨m, hn', fun x p a b => let ⟨v, c, d⟩ := hm1 x p a b; ⟨v, c, p.st _ _ _ pr d⟩⟩
  · obtain ⟨c, ov, q1, ⟨o, ho, hd⟩, q3, q4⟩ := F.cel z hz
    exact ⟨c, ov, q1, ⟨o, B _ _ (fun q => hD.c z (q ▸ q1)) (cne z c q1) ho, hd⟩, q3, fun p a => let ⟨v, c, d⟩ := q4 p a; ⟨v, c, p.st _ _ _ pr d⟩⟩
  · obtain ⟨ov, o, ho, hd⟩ := F.cin z c e
    exact ⟨ov, o, B _ _ (fun q => hD.c z (q ▸ e)) (cne z c e) ho, hd⟩

/-- the store of a field of the sorter, in a frame -/
theorem fm_set {Q : Unit → Shared → Prop} (F : Fm h0 s.heap env ρ) (X : (KF w.params).In h0) (I : Ins s.heap x dx kv) (hd : Off env dx) (hd0 : h0.get? dx = none) (ha : name ∈ attrs) (hz : kv.length ≤ 900)
    (h : ∀ h' tk, Fm h0 h' env ρ → Ins h' x dx (putK name v kv) → But env.locals dx s.heap h' → Pres s.heap h' → Q () { s with heap := h', toks := tk }) : wpAny (model prog w) A (setAttr (.ref x) name v) Q E s := by
  obtain ⟨m, hn, _⟩ := F.ns
  refine ins_set (KIn.ext X F.base) I ha hn hd.l hz fun h' tk n' I' B => ?_
  obtain ⟨_, es, n, hdx, _⟩ := I
  obtain ⟨F', pr⟩ := F.but hn n' B hd hd0 hdx rfl
  exact h h' tk F' I' B pr
theorem fm_setN {Q : Unit → Shared → Prop} (F : Fm h0 s.heap env ρ) (X : (KF w.params).In h0) (I : Inf s.heap y dy a b c) (hd : Off env y) (hdy : Off env dy) (hd0 : h0.get? y = none)
    (h : ∀ h' tk, Fm h0 h' env ρ → Inf h' y dy a v c → But env.locals y s.heap h' → Pres s.heap h' → Q () { s with heap := h', toks := tk }) : wpAny (model prog w) A (setAttr (.ref y) "npredecessors" v) Q E s := by
  obtain ⟨m, hn, _⟩ := F.ns
  refine inf_set (KIn.ext X F.base) I hn hdy.l fun h' tk n' I' B => ?_
  obtain ⟨F', pr⟩ := F.but hn n' B hd hd0 I.1 rfl
  exact h h' tk F' I' B pr

/-- self.name = e -/
theorem wp_setT {Q : Flow → Shared → Prop} {P : Value → Heap → Prop} {o e : Expr} {p1 pos : Pos} {rest : List Stmt} (rm : Room k A) (F : Fm h0 s.heap env ρ) (X : (KF w.params).In h0) (I : Ins s.heap x dx kv) (hd : Off env dx) (hd0 : h0.get? dx = none) (ha : name ∈ attrs) (hz : kv.length ≤ 900)
    (ho : EvP prog w k env s.heap o (IsV (.ref x))) (he : EvP prog w k env s.heap e P)
    (h : ∀ v h1 h' tk, Ext s.heap h1 → P v h1 → Fm h0 h' env ρ → Ins h' x dx (putK name v kv) → But env.locals dx h1 h' → Pres h1 h' → wpAny (model prog w) A (execs rest env) Q E { s with heap := h', toks := tk })
    (hs : swapsWith e (some (.Attribute o name p1)) pos.line env = pure false := by rfl) : wpAny (model prog w) A (execs (.Assign [.Attribute o name p1] e pos :: rest) env) Q E s := by
  refine wpAny_execs_cons (plainObj_wpAny_Assign_Attribute (he A s E _ rm (.refl _) fun v h1 t1 e1 q1 => ho A _ E _ rm e1 fun u h2 t2 e2 q2 => ?_) hs)
  cases q2
  refine fm_set (s := { s with heap := h2, toks := t2 }) (F.ext (e1.trans e2)) X (I.ext (e1.trans e2)) hd hd0 ha hz fun h' tk F' I' B pr => ?_
  exact h v h1 h' tk e1 q1 F' I' (fun b o n1 n2 e => B b o n1 n2 (e2 b o e)) (e2.pres.trans pr)
/-- y.npredecessors = e -/
theorem wp_setN {Q : Flow → Shared → Prop} {P : Value → Heap → Prop} {o e : Expr} {p1 pos : Pos} {rest : List Stmt} (rm : Room k A) (F : Fm h0 s.heap env ρ) (X : (KF w.params).In h0) (I : Inf s.heap y dy a b c) (hd : Off env y) (hdy : Off env dy) (hd0 : h0.get? y = none)
    (he : EvP prog w k env s.heap e P) (ho : ∀ h1, Ext s.heap h1 → EvP prog w k env h1 o (IsV (.ref y)))
    (h : ∀ v h1 h' tk, Ext s.heap h1 → P v h1 → Fm h0 h' env ρ → Inf h' y dy a v c → But env.locals y h1 h' → Pres h1 h' → wpAny (model prog w) A (execs rest env) Q E { s with heap := h', toks := tk })
    (hs : swapsWith e (some (.Attribute o "npredecessors" p1)) pos.line env = pure false := by rfl) : wpAny (model prog w) A (execs (.Assign [.Attribute o "npredecessors" p1] e pos :: rest) env) Q E s := by
  refine wpAny_execs_cons (plainObj_wpAny_Assign_Attribute (he A s E _ rm (.refl _) fun v h1 t1 e1 q1 => ho h1 e1 A _ E _ rm (.refl _) fun u h2 t2 e2 q2 => ?_) hs)
  cases q2
  refine fm_setN (s := { s with heap := h2, toks := t2 }) (F.ext (e1.trans e2)) X (I.ext (e1.trans e2)) hd hdy hd0 fun h' tk F' I' B pr => ?_
  exact h v h1 h' tk e1 q1 F' I' (fun b o n1 n2 e => B b o n1 n2 (e2 b o e)) (e2.pres.trans pr)
/-- self.name += e -/
theorem wp_augT {Q : Flow → Shared → Prop} {i j : Int} {t : Tok} {o e : Expr} {p1 pos : Pos} {rest : List Stmt} (rm : Room k A) (F : Fm h0 s.heap env ρ) (X : (KF w.params).In h0) (I : Ins s.heap x dx kv) (hd : Off env dx) (hd0 : h0.get? dx = none) (ha : name ∈ attrs) (hz : kv.length ≤ 900)
    (hl : kv.lookup name = some (.int i t)) (ho : EvP prog w k env s.heap o (IsV (.ref x))) (he : EvD prog w k env s.heap e (.int j))
    (h : ∀ u h1 h' tk, Ext s.heap h1 → Fm h0 h' env ρ → Ins h' x dx (putK name (.int (i + j) u) kv) → But env.locals dx h1 h' → Pres h1 h' → wpAny (model prog w) A (execs rest env) Q E { s with heap := h', toks := tk }) :
    wpAny (model prog w) A (execs (.AugAssign (.Attribute o name p1) .Add e pos :: rest) env) Q E s := by
  refine wpAny_execs_cons (wpAny_AugAssign_AttributeAny (ho A s E _ rm (.refl _) fun u h1 t1 e1 q1 => ?_))
  cases q1
  refine ins_get (s := { s with heap := h1, toks := t1 }) (KIn.ext X (F.base.trans e1)) (I.ext e1) ha hl rfl ?_
  refine he A _ E _ rm e1 fun u h2 t2 e2 q2 => ?_
  obtain ⟨tj, rfl⟩ := q2.inv_int
  refine iadd_int ?_
  refine fm_set (s := { s with heap := h2, toks := t2 + 1 }) (F.ext (e1.trans e2)) X (I.ext (e1.trans e2)) hd hd0 ha hz fun h' tk F' I' B pr => ?_
  exact h _ h2 h' tk (e1.trans e2) F' I' B pr
/-- y.npredecessors += e, -= e -/
theorem wp_augN {Q : Flow → Shared → Prop} {i j r : Int} {t : Tok} {op : Operator} {o e : Expr} {p1 pos : Pos} {rest : List Stmt} (rm : Room k A) (F : Fm h0 s.heap env ρ) (X : (KF w.params).In h0) (I : Inf s.heap y dy a (.int i t) c) (hd : Off env y) (hdy : Off env dy) (hd0 : h0.get? y = none)
    (hop : (op = .Add ∧ r = i + j) ∨ (op = .Sub ∧ r = i - j)) (ho : EvP prog w k env s.heap o (IsV (.ref y))) (he : EvD prog w k env s.heap e (.int j))
    (h : ∀ u h1 h' tk, Ext s.heap h1 → Fm h0 h' env ρ → Inf h' y dy a (.int r u) c → But env.locals y h1 h' → Pres h1 h' → wpAny (model prog w) A (execs rest env) Q E { s with heap := h', toks := tk }) :
    wpAny (model prog w) A (execs (.AugAssign (.Attribute o "npredecessors" p1) op e pos :: rest) env) Q E s := by
  refine wpAny_execs_cons (wpAny_AugAssign_AttributeAny (ho A s E _ rm (.refl _) fun u h1 t1 e1 q1 => ?_))
  cases q1
  refine inf_get (s := { s with heap := h1, toks := t1 }) (p := 49) (i := 1) (KIn.ext X (F.base.trans e1)) (I.ext e1) (by decide) rfl rfl ?_
  refine he A _ E _ rm e1 fun u h2 t2 e2 q2 => ?_
  obtain ⟨tj, rfl⟩ := q2.inv_int
  have fin : ∀ t3, wpAny (model prog w) A (setAttr (.ref y) "npredecessors" (.int r t3)) (fun _ => fun s' => wpAny (model prog w) A (execs rest env) Q E s') E { s with heap := h2, toks := t2 + 1 } := fun t3 => by
    refine fm_setN (s := { s with heap := h2, toks := t2 + 1 }) (F.ext (e1.trans e2)) X (I.ext (e1.trans e2)) hd hdy hd0 fun h' tk F' I' B pr => ?_
    exact h _ h2 h' tk (e1.trans e2) F' I' B pr
  rcases hop with ⟨rfl, rfl⟩ | ⟨rfl, rfl⟩
  · exact iadd_int (fin _)
  · exact isub_int (fin _)
end
end Mine

end

section
open PySem PySem.W PyProof.Rows PySem.SeqAt
set_option Elab.async false
set_option linter.all false
set_option autoImplicit false
namespace Mine
section
variable {w : World} {k : Nat} {A : Around} {E : Value → Shared → Prop} {s : Shared} {env : Env} {h h0 : Heap} {ρ : Locs} {x dx y dy : Addr} {name : Str} {v a b c : Value}

theorem fm_slot {prog : Program} {Q : Unit → Shared → Prop} {p : Addr} {i : Nat} {sl : Array (Option Value)} (F : Fm h0 s.heap env ρ) (X : (KF w.params).In h0) (hy : s.heap.get? y = some { cls := .ref 47, dict := some dy, data := .plain, slots := sl }) (hdy : s.heap.get? dy = some emptyDict)
    (hm : (name, p, i) ∈ slotsN) (hd : Off env y) (hd0 : h0.get? y = none)
    (h : ∀ h' tk, Fm h0 h' env ρ → h'.get? y = some { cls := .ref 47, dict := some dy, data := .plain, slots := (sl ++ Array.replicate (i + 1 - sl.size) none).setIfInBounds i (some v) } → But env.locals y s.heap h' → Pres s.heap h' → Q () { s with heap := h', toks := tk }) :
    wpAny (model prog w) A (setAttr (.ref y) name v) Q E s := by
  obtain ⟨m, hn, _⟩ := F.ns
  refine slot_put (KIn.ext X F.base) hy hdy hm hn fun h' tk n' g B => ?_
  obtain ⟨F', pr⟩ := F.but hn n' B hd hd0 hy rfl
  exact h h' tk F' g B pr
theorem wp_slot {prog : Program} {Q : Flow → Shared → Prop} {P : Value → Heap → Prop} {o e : Expr} {p1 pos : Pos} {rest : List Stmt} {p : Addr} {i : Nat} {sl : Array (Option Value)} (rm : Room k A) (F : Fm h0 s.heap env ρ) (X : (KF w.params).In h0) (hy : s.heap.get? y = some { cls := .ref 47, dict := some dy, data := .plain, slots := sl }) (hdy : s.heap.get? dy = some emptyDict)
    (hm : (name, p, i) ∈ slotsN) (hd : Off env y) (hd0 : h0.get? y = none) (ho : ∀ h1, Ext s.heap h1 → EvP prog w k env h1 o (IsV (.ref y))) (he : EvP prog w k env s.heap e P)
    (h : ∀ v h1 h' tk, Ext s.heap h1 → P v h1 → Fm h0 h' env ρ → h'.get? y = some { cls := .ref 47, dict := some dy, data := .plain, slots := (sl ++ Array.replicate (i + 1 - sl.size) none).setIfInBounds i (some v) } → But env.locals y h1 h' → Pres h1 h' → wpAny (model prog w) A (execs rest env) Q E { s with heap := h', toks := tk })
    (hs : swapsWith e (some (.Attribute o name p1)) pos.line env = pure false := by rfl) : wpAny (model prog w) A (execs (.Assign [.Attribute o name p1] e pos :: rest) env) Q E s := by
  refine wpAny_execs_cons (plainObj_wpAny_Assign_Attribute (he A s E _ rm (.refl _) fun v h1 t1 e1 q1 => ho h1 e1 A _ E _ rm (.refl _) fun u h2 t2 e2 q2 => ?_) hs)
  cases q2
  refine fm_slot (s := { s with heap := h2, toks := t2 }) (F.ext (e1.trans e2)) X (e2 _ _ (e1 _ _ hy)) (e2 _ _ (e1 _ _ hdy)) hm hd hd0 fun h' tk F' I' B pr => ?_
  exact h v h1 h' tk e1 q1 F' I' (fun b o n1 n2 e => B b o n1 n2 (e2 b o e)) (e2.pres.trans pr)

theorem codeRec_K (P : Params) {h : Heap} (X : (KF P).In h) : h.CodeRec (.ref 42) "_NodeInfo.__init__" ∧ h.CodeRec (.ref 79) "TopologicalSorter.__init__" ∧ h.CodeRec (.ref 86) "TopologicalSorter._get_nodeinfo" ∧ h.CodeRec (.ref 93) "TopologicalSorter.add" ∧ h.CodeRec (.ref 98) "TopologicalSorter.prepare" ∧
    h.CodeRec (.ref 105) "TopologicalSorter.get_ready" ∧ h.CodeRec (.ref 112) "TopologicalSorter.is_active" ∧ h.CodeRec (.ref 126) "TopologicalSorter.done" ∧ h.CodeRec (.ref 133) "TopologicalSorter._find_cycle" := by
  refine ⟨?_, ?_, ?_, ?_, ?_, ?_, ?_, ?_, ?_⟩
  · exact ⟨42, _, _, 239, rfl, X 42 _ rfl, rfl, rfl⟩
  · exact ⟨79, _, _, 290, rfl, X 79 _ rfl, rfl, rfl⟩
  · exact ⟨86, _, _, 300, rfl, X 86 _ rfl, rfl, rfl⟩
  · exact ⟨93, _, _, 309, rfl, X 93 _ rfl, rfl, rfl⟩
  · exact ⟨98, _, _, 321, rfl, X 98 _ rfl, rfl, rfl⟩
  · exact ⟨105, _, _, 327, rfl, X 105 _ rfl, rfl, rfl⟩
  · exact ⟨112, _, _, 337, rfl, X 112 _ rfl, rfl, rfl⟩
  · exact ⟨126, _, _, 351, rfl, X 126 _ rfl, rfl, rfl⟩
  · exact ⟨133, _, _, 365, rfl, X 133 _ rfl, rfl, rfl⟩

theorem kf_43 (P : Params) : (KF P).lookup 43 = some (fnO "__init__" "_NodeInfo.__init__" nodeC.tail .none (.str "cpy313.graphlib" 214) (.ref 42)) := by kernel_rfl
theorem kf_80 (P : Params) : (KF P).lookup 80 = some (fnO "__init__" "TopologicalSorter.__init__" sortC (.ref 73) (.str "cpy313.graphlib" 214) (.ref 79)) := by kernel_rfl
theorem kf_87 (P : Params) : (KF P).lookup 87 = some (fnO "_get_nodeinfo" "TopologicalSorter._get_nodeinfo" (sortC.drop 1) .none (.str "cpy313.graphlib" 214) (.ref 86)) := by kernel_rfl
theorem kf_94 (P : Params) : (KF P).lookup 94 = some (fnO "add" "TopologicalSorter.add" (sortC.drop 2) .none (.str "cpy313.graphlib" 214) (.ref 93)) := by kernel_rfl
theorem kf_99 (P : Params) : (KF P).lookup 99 = some (fnO "prepare" "TopologicalSorter.prepare" (sortC.drop 3) .none (.str "cpy313.graphlib" 214) (.ref 98)) := by kernel_rfl
theorem kf_106 (P : Params) : (KF P).lookup 106 = some (fnO "get_ready" "TopologicalSorter.get_ready" (sortC.drop 4) .none (.str "cpy313.graphlib" 214) (.ref 105)) := by kernel_rfl
theorem kf_113 (P : Params) : (KF P).lookup 113 = some (fnO "is_active" "TopologicalSorter.is_active" (sortC.drop 5) .none (.str "cpy313.graphlib" 214) (.ref 112)) := by kernel_rfl
theorem kf_127 (P : Params) : (KF P).lookup 127 = some (fnO "done" "TopologicalSorter.done" (sortC.drop 7) .none (.str "cpy313.graphlib" 214) (.ref 126)) := by kernel_rfl
theorem kf_134 (P : Params) : (KF P).lookup 134 = some (fnO "_find_cycle" "TopologicalSorter._find_cycle" (sortC.drop 8) .none (.str "cpy313.graphlib" 214) (.ref 133)) := by kernel_rfl
theorem sl_0 (v : Option Value) : ((#[] : Array (Option Value)) ++ Array.replicate (0 + 1 - (#[] : Array (Option Value)).size) none).setIfInBounds 0 v = #[v] := by simp
theorem sl_1 (a v : Option Value) : (#[a] ++ Array.replicate (1 + 1 - #[a].size) none).setIfInBounds 1 v = #[a, v] := by simp
theorem sl_2 (a b v : Option Value) : (#[a, b] ++ Array.replicate (2 + 1 - #[a, b].size) none).setIfInBounds 2 v = #[a, b, v] := by simp
/-- _NodeInfo(v) -/
theorem node_ok {v : Value} (rm : Room (k + 2) A) (X : (KF w.params).In s.heap) (hlim : s.heap.NoLimit) {R : Result → Shared → Prop}
    (h : ∀ y dy sl t h' tk, Ext s.heap h' → Inf h' y dy v (.int 0 t) (.ref sl) → h'.PlainList sl #[] → s.heap.get? y = none → s.heap.get? dy = none → s.heap.get? sl = none → R (.ok (.ret (.ref y))) { s with heap := h', toks := tk }) :
    codeAny (model pw w) A (.call (.ref 47) ⟨[v], []⟩) R s := by
  obtain ⟨hh, g, d, t, os⟩ := s
  refine make_core (makes_of X (kN_makes _)) (looks_findIn X (kN_init _).1) (fun self => bind_fn X self (kN_init _).2) (.inl rfl) ?_
  have ex : Ext hh ((hh.push emptyDict).push (instObj 47 hh.objs.size)) := (Ext.push _ _).trans (Ext.push _ _)
  have gy : ((hh.push emptyDict).push (instObj 47 hh.objs.size)).get? (hh.objs.size + 1) = some (instObj 47 hh.objs.size) := by
    have := Heap.get?_push_size (hh.push emptyDict) (o := instObj 47 hh.objs.size) rfl
    rwa [Heap.size_push] at this
  have gd : ((hh.push emptyDict).push (instObj 47 hh.objs.size)).get? hh.objs.size = some emptyDict := Heap.get?_push_of_some _ (Heap.get?_push_size _ rfl)
  have ny : hh.get? (hh.objs.size + 1) = none := by
    cases q : hh.get? (hh.objs.size + 1) with
    | none => rfl
    | some o => exact absurd (Heap.lt_size q) (Nat.not_lt.mpr (Nat.le_succ _))
  have nd := get_size_none hh
  generalize ((hh.push emptyDict).push (instObj 47 hh.objs.size)) = h1 at *
  generalize hh.objs.size = dy at *
  have X1 := KIn.ext X ex
  refine run_fn (s := ⟨h1, g, d, t, os⟩) (k := k) rm.under (X1 43 _ (kf_43 _)) (hlim.keeps ex) (codeRec_K _ X1).1 (bind_pure (binds := [("self", .ref (dy + 1)), ("node", v)]) rfl) (.refl _) (show ([Str.ofString "self", Str.ofString "node"] : List Str).Nodup by decide) (by intro b hb; rcases List.mem_cons.mp hb with rfl | hb; exact .inl rfl; rw [List.mem_singleton.mp hb]; exact .inl rfl) rfl rfl rfl fun env h2 tk henv hs hg hb F off rm' => ?_
  have kd : ∀ x, env.kindOf x = (defScope nodeC.tail).names.lookup x := fun x => by rw [Env.kindOf, hs]
  have F1 : Fm hh h2 env ([("self", .ref (dy + 1)), ("node", v)].map fun b => (b.1, prV b.2)) := F.rebase (ex.trans F.base) fun b q => by
    cases z : hh.get? b with
    | none => rfl
    | some o => rw [ex _ _ z] at q; cases q
  have oy : Off env (dy + 1) := off _ _ gy
  have od : Off env dy := off _ _ gd
  have vs : ∀ h, Fm hh h env ([("self", .ref (dy + 1)), ("node", v)].map fun b => (b.1, prV b.2)) → ∀ p, EvP pw w k env h (.Name "self" p) (IsV (.ref (dy + 1))) := fun h F p => ev_var (p := prV (.ref (dy + 1))) F rfl
  have vn : ∀ h, Fm hh h env ([("self", .ref (dy + 1)), ("node", v)].map fun b => (b.1, prV b.2)) → ∀ p, EvP pw w k env h (.Name "node" p) (IsV v) := fun h F p => ev_var (p := prV v) F rfl
  refine wp_slot (p := 48) (i := 0) rm' F1 X (F.base _ _ gy) (F.base _ _ gd) (by decide) oy ny (fun h3 e3 => vs _ (F1.ext e3) _) (vn _ F1 _) fun v1 h3 h4 t4 e3 q3 F4 g4 B4 pr4 => ?_
  cases q3
  rw [sl_0] at g4
  have dne : dy ≠ dy + 1 := Nat.ne_of_lt (Nat.lt_succ_self _)
  have d4 := B4 dy _ dne od.l (e3 _ _ (F.base _ _ gd))
  refine wp_slot (s := { heap := h4, gens := g, drawn := d, toks := t4, os := os }) (p := 49) (i := 1) rm' F4 X g4 d4 (by decide) oy ny (fun h3 e3 => vs _ (F4.ext e3) _) ev_int fun v2 h5 h6 t6 e5 q5 F6 g6 B6 pr6 => ?_
  obtain ⟨t0, rfl⟩ := q5.inv_int
  rw [sl_1] at g6
  have d6 := B6 dy _ dne od.l (e5 _ _ d4)
  refine wp_slot (s := { heap := h6, gens := g, drawn := d, toks := t6, os := os }) (p := 50) (i := 2) (P := fun u h => ∃ sl, u = .ref sl ∧ h.PlainList sl #[] ∧ h6.get? sl = none) rm' F6 X g6 d6 (by decide) oy ny (fun h3 e3 => vs _ (F6.ext e3) _) ?_ fun v3 h7 h8 t8 e7 q7 F8 g8 B8 pr8 => wp_nil ?_
  · intro A s E Q rm e hq
    refine wpAny_List (args_nil ⟨by simp [sizeLine], ?_⟩)
    refine hq _ _ s.toks (Ext.push _ _) ⟨_, rfl, ⟨0, Heap.get?_push_size _ rfl⟩, ?_⟩
    cases z : h6.get? s.heap.objs.size with
    | none => rfl
    | some o => exact absurd (Heap.lt_size (e _ _ z)) (Nat.lt_irrefl _)
  obtain ⟨sl, rfl, ⟨n, hsl⟩, nsl⟩ := q7
  rw [sl_2] at g8
  refine ⟨rfl, ?_⟩
  have hne : sl ≠ dy + 1 := by rintro rfl; rw [g6] at nsl; cases nsl
  refine h (dy + 1) dy sl t0 h8 t8 F8.base ⟨g8, B8 dy _ dne od.l (e7 _ _ d6)⟩ ⟨n, pr8 _ _ rfl hsl⟩ ny nd ?_
  cases z : hh.get? sl with
  | none => rfl
  | some o => rw [F6.base _ _ z] at nsl; cases nsl
end
end Mine

end

section
open PySem PySem.W PyProof.Rows PySem.SeqAt
set_option Elab.async false
set_option linter.all false
set_option autoImplicit false
namespace Mine
noncomputable abbrev knd (w : World) := intKind pw w
structure Geo where
  x : Addr
  dx : Addr
  d : Addr
  inf : Nat → Addr
  din : Nat → Addr
  suc : Nat → Addr
structure Sta where
  n : Nat
  np : Nat → Int
  su : Nat → List Nat
  rd : Option (Addr × List Nat)
  po : Int
  nf : Int
noncomputable def rdV : Option (Addr × List Nat) → Value
  | none => .none
  | some (a, _) => .ref a
noncomputable def kvOf (g : Geo) (r : Value) (po nf : Value) : List (Str × Value) := [("_node2info", .ref g.d), ("_ready_nodes", r), ("_npassedout", po), ("_nfinished", nf)]
noncomputable def dictN (g : Geo) (n : Nat) : List (Int × Value) := (List.range n).map fun i : Nat => ((i : Int), .ref (g.inf i))
structure Srt (w : World) (h : Heap) (g : Geo) (σ : Sta) : Prop where
  ins : ∃ t u, Ins h g.x g.dx (kvOf g (rdV σ.rd) (.int σ.po t) (.int σ.nf u))
  dct : h.DictOf (knd w) g.d (dictN g σ.n)
  inf : ∀ i, i < σ.n → ∃ t u, Inf h (g.inf i) (g.din i) (.int (i : Nat) t) (.int (σ.np i) u) (.ref (g.suc i))
  suc : ∀ i, i < σ.n → ∃ vs, h.PlainList (g.suc i) vs ∧ IntsAre vs.toList (nI (σ.su i))
  rdy : ∀ a l, σ.rd = some (a, l) → ∃ vs, h.PlainList a vs ∧ IntsAre vs.toList (nI l)
  iinf : ∀ i j, i < σ.n → j < σ.n → g.inf i = g.inf j → i = j
  isuc : ∀ i j, i < σ.n → j < σ.n → g.suc i = g.suc j → i = j
  ird : ∀ a l i, σ.rd = some (a, l) → i < σ.n → g.suc i ≠ a
  dd : g.dx ≠ g.d
  din : ∀ i, i < σ.n → g.din i ≠ g.dx ∧ g.din i ≠ g.d
  sm : (g.d == sysModules) = false
/-- the objects of the sorter -/
inductive Mem (g : Geo) (σ : Sta) : Addr → Prop
  | x : Mem g σ g.x
  | dx : Mem g σ g.dx
  | d : Mem g σ g.d
  | inf (i) : i < σ.n → Mem g σ (g.inf i)
  | din (i) : i < σ.n → Mem g σ (g.din i)
  | suc (i) : i < σ.n → Mem g σ (g.suc i)
  | rd (a l) : σ.rd = some (a, l) → Mem g σ a
section
variable {w : World} {h h' : Heap} {g : Geo} {σ : Sta}
theorem Srt.keep (S : Srt w h g σ) (K : ∀ b o, Mem g σ b → h.get? b = some o → h'.get? b = some o) : Srt w h' g σ where
  ins := let ⟨t, u, h1, es, n, h2, h3⟩ := S.ins; ⟨t, u, K _ _ .x h1, es, n, K _ _ .dx h2, h3⟩
  dct := let ⟨o, es, ep, ho, r⟩ := S.dct; ⟨o, es, ep, K _ _ .d ho, r⟩
  inf := fun i hi => let ⟨t, u, I⟩ := S.inf i hi; ⟨t, u, K _ _ (.inf i hi) I.1, K _ _ (.din i hi) I.2⟩
  suc := fun i hi => let ⟨vs, ⟨n, hl⟩, r⟩ := S.suc i hi; ⟨vs, ⟨n, K _ _ (.suc i hi) hl⟩, r⟩
  rdy := fun a l e => let ⟨vs, ⟨n, hl⟩, r⟩ := S.rdy a l e; ⟨vs, ⟨n, K _ _ (.rd a l e) hl⟩, r⟩
  iinf := S.iinf
  isuc := S.isuc
  ird := S.ird
  dd := S.dd
  din := S.din
  sm := S.sm
theorem Srt.ext (S : Srt w h g σ) (e : Ext h h') : Srt w h' g σ := S.keep fun b o _ q => e b o q
/-- all its objects stand -/
theorem Srt.at (S : Srt w h g σ) {b : Addr} (m : Mem g σ b) : ∃ o, h.get? b = some o := by
  cases m with
  | x => obtain ⟨t, u, h1, _⟩ := S.ins; exact ⟨_, h1⟩
  | dx => obtain ⟨t, u, _, es, n, h1, _⟩ := S.ins; exact ⟨_, h1⟩
  | d => obtain ⟨o, es, ep, h1, _⟩ := S.dct; exact ⟨_, h1⟩
  | inf i hi => obtain ⟨t, u, I⟩ := S.inf i hi; exact ⟨_, I.1⟩
  | din i hi => obtain ⟨t, u, I⟩ := S.inf i hi; exact ⟨_, I.2⟩
  | suc i hi => obtain ⟨vs, ⟨n, hl⟩, _⟩ := S.suc i hi; exact ⟨_, hl⟩
  | rd _ l e => obtain ⟨vs, ⟨n, hl⟩, _⟩ := S.rdy _ l e; exact ⟨_, hl⟩
theorem dictN_at (g : Geo) {n i : Nat} (hi : i < n) : valueAt (dictN g n) (i : Int) = some (.ref (g.inf i)) := by
  refine valueAt_of_get (i := i) ?_ ?_
  · simp only [dictN, List.map_map]
    exact List.Pairwise.map _ (fun a b hab q => hab (by have q' : ((a : Nat) : Int) = ((b : Nat) : Int) := q; omega)) List.nodup_range
  · simp [dictN, hi]
theorem dictN_none (g : Geo) {n i : Nat} (hi : n ≤ i) : valueAt (dictN g n) (i : Int) = none := by
  unfold valueAt dictN
  rw [Option.map_eq_none_iff, List.find?_eq_none]
  intro p hp
  obtain ⟨j, hj, rfl⟩ := List.mem_map.mp hp
  have := List.mem_range.mp hj
  simp; omega
theorem dictN_stored (g : Geo) {n : Nat} : stored (dictN g n) (n : Int) (.ref (g.inf n)) = dictN g (n + 1) := by
  unfold stored
  have : ((dictN g n).any fun kv => decide (kv.1 = (n : Int))) = false := by
    rw [List.any_eq_false]
    intro p hp
    obtain ⟨j, hj, rfl⟩ := List.mem_map.mp hp
    have := List.mem_range.mp hj
    simp; omega
  rw [this]
  simp [dictN, List.range_succ]
end
/-- what every heap of this work holds -/
structure Bse (w : World) (G : List (Str × Value)) (h : Heap) : Prop where
  K : (KF w.params).In h
  glo : Glo G h
  gN : G.lookup (Str.ofString "_NodeInfo") = some (.ref 47)
  gO : ∃ t, G.lookup (Str.ofString "_NODE_OUT") = some (.int (-1) t)
  gD : ∃ t, G.lookup (Str.ofString "_NODE_DONE") = some (.int (-2) t)
  gC : G.lookup (Str.ofString "CycleError") = some (.ref 62)
theorem Bse.ext {w : World} {G : List (Str × Value)} {h h' : Heap} (B : Bse w G h) (e : Ext h h') : Bse w G h' := ⟨KIn.ext B.K e, B.glo.ext e, B.gN, B.gO, B.gD, B.gC⟩

section
variable {w : World} {G : List (Str × Value)} {k : Nat} {A : Around} {s : Shared} {g : Geo} {σ : Sta} {env : Env} {h h0 : Heap}
/-- self._node2info.get(e) -/
theorem ev_get {o e : Expr} {apos pos : Pos} {d : Addr} {i : Int} {n : Nat} {v : Value} (hd : (d == sysModules) = false) (hD : h.DictOf (knd w) d (dictN g n)) (ho : EvP pw w k env h o (IsV (.ref d))) (he : EvD pw w k env h e (.int i)) (hv : (valueAt (dictN g n) i).getD .none = v)
    (hbase : attributeBase o "get" env (eval o env) = eval o env := by rfl) (hst : starEach [e] env = [(false, eval e env)] := by rfl) (hline : (apos.endLine == pos.line) = true := by rfl) :
    EvP pw w k env h (.Call (.Attribute o "get" apos) [e] [] pos) (IsV v) := fun A s E Q rm hx hq => by
  subst hv
  refine wpAny_Call_method hbase (by rw [hst]; rfl) hline PySem.F.plainAttrs_dict PySem.F.slot_dict_get PySem.F.type_dict_get (ho A s E _ rm hx fun v h1 t1 e1 p1 => ?_)
  cases p1
  have D1 : h1.DictOf (knd w) d (dictN g n) := by obtain ⟨ob, es, ep, q, r⟩ := hD; exact ⟨ob, es, ep, e1 _ _ (hx _ _ q), r⟩
  refine ⟨D1.typeIs (s := { s with heap := h1, toks := t1 }), fun a e => ?_, ?_⟩
  · cases e
    obtain ⟨ob, es, ep, q, hex, r⟩ := D1
    exact ⟨ob, q, hex.2.1⟩
  rw [hst]
  refine wpAny_dict_get1 (knd := knd w) hd (he A _ E _ rm (hx.trans e1) fun v h2 t2 e2 p2 => ?_)
  obtain ⟨t, rfl⟩ := p2.inv_int
  have D2 : h2.DictOf (knd w) d (dictN g n) := by obtain ⟨ob, es, ep, q, r⟩ := D1; exact ⟨ob, es, ep, e2 _ _ q, r⟩
  exact ⟨i, valueAt (dictN g n), intKind_is _ _ _ _, D2.mapOf, hq _ _ _ (e1.trans e2) rfl⟩
end
end Mine

end

section
open PySem PySem.W PyProof.Rows PySem.SeqAt
set_option Elab.async false
set_option linter.all false
set_option autoImplicit false
namespace Mine
section
variable {w : World} {G : List (Str × Value)} {k : Nat} {A : Around} {s : Shared} {g : Geo} {σ : Sta} {env : Env} {h h0 : Heap}

/-- the head of _get_nodeinfo: if (result := ..) is None -/
theorem wp_walrus {E : Value → Shared → Prop} {Q : Flow → Shared → Prop} {ρ : Locs} {e : Expr} {x : Str} {px p1 p2 p3 pos : Pos} {n : Nat} {body orelse rest : List Stmt} {v : Value} (rm : Room k A) (F : Fm h0 s.heap env ρ) (he : EvP pw w k env s.heap e (IsV v)) (hk : env.kindOf x = some .local ∨ env.kindOf x = some .cell)
    (h1 : ∀ h' tk, Fm h0 h' env ((x, prV v) :: ρ) → Pres s.heap h' → Offs env s.heap h' → wpAny (model pw w) A (execs (if (v == .none) = true then body else orelse) env) (fun f s' => match f with | .next => wpAny (model pw w) A (execs rest env) Q E s' | f => Q f s') E { s with heap := h', toks := tk }) :
    wpAny (model pw w) A (execs (.If (.Compare (.NamedExpr (.Name x px) e p1) [.Is] [.Constant .none n p2] p3) body orelse pos :: rest) env) Q E s := by
  refine wpAny_execs_cons (wpAny_If (wpAny_isTrue_Compare1 (wpAny_NamedExpr (he A s E _ rm (.refl _) fun u h2 t2 e2 q2 => ?_)) (by with_unfolding_all rfl)))
  cases q2
  refine wpAny_assign_Name (Fm.store (s := { s with heap := h2, toks := t2 }) (p := prV v) (F.ext e2) hk rfl fun h3 t3 F3 pr3 off3 => ?_)
  refine wpAny_Constant_none (is_none ?_)
  refine wpAny_truthy_bool ?_
  have := h1 h3 t3 F3 (e2.pres.trans pr3) (e2.offs.trans off3)
  cases hv : (v == .none) with
  | true => rw [hv, if_pos rfl] at this; exact this
  | false => rw [hv, if_neg (by decide)] at this; exact this

theorem gni_old {R : Result → Shared → Prop} {hB : Heap} {i : Nat} {t : Tok} (rm : Room (k + 1) A) (B : Bse w G hB) (eB : Ext hB s.heap) (S : Srt w s.heap g σ) (hi : i < σ.n)
    (h : ∀ h' tk, Ext s.heap h' → R (.ok (.ret (.ref (g.inf i)))) { s with heap := h', toks := tk }) : codeAny (model pw w) A (.call (.ref 87) ⟨[.ref g.x, .int (i : Nat) t], []⟩) R s := by
  have B1 := B.ext eB
  refine run_fn (k := k) rm (B1.K 87 _ (kf_87 _)) B1.glo.lim (codeRec_K _ B1.K).2.2.1 (bind_pure (binds := [("self", .ref g.x), ("node", .int (i : Nat) t)]) rfl) (.refl _) (show ([Str.ofString "self", Str.ofString "node"] : List Str).Nodup by decide)
    (by intro b hb; rcases List.mem_cons.mp hb with rfl | hb; exact .inl rfl; rw [List.mem_singleton.mp hb]; exact .inl rfl) rfl rfl rfl fun env h2 tk henv hs hg hb F off rm' => ?_
  have kd : ∀ x, env.kindOf x = (defScope (sortC.drop 1)).names.lookup x := fun x => by rw [Env.kindOf, hs]
  have S2 := S.ext F.base
  obtain ⟨t1, u1, I⟩ := S2.ins
  have vself : ∀ h p, Fm s.heap h env ([("self", .ref g.x), ("node", .int (i : Nat) t)].map fun b => (b.1, prV b.2)) → EvP pw w k env h (.Name "self" p) (IsV (.ref g.x)) := fun h p F => ev_var (p := prV (.ref g.x)) F rfl
  have vnode : ∀ h p, Fm s.heap h env ([("self", .ref g.x), ("node", .int (i : Nat) t)].map fun b => (b.1, prV b.2)) → EvD pw w k env h (.Name "node" p) (.int (i : Nat)) := fun h p F => (ev_var (p := prV (.int (i : Nat) t)) F rfl).mono fun v h' _ (q : v = _) => by rw [q]; exact Rd.int
  refine wp_walrus (v := .ref (g.inf i)) rm' F (ev_get S2.sm S2.dct (ev_attr (KIn.ext B1.K F.base) I (vself _ _ F) (name := "_node2info") (by decide) rfl rfl) (vnode _ _ F) (by rw [dictN_at g hi]; rfl)) (.inl (kd _)) fun h3 t3 F3 pr3 off3 => ?_
  rw [if_neg (by simp)]
  refine wp_nil (wp_ret rm' (ev_var (p := prV (.ref (g.inf i))) F3 rfl) fun v h4 t4 e4 q4 => ?_)
  cases (q4 : v = _)
  exact h h4 t4 (F3.base.trans e4)

theorem hide_base {S : Addr → Prop} {hB : Heap} (eB : Ext hB h) (hS : ∀ b, S b → hB.get? b = none) : Ext hB (hideS S h) := fun b o e => by
  by_cases q : S b
  · rw [hS b q] at e; cases e
  · rw [(hideS_get S h b).1 q]; exact eB b o e
theorem Fm.hide {S : Addr → Prop} {h1 h2 : Heap} {ρ : Locs} (F : Fm h1 h2 env ρ) (e : Ext h h1) : Fm (hideS S h) h2 env ρ :=
  F.rebase (fun b o q => by
    by_cases z : S b
    · rw [(hideS_get S h b).2 z] at q; cases q
    · rw [(hideS_get S h b).1 z] at q; exact F.base _ _ (e _ _ q)) fun b q => by
    refine hideS_none ?_
    cases z : h.get? b with
    | none => rfl
    | some o => rw [e _ _ z] at q; cases q
noncomputable def upd {α : Type} (f : Nat → α) (i : Nat) (v : α) : Nat → α := fun j => if j = i then v else f j
theorem upd_same {α : Type} (f : Nat → α) (i : Nat) (v : α) : upd f i v i = v := by simp [upd]
theorem upd_ne {α : Type} (f : Nat → α) {i j : Nat} (v : α) (h : j ≠ i) : upd f i v j = f j := by simp [upd, h]
noncomputable def Geo.push (g : Geo) (n : Nat) (y dy sl : Addr) : Geo := { g with inf := upd g.inf n y, din := upd g.din n dy, suc := upd g.suc n sl }
noncomputable def Sta.push (σ : Sta) : Sta := { σ with n := σ.n + 1, np := upd σ.np σ.n 0, su := upd σ.su σ.n [] }
theorem dictN_push (g : Geo) (n : Nat) (y dy sl : Addr) : dictN (g.push n y dy sl) (n + 1) = dictN g n ++ [((n : Int), .ref y)] := by
  unfold dictN
  rw [List.range_succ, List.map_append]
  congr 1
  · refine List.map_congr_left fun i hi => ?_
    have := List.mem_range.mp hi
    simp only [Geo.push]; rw [upd_ne _ _ (by omega)]
  · simp [Geo.push, upd_same]
theorem dictN_store (g : Geo) (n : Nat) (y dy sl : Addr) : stored (dictN g n) (n : Int) (.ref y) = dictN (g.push n y dy sl) (n + 1) := by
  rw [dictN_push]
  unfold stored
  have : ((dictN g n).any fun kv => decide (kv.1 = (n : Int))) = false := by
    rw [List.any_eq_false]
    intro p hp
    obtain ⟨j, hj, rfl⟩ := List.mem_map.mp hp
    have := List.mem_range.mp hj
    simp; omega
  rw [this]; simp
/-- a node more -/
theorem Srt.push {h' : Heap} {y dy sl : Addr} {t u : Tok} (S : Srt w h g σ) (hk : ∀ b o, b ≠ g.d → Mem g σ b → h.get? b = some o → h'.get? b = some o) (hd : h'.DictOf (knd w) g.d (dictN (g.push σ.n y dy sl) (σ.n + 1)))
    (I : Inf h' y dy (.int (σ.n : Nat) t) (.int 0 u) (.ref sl)) (hl : h'.PlainList sl #[]) (n1 : h.get? y = none) (n2 : h.get? dy = none) (n3 : h.get? sl = none) : Srt w h' (g.push σ.n y dy sl) σ.push := by
  have lt : ∀ i, i < σ.push.n → i ≠ σ.n → i < σ.n := fun i hi hn => by have : i < σ.n + 1 := hi; omega
  have fr : ∀ b, Mem g σ b → b ≠ y ∧ b ≠ dy ∧ b ≠ sl := fun b m => by
    obtain ⟨o, ho⟩ := S.at m
    refine ⟨?_, ?_, ?_⟩ <;> rintro rfl
    · rw [n1] at ho; cases ho
    · rw [n2] at ho; cases ho
    · rw [n3] at ho; cases ho
  have ndd : ∀ b, Mem g σ b → (∃ o, h.get? b = some o ∧ ∀ es ep, o.data ≠ .dict es ep) → b ≠ g.d := fun b m ⟨o, ho, hh⟩ q => by
    obtain ⟨o', es, ep, ho', _, hd', _⟩ := S.dct
    subst q; rw [ho] at ho'; cases ho'; exact hh _ _ hd'
  refine ⟨?_, hd, fun i hi => ?_, fun i hi => ?_, fun a l e => ?_, fun i j hi hj e => ?_, fun i j hi hj e => ?_, fun a l i e hi => ?_, S.dd, fun i hi => ?_, S.sm⟩
  · obtain ⟨t, u, h1, es, n, h2, h3⟩ := S.ins
    exact ⟨t, u, hk _ _ (ndd _ .x ⟨_, h1, fun es ep q => by cases q⟩) .x h1, es, n, hk _ _ S.dd .dx h2, h3⟩
  · by_cases q : i = σ.n
    · subst q
      simp only [Geo.push, Sta.push, upd_same]
      exact ⟨t, u, I⟩
    · have hi' := lt i hi q
      simp only [Geo.push, Sta.push, upd_ne _ _ q]
      obtain ⟨t, u, I⟩ := S.inf i hi'
      exact ⟨t, u, hk _ _ (ndd _ (.inf i hi') ⟨_, I.1, fun es ep q => by cases q⟩) (.inf i hi') I.1, hk _ _ (S.din i hi').2 (.din i hi') I.2⟩
  · by_cases q : i = σ.n
    · subst q
      simp only [Geo.push, Sta.push, upd_same]
      exact ⟨#[], hl, .nil⟩
    · have hi' := lt i hi q
      simp only [Geo.push, Sta.push, upd_ne _ _ q]
      obtain ⟨vs, ⟨n, hl⟩, r⟩ := S.suc i hi'
      exact ⟨vs, ⟨n, hk _ _ (ndd _ (.suc i hi') ⟨_, hl, fun es ep q => by cases q⟩) (.suc i hi') hl⟩, r⟩
  · obtain ⟨vs, ⟨n, hl⟩, r⟩ := S.rdy a l e
    exact ⟨vs, ⟨n, hk _ _ (ndd _ (.rd a l e) ⟨_, hl, fun es ep q => by cases q⟩) (.rd a l e) hl⟩, r⟩
  · by_cases q1 : i = σ.n <;> by_cases q2 : j = σ.n
    · omega
    · simp only [Geo.push, q1, upd_same, upd_ne _ _ q2] at e
      exact absurd e.symm (fr _ (.inf j (lt j hj q2))).1
    · simp only [Geo.push, q2, upd_same, upd_ne _ _ q1] at e
      exact absurd e (fr _ (.inf i (lt i hi q1))).1
    · simp only [Geo.push, upd_ne _ _ q1, upd_ne _ _ q2] at e
      exact S.iinf i j (lt i hi q1) (lt j hj q2) e
  · by_cases q1 : i = σ.n <;> by_cases q2 : j = σ.n
    · omega
    · simp only [Geo.push, q1, upd_same, upd_ne _ _ q2] at e
      exact absurd e.symm (fr _ (.suc j (lt j hj q2))).2.2
    · simp only [Geo.push, q2, upd_same, upd_ne _ _ q1] at e
      exact absurd e (fr _ (.suc i (lt i hi q1))).2.2
    · simp only [Geo.push, upd_ne _ _ q1, upd_ne _ _ q2] at e
      exact S.isuc i j (lt i hi q1) (lt j hj q2) e
  · by_cases q : i = σ.n
    · simp only [Geo.push, q, upd_same]
      exact fun z => (fr _ (.rd a l e)).2.2 z.symm
    · simp only [Geo.push, upd_ne _ _ q]
      exact S.ird a l i e (lt i hi q)
  · by_cases q : i = σ.n
    · simp only [Geo.push, q, upd_same]
      exact ⟨fun z => (fr _ .dx).2.1 z.symm, fun z => (fr _ .d).2.1 z.symm⟩
    · simp only [Geo.push, upd_ne _ _ q]
      exact S.din i (lt i hi q)
end
end Mine

end

section
open PySem PySem.W PyProof.Rows PySem.SeqAt
set_option Elab.async false
set_option linter.all false
set_option autoImplicit false
namespace Mine
section
variable {w : World} {G : List (Str × Value)} {k : Nat} {A : Around} {s : Shared} {g : Geo} {σ : Sta} {env : Env} {h h0 : Heap}
theorem keep_47 (P : Params) : keepIn (KF P) (.ref 47) = true := by kernel_rfl
theorem dictN_len (g : Geo) (n : Nat) : (dictN g n).length = n := by simp [dictN]
theorem EvP.run {prog : Program} {E : Value → Shared → Prop} {Q : Value → Shared → Prop} {e : Expr} {P : Value → Heap → Prop} (x : EvP prog w k env s.heap e P) (rm : Room k A) (hq : ∀ v h' tk, Ext s.heap h' → P v h' → Q v { s with heap := h', toks := tk }) :
    wpAny (model prog w) A (eval e env) Q E s := x A s E Q rm (.refl _) hq
theorem ev_pin {ρ : Locs} {x : Str} {v : Value} {p : Pos} (F : Fm h0 h env ρ) (hx : ρ.lookup x = some (prV v)) (hd : (x == ("__debug__" : Str)) = false := by decide) : EvP pw w k env h (.Name x p) (IsV v) := ev_var (p := prV v) F hx hd
theorem ev_pinI {ρ : Locs} {x : Str} {i : Int} {t : Tok} {p : Pos} (F : Fm h0 h env ρ) (hx : ρ.lookup x = some (prV (.int i t))) (hd : (x == ("__debug__" : Str)) = false := by decide) : EvD pw w k env h (.Name x p) (.int i) :=
  (ev_pin F hx hd).mono fun v h' _ (q : v = _) => by rw [q]; exact Rd.int
theorem gni_new {R : Result → Shared → Prop} {hB : Heap} {t : Tok} (rm : Room (k + 3) A) (B : Bse w G hB) (eB : Ext hB s.heap) (S : Srt w s.heap g σ) (hn : σ.n ≤ 100) (hd : hB.get? g.d = none)
    (h : ∀ y dy sl h' tk, Chg (fun b => b = g.d) s.heap h' → Srt w h' (g.push σ.n y dy sl) σ.push → s.heap.get? y = none → s.heap.get? dy = none → s.heap.get? sl = none → R (.ok (.ret (.ref y))) { s with heap := h', toks := tk }) :
    codeAny (model pw w) A (.call (.ref 87) ⟨[.ref g.x, .int (σ.n : Nat) t], []⟩) R s := by
  have B1 := B.ext eB
  refine run_fn (k := k + 2) rm (B1.K 87 _ (kf_87 _)) B1.glo.lim (codeRec_K _ B1.K).2.2.1 (bind_pure (binds := [("self", .ref g.x), ("node", .int (σ.n : Nat) t)]) rfl) (.refl _) (show ([Str.ofString "self", Str.ofString "node"] : List Str).Nodup by decide)
    (by intro b hb; rcases List.mem_cons.mp hb with rfl | hb; exact .inl rfl; rw [List.mem_singleton.mp hb]; exact .inl rfl) rfl rfl rfl fun env h2 tk henv hs hg hb F0 off rm' => ?_
  have kd : ∀ x, env.kindOf x = (defScope (sortC.drop 1)).names.lookup x := fun x => by rw [Env.kindOf, hs]
  have F := F0.hide (S := fun b => b = g.d) (.refl s.heap)
  have BH := B.ext (hide_base (S := fun b => b = g.d) eB fun b q => by rw [q]; exact hd)
  generalize hh0 : hideS (fun b => b = g.d) s.heap = h0 at F BH
  have S2 := S.ext F0.base
  obtain ⟨t1, u1, I⟩ := S2.ins
  refine wp_walrus (v := .none) rm' F (ev_get S2.sm S2.dct (ev_attr (KIn.ext BH.K F.base) I (ev_pin F rfl) (name := "_node2info") (by decide) rfl rfl) (ev_pinI F rfl) (by rw [dictN_none g (Nat.le_refl _)]; rfl)) (.inl (kd _)) fun h3 t3 F3 pr3 off3 => ?_
  rw [if_pos (by decide)]
  have offM : ∀ b, Mem g σ b → Off env b := fun b m => by obtain ⟨o, ho⟩ := S.at m; exact off _ _ ho
  have S3 : Srt w h3 g σ := S2.keep fun b o m e => off3 b o (offM b m).l (offM b m).c e
  obtain ⟨t3', u3, I3⟩ := S3.ins
  -- the node
  refine wpAny_execs_cons (wpAny_Assign_two (Call_ (wpAny_Name (has_g (prog := pw) (w := w) (BH.glo.ext F3.base) BH.gN F3.kind (kd _) hg _ _ _ _ (.refl _) ?_) (by decide))))
  refine callWith_K (KIn.ext BH.K F3.base) (keep_47 _) (args_cons (ev_pin (x := "node") F3 rfl (by decide) _ _ _ _ rm' (.refl _) fun v h4 t4 e4 q4 => args_nil ⟨KIn.ext BH.K (F3.base.trans e4), wpAny_call ?_⟩))
  cases q4
  refine node_ok (s := { s with heap := h4, toks := t4 }) rm' (KIn.ext BH.K (F3.base.trans e4)) (BH.glo.ext (F3.base.trans e4)).lim fun y dy sl t5 h5 t5' e5 I5 l5 n1 n2 n3 => ?_
  have F5 := F3.ext (e4.trans e5)
  have S5 := S3.ext (e4.trans e5)
  obtain ⟨t6, u6, I6⟩ := S5.ins
  -- self._node2info[node] = ..
  show wpAny _ _ (assign (.Subscript _ _ _) env (.ref y)) _ _ _
  rw [assign_Subscript]
  refine wpAny_bind (wpAny_holding (EvP.run (s := { s with heap := h5, toks := t5' }) (ev_attr (KIn.ext BH.K F5.base) I6 (ev_pin F5 rfl) (name := "_node2info") (by decide) rfl rfl) rm' fun v h6 t6' e6 q6 => ?_))
  cases q6
  refine wpAny_bind (wpAny_holding (ev_pin (x := "node") (F5.ext e6) rfl (by decide) _ _ _ _ rm' (.refl _) fun v h7 t7 e7 q7 => ?_))
  cases q7
  refine wpAny_bind (wpAny_standAt (wpAny_bind (wpAny_holding ?_)))
  have e57 := e6.trans e7
  have S7 := S5.ext e57
  refine wpAny_setItem_pairs (knd := knd w) (k := (σ.n : Int)) (s := { s with heap := h7, toks := t7 }) (intKind_is _ _ _ _) S7.dct (fun h8 d8 b8 => ?_) (by rw [dictN_len]; simp [sizeLine]; omega)
  rw [dictN_store g σ.n y dy sl] at d8
  refine wpAny_release ?_
  have nn : ∀ b, h4.get? b = none → s.heap.get? b = none := fun b q => by
    cases z : s.heap.get? b with
    | none => rfl
    | some o =>
      have := off3 b o (off _ _ z).l (off _ _ z).c (F0.base _ _ z)
      rw [e4 _ _ this] at q; cases q
  have keepM : ∀ b o, b ≠ g.d → h3.get? b = some o → h8.get? b = some o := fun b o nb q => (b8.2 b nb).trans (e57 _ _ (e5 _ _ (e4 _ _ q)))
  have ne_d : ∀ b, h4.get? b = none → b ≠ g.d := fun b q z => by
    obtain ⟨o, ho⟩ := S3.at .d
    rw [z, e4 _ _ ho] at q; cases q
  have S8 : Srt w h8 (g.push σ.n y dy sl) σ.push := S3.push (fun b o nb m q => keepM b o nb q) d8 ⟨(b8.2 _ (ne_d _ n1)).trans (e57 _ _ I5.1), (b8.2 _ (ne_d _ n2)).trans (e57 _ _ I5.2)⟩ (by obtain ⟨n, l5⟩ := l5; exact ⟨n, (b8.2 _ (ne_d _ n3)).trans (e57 _ _ l5)⟩)
    (by cases z : h3.get? y with | none => rfl | some o => rw [e4 _ _ z] at n1; cases n1) (by cases z : h3.get? dy with | none => rfl | some o => rw [e4 _ _ z] at n2; cases n2) (by cases z : h3.get? sl with | none => rfl | some o => rw [e4 _ _ z] at n3; cases n3)
  have hd0 : h0.get? g.d = none := by rw [← hh0]; exact (hideS_get _ _ _).2 rfl
  have F8 : Fm h0 h8 env (("result", prV .none) :: ([("self", .ref g.x), ("node", .int (σ.n : Nat) t)].map fun b => (b.1, prV b.2))) := (F5.ext e57).chg (S := fun b => b = g.d) (Chg.one b8) (fun b q => by rw [q]; exact offM _ .d) (fun b q => by rw [q]; exact hd0) fun x p e v => by
    have : ∃ u, p = prV u := by
      rw [lk_cons] at e
      by_cases q : x = "result"
      · rw [if_pos q] at e; cases e; exact ⟨_, rfl⟩
      · rw [if_neg q] at e
        obtain ⟨u, _, rfl⟩ := pinB_lookup e
        exact ⟨u, rfl⟩
    obtain ⟨u, rfl⟩ := this
    exact id
  refine wpAny_assign_Name (Fm.store (s := { s with heap := h8, toks := _ }) (p := prV (.ref y)) F8 (.inl (kd _)) rfl fun h9 t9 F9 pr9 off9 => ?_)
  refine wp_nil (wp_ret rm' (ev_var (p := prV (.ref y)) F9 rfl) fun v h10 t10 e10 q10 => ?_)
  cases (q10 : v = _)
  have offN : ∀ b o, h8.get? b = some o → Mem (g.push σ.n y dy sl) σ.push b → Off env b := fun b o q m => by
    have new : ∀ b, h4.get? b = none → Off env b := fun b q => (F3.ext e4).off_new q
    cases m with
    | x => exact offM _ .x
    | dx => exact offM _ .dx
    | d => exact offM _ .d
    | inf i hi =>
      by_cases z : i = σ.n
      · subst z; simp only [Geo.push, upd_same]; exact new _ n1
      · simp only [Geo.push, upd_ne _ _ z]; exact offM _ (.inf i (by have : i < σ.n + 1 := hi; omega))
    | din i hi =>
      by_cases z : i = σ.n
      · subst z; simp only [Geo.push, upd_same]; exact new _ n2
      · simp only [Geo.push, upd_ne _ _ z]; exact offM _ (.din i (by have : i < σ.n + 1 := hi; omega))
    | suc i hi =>
      by_cases z : i = σ.n
      · subst z; simp only [Geo.push, upd_same]; exact new _ n3
      · simp only [Geo.push, upd_ne _ _ z]; exact offM _ (.suc i (by have : i < σ.n + 1 := hi; omega))
    | rd _ l e => exact offM _ (.rd _ l e)
  refine h y dy sl h10 t10 ?_ ((S8.keep fun b o m q => off9 b o (offN b o q m).l (offN b o q m).c q).ext e10) (nn _ n1) (nn _ n2) (nn _ n3)
  have := F9.base.trans e10
  rw [← hh0] at this
  exact chg_of_hide this
end
end Mine

end

section
open PySem PySem.W PyProof.Rows PySem.SeqAt
set_option Elab.async false
set_option linter.all false
set_option autoImplicit false
namespace Mine
inductive Own (g : Geo) (σ : Sta) : Addr → Prop
  | dx : Own g σ g.dx
  | d : Own g σ g.d
  | inf (i) : i < σ.n → Own g σ (g.inf i)
  | suc (i) : i < σ.n → Own g σ (g.suc i)
  | rd (a l) : σ.rd = some (a, l) → Own g σ a
theorem Own.mem {g : Geo} {σ : Sta} {b : Addr} (x : Own g σ b) : Mem g σ b := by
  cases x with
  | dx => exact .dx
  | d => exact .d
  | inf i h => exact .inf i h
  | suc i h => exact .suc i h
  | rd _ l e => exact .rd _ l e
section
variable {w : World} {G : List (Str × Value)} {k : Nat} {A : Around} {s : Shared} {g : Geo} {σ : Sta} {env : Env} {h h0 : Heap} {ρ : Locs}
theorem Fm.drop {x : Str} {p : Pr} (F : Fm h0 h env ((x, p) :: ρ)) (hx : ρ.lookup x = none) : Fm h0 h env ρ := F.weaken fun y q e => by
  refine ⟨q, ?_, fun v z => z⟩
  rw [lk_cons, if_neg (fun z => by rw [z, hx] at e; cases e)]; exact e
/-- o.append(e), a statement -/
theorem wp_appendE {E : Value → Shared → Prop} {Q : Flow → Shared → Prop} {o e : Expr} {apos pos spos : Pos} {rest : List Stmt} {P : Value → Heap → Prop} {D : Addr} {ys : Array Value}
    (rm : Room k A) (hk : env.scope.kind = .function) (ho : EvP pw w k env s.heap o (IsV (.ref D))) (hD : s.heap.PlainList D ys) (he : EvP pw w k env s.heap e P) (hsz : ys.size ≤ sizeLine)
    (h : ∀ y h1 h2 tk, Ext s.heap h1 → P y h1 → h2.PlainList D (ys.push y) → Heap.SameBut D h1 h2 → wpAny (model pw w) A (execs rest env) Q E { s with heap := h2, toks := tk })
    (hbase : attributeBase o "append" env (eval o env) = eval o env := by rfl) (hst : starEach [e] env = [(false, eval e env)] := by rfl) (hline : (apos.endLine == pos.line) = true := by rfl) :
    wpAny (model pw w) A (execs (.Expr (.Call (.Attribute o "append" apos) [e] [] pos) spos :: rest) env) Q E s := by
  refine wpAny_execs_cons (wpAny_Expr (wpAny_Call_method hbase (by rw [hst]; rfl) hline PySem.F.plainAttrs_list PySem.F.slot_list_append PySem.F.type_list_append (ho A s E _ rm (.refl _) fun v h0 t0 e0 q0 => ?_)) (by unfold interactive; rw [hk]; rfl) rfl)
  cases q0
  obtain ⟨n, hD'⟩ := id hD
  have hD0 := e0 _ _ hD'
  refine ⟨⟨_, hD0, rfl⟩, fun a e => by cases e; exact ⟨_, hD0, rfl⟩, callWith_method1 (args_cons (he A _ E _ rm e0 fun y h1 t1 e1 p1 => args_nil ?_) hst) hst⟩
  refine wpAny_list_append_plain (s := { s with heap := h1, toks := t1 }) (hsz := hsz) ⟨n, e1 _ _ hD0⟩ fun h2 l2 s2 => ?_
  exact h y h1 h2 t1 (e0.trans e1) p1 l2 s2
/-- self._get_nodeinfo(e), the node stands -/
theorem ev_gni {o e : Expr} {apos pos : Pos} {i : Nat} (B : Bse w G h) (S : Srt w h g σ) (hi : i < σ.n) (ho : EvP pw w (k + 1) env h o (IsV (.ref g.x))) (he : EvD pw w (k + 1) env h e (.int (i : Nat)))
    (hst : starEach [e] env = [(false, eval e env)] := by rfl)
    (hbase : attributeBase o "_get_nodeinfo" env (eval o env) = eval o env := by rfl) (hline : (apos.endLine == pos.line) = true := by rfl) :
    EvP pw w (k + 1) env h (.Call (.Attribute o "_get_nodeinfo" apos) [e] [] pos) (IsV (.ref (g.inf i))) := fun A s E Q rm hx hq => by
  obtain ⟨t, u, I⟩ := (S.ext hx).ins
  refine meth1 (f := 87) rm (B.ext hx).K I (ho.ext hx) (by decide) rfl (he.ext hx) (fun v h1 t1 e1 q1 => ?_) hst hbase hline
  obtain ⟨t1', rfl⟩ := q1.inv_int
  refine gni_old (s := { s with heap := h1, toks := t1 }) rm B (hx.trans e1) (S.ext (hx.trans e1)) hi fun h2 t2 e2 => hq _ _ _ (e1.trans e2) rfl
/-- the count of predecessors of node i is changed -/
theorem Srt.setNp {h' : Heap} {i : Nat} {c : Int} {a : Value} {u : Tok} {L : Addr} (S : Srt w h g σ) (hi : i < σ.n) (ha : ∃ t, a = .int (i : Nat) t) (hI : Inf h' (g.inf i) (g.din i) a (.int c u) (.ref (g.suc i))) (B : But L (g.inf i) h h') (hL : ∀ b, Mem g σ b → b ≠ L) :
    Srt w h' g { σ with np := upd σ.np i c } := by
  have pl : ∀ b o, Mem g σ b → h.get? b = some o → o.data ≠ .plain → h'.get? b = some o := fun b o m e hd => B b o (by
    rintro rfl
    obtain ⟨t, u, I⟩ := S.inf i hi
    rw [I.1] at e; cases e; exact hd rfl) (hL b m) e
  have hx : g.x ≠ g.inf i := fun q => by
    obtain ⟨t, u, h1, _⟩ := S.ins
    obtain ⟨t, u, I⟩ := S.inf i hi
    rw [q, I.1] at h1; cases h1
  refine ⟨?_, ?_, fun j hj => ?_, fun j hj => ?_, fun a l e => ?_, S.iinf, S.isuc, S.ird, S.dd, S.din, S.sm⟩
  · obtain ⟨t, u, h1, es, n, h2, h3⟩ := S.ins
    exact ⟨t, u, B _ _ hx (hL _ .x) h1, es, n, pl _ _ .dx h2 (fun q => by cases q), h3⟩
  · obtain ⟨o, es, ep, ho, hex, hd, r⟩ := S.dct
    exact ⟨o, es, ep, pl _ _ .d ho (fun q => by rw [hd] at q; cases q), hex, hd, r⟩
  · by_cases q : j = i
    · subst q
      obtain ⟨t, rfl⟩ := ha
      exact ⟨t, u, by simp only [upd_same]; exact hI⟩
    · obtain ⟨t, u, I⟩ := S.inf j hj
      exact ⟨t, u, by simp only [upd_ne _ _ q]; exact ⟨B _ _ (fun z => q (S.iinf j i hj hi z)) (hL _ (.inf j hj)) I.1, pl _ _ (.din j hj) I.2 (fun q => by cases q)⟩⟩
  · obtain ⟨vs, ⟨n, hl⟩, r⟩ := S.suc j hj
    exact ⟨vs, ⟨n, pl _ _ (.suc j hj) hl (fun q => by cases q)⟩, r⟩
  · obtain ⟨vs, ⟨n, hl⟩, r⟩ := S.rdy a l e
    exact ⟨vs, ⟨n, pl _ _ (.rd a l e) hl (fun q => by cases q)⟩, r⟩
/-- the list of successors of node i is changed -/
theorem Srt.setSu {h' : Heap} {i : Nat} {l : List Nat} {vs : Array Value} (S : Srt w h g σ) (hi : i < σ.n) (hl : h'.PlainList (g.suc i) vs) (hv : IntsAre vs.toList (nI l)) (B : Heap.SameBut (g.suc i) h h') :
    Srt w h' g { σ with su := upd σ.su i l } := by
  have pl : ∀ b o, h.get? b = some o → keptObj o = false → h'.get? b = some o := fun b o e hd => (B.2 b (by
    rintro rfl
    obtain ⟨vs, ⟨n, hl⟩, r⟩ := S.suc i hi
    rw [hl] at e; cases e; cases hd)).trans e
  refine ⟨?_, ?_, fun j hj => ?_, fun j hj => ?_, fun a l e => ?_, S.iinf, S.isuc, S.ird, S.dd, S.din, S.sm⟩
  · obtain ⟨t, u, h1, es, n, h2, h3⟩ := S.ins
    exact ⟨t, u, pl _ _ h1 rfl, es, n, pl _ _ h2 rfl, h3⟩
  · obtain ⟨o, es, ep, ho, hex, hd, r⟩ := S.dct
    exact ⟨o, es, ep, pl _ _ ho (by simp [keptObj, hd]), hex, hd, r⟩
  · obtain ⟨t, u, I⟩ := S.inf j hj
    exact ⟨t, u, pl _ _ I.1 rfl, pl _ _ I.2 rfl⟩
  · by_cases q : j = i
    · subst q
      simp only [upd_same]; exact ⟨vs, hl, hv⟩
    · simp only [upd_ne _ _ q]
      obtain ⟨vs, ⟨n, hl⟩, r⟩ := S.suc j hj
      exact ⟨vs, ⟨n, (B.2 _ (fun z => q (S.isuc j i hj hi z))).trans hl⟩, r⟩
  · obtain ⟨vs, ⟨n, hl⟩, r⟩ := S.rdy a l e
    exact ⟨vs, ⟨n, (B.2 _ (fun z => S.ird a _ i e hi z.symm)).trans hl⟩, r⟩
noncomputable def suAdd (su : Nat → List Nat) (i : Nat) (ps : List Nat) : Nat → List Nat := fun j => su j ++ (ps.filter (· == j)).map fun _ => i
end
end Mine

end

section
open PySem PySem.W PyProof.Rows PySem.SeqAt
set_option Elab.async false
set_option linter.all false
set_option autoImplicit false
namespace Mine
section
variable {w : World} {G : List (Str × Value)} {k : Nat} {A : Around} {s : Shared} {g : Geo} {σ : Sta} {env : Env} {h h0 : Heap} {ρ : Locs}
theorem suAdd_nil (su : Nat → List Nat) (i : Nat) : suAdd su i [] = su := by funext j; simp [suAdd]
theorem suAdd_snoc (su : Nat → List Nat) (i p : Nat) (ps : List Nat) : suAdd su i (ps ++ [p]) = upd (suAdd su i ps) p (suAdd su i ps p ++ [i]) := by
  funext j
  by_cases q : j = p
  · subst q; simp [suAdd, upd_same]
  · have : (p == j) = false := by simp; exact fun z => q z.symm
    simp [suAdd, upd_ne _ _ q, this]
noncomputable def addS (σ : Sta) (i : Nat) (ps : List Nat) : Sta := { σ with np := upd σ.np i (σ.np i + (ps.length : Nat)), su := suAdd σ.su i ps }
theorem take_snoc {α : Type} {l : List α} {j : Nat} {a : α} (h : l[j]? = some a) : l.take (j + 1) = l.take j ++ [a] := by
  rw [List.take_add_one, h]; rfl
theorem ints_get {vs : List Value} {ns : List Int} (h : IntsAre vs ns) {j : Nat} {v : Value} (e : vs[j]? = some v) : ∃ i t, ns[j]? = some i ∧ v = .int i t := by
  induction h generalizing j with
  | nil => simp at e
  | cons n t r ih =>
    cases j with
    | zero => simp at e; exact ⟨n, t, rfl, e.symm⟩
    | succ j => simp at e; obtain ⟨i, t, a, b⟩ := ih e; exact ⟨i, t, by simpa using a, b⟩
theorem nI_get {l : List Nat} {j : Nat} {i : Int} (e : (nI l)[j]? = some i) : ∃ n, l[j]? = some n ∧ i = (n : Nat) := by
  rw [nI, List.getElem?_map] at e
  cases q : l[j]? with
  | none => rw [q] at e; cases e
  | some n => rw [q] at e; cases e; exact ⟨n, rfl, rfl⟩
theorem nI_len (l : List Nat) : (nI l).length = l.length := by simp [nI]

theorem Mem.cast {σ' : Sta} {b : Addr} (m : Mem g σ b) (h1 : σ.n = σ'.n) (h2 : σ.rd = σ'.rd) : Mem g σ' b := by
  cases m with
  | x => exact .x
  | dx => exact .dx
  | d => exact .d
  | inf i h => exact .inf i (h1 ▸ h)
  | din i h => exact .din i (h1 ▸ h)
  | suc i h => exact .suc i (h1 ▸ h)
  | rd _ l e => exact .rd _ l (h2 ▸ e)
noncomputable def addRho (x nd : Value) (tp y : Addr) : Locs := [("nodeinfo", prV (.ref y)), ("self", prV x), ("node", prV nd), ("predecessors", prV (.ref tp))]
theorem add_core {E : Value → Shared → Prop} {Q : Flow → Shared → Prop} {i : Nat} {t : Tok} {tp : Addr} {vs : Array Value} {ps : List Nat} (rm : Room (k + 1) A) (hs : env.scope = defScope (sortC.drop 2)) (hg : env.globals = mainGlobals) (hb : env.builtins = builtinsNs)
    (F : Fm h0 s.heap env (addRho (.ref g.x) (.int (i : Nat) t) tp (g.inf i))) (B : Bse w G h0) (S : Srt w s.heap g σ) (hi : i < σ.n) (hnn : σ.n ≤ 100) (hps : ps.length ≤ 100) (hsl : ∀ j, j < σ.n → (σ.su j).length ≤ 1000)
    (hT : s.heap.get? tp = some { cls := .type "tuple", data := .seq vs }) (hv : IntsAre vs.toList (nI ps)) (hp : ∀ p ∈ ps, p < σ.n) (offM : ∀ b, Mem g σ b → Off env b) (H0 : ∀ b, Own g σ b → h0.get? b = none)
    (h : ∀ h' tk, Ext h0 h' → Srt w h' g (addS σ i ps) → Q .next { s with heap := h', toks := tk }) :
    wpAny (model pw w) A (execs ((defBody (sortC.drop 2)).drop 2) env) Q E s := by
  have kd : ∀ x, env.kindOf x = (defScope (sortC.drop 2)).names.lookup x := fun x => by rw [Env.kindOf, hs]
  have vlen : vs.size = ps.length := by have := hv.length; simp [nI] at this; exact this
  -- nodeinfo.npredecessors += len(predecessors)
  obtain ⟨ti, ui, I⟩ := S.inf i hi
  have tup : s.heap.IsTuple tp vs := ⟨_, hT, rfl, _, rfl⟩
  refine wp_augN (j := (ps.length : Nat)) rm F B.K I (offM _ (.inf i hi)) (offM _ (.din i hi)) (H0 _ (.inf i hi)) (.inl ⟨rfl, rfl⟩) (ev_pin F rfl) (ev_call_builtin (has_b (B.glo.ext F.base) (by decide) boot_len F.kind (kd _) hg hb)
    (evp_cons (P1 := IsV (.ref tp)) (P2 := fun vs _ => vs = []) (P := fun vs _ => vs = [.ref tp]) (ev_pin F rfl) (evp_nil fun _ _ => rfl) (fun v h h' _ q => q) (fun v vs h' (q1 : v = _) (q2 : vs = []) => by rw [q1, q2])) ?_) fun u h1 h2 t2 e1 F2 I2 B2 pr2 => ?_
  · intro A s' vs' E Q rm hx pa hq
    cases pa
    refine PyProof.Rows.len_tuple (t := tp) (items := vs) ⟨_, hx _ _ hT, rfl, _, rfl⟩ (by omega) ?_
    rw [vlen]; exact hq _ _ _ (.refl _) Rd.int
  have S1 : Srt w h2 g { σ with np := upd σ.np i (σ.np i + (ps.length : Nat)) } := (S.ext e1).setNp hi ⟨ti, rfl⟩ I2 B2 fun b m => (offM b m).l
  have T2 : h2.get? tp = some { cls := .type "tuple", data := .seq vs } := pr2 _ _ rfl (e1 _ _ hT)
  -- for pred in predecessors
  have J0 : suAdd σ.su i (ps.take 0) = σ.su := by rw [List.take_zero, suAdd_nil]
  have pin : ∀ x p, (addRho (.ref g.x) (.int (i : Nat) t) tp (g.inf i)).lookup x = some p → ∃ u, p = prV u := fun x p e => by
    have : p ∈ (addRho (.ref g.x) (.int (i : Nat) t) tp (g.inf i)).map (·.2) := List.mem_map.mpr ⟨(x, p), mem_of_lookup e, rfl⟩
    simp only [addRho, List.map_cons, List.map_nil, List.mem_cons, List.not_mem_nil, or_false] at this
    rcases this with q | q | q | q <;> exact ⟨_, q⟩
  refine wp_for (s := { s with heap := h2, toks := t2 }) (k := k + 1) (n := vs.size) (PI := IsV (.ref tp)) (I := fun j v => vs[j]? = some v) (Z := fun b => b = tp) rm (ev_pin F2 rfl) (hit_tuple rm ⟨_, T2, rfl, _, rfl⟩)
    (fun It j h => Fm h0 h env (addRho (.ref g.x) (.int (i : Nat) t) tp (g.inf i)) ∧ Srt w h g { σ with np := upd σ.np i (σ.np i + (ps.length : Nat)), su := suAdd σ.su i (ps.take j) } ∧ h.get? tp = some { cls := .type "tuple", data := .seq vs } ∧ Off env It ∧ (∀ b, Mem g σ b → b ≠ It) ∧ h0.get? It = none ∧ tp ≠ It)
    (fun It h3 e3 n3 => ⟨F2.ext e3, by rw [J0]; exact S1.ext e3, e3 _ _ T2, F2.off_new n3, (fun b m q => (by obtain ⟨o, ho⟩ := S1.at (b := b) (m.cast rfl rfl); rw [q] at ho; rw [n3] at ho; cases ho)), (by
      cases z : h0.get? It with
      | none => rfl
      | some o => rw [F2.base _ _ z] at n3; cases n3), (fun q => (by rw [← q] at n3; rw [T2] at n3; cases n3))⟩)
    ?_ ?_ ?_
  · rintro It j h3 h4 ⟨F3, S3, T3, o3, m3, z3, w3⟩ kp
    exact ⟨F3.chgV (S := fun b => b = It) pin (fun b o nb e => kp b o nb e) (fun b q => by rw [q]; exact o3) (fun b q => by rw [q]; exact z3), S3.keep fun b o m e => kp b o (m3 b (m.cast rfl rfl)) e, kp _ _ w3 T3, o3, m3, z3, w3⟩
  · rintro It j v h3 t3 E' Q' hj ⟨F3, S3, T3, o3, m3, z3, w3⟩ hv3 n3 ⟨oI, hIt, kIt⟩ hQ'
    have hv3' : vs.toList[j]? = some v := by simpa using hv3
    obtain ⟨iv, tv, hv4, rfl⟩ := ints_get hv hv3'
    obtain ⟨p, hp3, rfl⟩ := nI_get hv4
    have hpn : p < σ.n := hp p (List.mem_of_getElem? hp3)
    refine wpAny_assign_Name (Fm.store (s := { s with heap := h3, toks := t3 }) (p := prV (.int (p : Nat) tv)) F3 (.inl (kd _)) rfl fun h4 t4 F4 pr4 off4 => ?_)
    have S4 := S3.keep (h' := h4) fun b o m e => off4 b o (offM b (m.cast rfl rfl)).l (offM b (m.cast rfl rfl)).c e
    -- pred_info = self._get_nodeinfo(pred)
    refine wp_assign (s := { s with heap := h4, toks := t4 }) (p := prV (.ref (g.inf p))) rm F4 (ev_gni (B.ext F4.base) S4 hpn (ev_pin F4 rfl) (ev_pinI F4 rfl)) (.inl (kd _)) fun h5 t5 F5 pr5 off5 => ?_
    have S5 := S4.keep (h' := h5) fun b o m e => off5 b o (offM b (m.cast rfl rfl)).l (offM b (m.cast rfl rfl)).c e
    obtain ⟨tq, uq, I5⟩ := S5.inf p hpn
    obtain ⟨ys, hys, hyi⟩ := S5.suc p hpn
    -- pred_info.successors.append(node)
    refine wp_appendE (s := { s with heap := h5, toks := t5 }) (P := IsV (.int (i : Nat) t)) rm F5.kind (ev_slot (KIn.ext B.K F5.base) I5 (ev_pin F5 rfl) (name := "successors") (p := 50) (i := 2) (by decide) rfl rfl) hys (ev_pin F5 rfl) ?_ fun y h6 h7 t7 e6 q6 l7 b7 => wp_nil ?_
    · have e1 := hyi.length
      have e2 : ((ps.take j).filter (· == p)).length ≤ ps.length := Nat.le_trans (List.length_filter_le _ _) (by rw [List.length_take]; omega)
      have e3 := hsl p hpn
      simp [nI_len, suAdd] at e1
      simp [sizeLine]; omega
    cases (q6 : y = _)
    have S7 := (S5.ext e6).setSu hpn l7 (l := suAdd σ.su i (ps.take j) p ++ [i]) (by rw [Array.toList_push]; exact nat_snoc hyi) b7
    have sne : ∀ b o, h6.get? b = some o → keptObj o = false → b ≠ g.suc p := fun b o e hk q => by
      obtain ⟨n, hys⟩ := hys
      rw [q, e6 _ _ hys] at e; cases e; cases hk
    have tps : tp ≠ g.suc p := fun q => by
      obtain ⟨n, hys⟩ := hys
      have := pr5 _ _ rfl (pr4 _ _ rfl T3)
      rw [q, hys] at this; have := congrArg Obj.cls (Option.some.inj this); simp at this
    have itn : It ≠ g.suc p := fun q => m3 _ (.suc p hpn) q.symm
    have F7 : Fm h0 h7 env (addRho (.ref g.x) (.int (i : Nat) t) tp (g.inf i)) := (((F5.drop rfl).drop rfl).ext e6).chgV (S := fun b => b = g.suc p) pin (Chg.one b7) (fun b q => by rw [q]; exact offM _ (.suc p hpn)) (fun b q => by rw [q]; exact H0 _ (.suc p hpn))
    have T7 : h7.get? tp = some { cls := .type "tuple", data := .seq vs } := (b7.2 _ tps).trans (e6 _ _ (pr5 _ _ rfl (pr4 _ _ rfl T3)))
    refine hQ' _ _ _ (fun _ => ⟨⟨F7, ?_, T7, o3, m3, z3, w3⟩, ?_⟩) (fun q => by cases q) (fun v q => by cases q)
    · have : suAdd σ.su i (ps.take (j + 1)) = upd (suAdd σ.su i (ps.take j)) p (suAdd σ.su i (ps.take j) p ++ [i]) := by rw [take_snoc hp3, suAdd_snoc]
      rw [this]; exact S7
    · rintro b o (rfl | rfl) e
      · exact (b7.2 _ itn).trans (e6 _ _ (off5 _ _ o3.l o3.c (off4 _ _ o3.l o3.c e)))
      · rw [T3] at e; cases e; exact T7
  · rintro It h3 t3 ⟨F3, S3, _⟩ _
    refine wp_nil (h _ _ F3.base ?_)
    rw [vlen, List.take_of_length_le (Nat.le_refl _)] at S3
    exact S3
end
end Mine

end

section
open PySem PySem.W PyProof.Rows PySem.SeqAt
set_option Elab.async false
set_option linter.all false
set_option autoImplicit false
namespace Mine
section
variable {w : World} {G : List (Str × Value)} {k : Nat} {A : Around} {s : Shared} {g : Geo} {σ : Sta} {env : Env} {h h0 : Heap} {ρ : Locs}
theorem notNone {o : Expr} {n : Nat} {p1 p2 : Pos} {v : Value} {b : Bool} (ho : EvP pw w k env h o (IsV v)) (hb : (v != .none) = b) : Ts pw w k env h (.Compare o [.IsNot] [.Constant .none n p1] p2) b := by
  refine ts_cmp ho (ev_none (n := n) (pos := p1)) (fun v h h' _ q => q) ?_ (by with_unfolding_all rfl)
  intro A s E Q x y rm hx (q1 : x = v) q2 hq
  rw [Rd.inv_none q2, q1]
  refine isNot_none ?_
  have e : (!(v == .none)) = b := hb
  rw [e]; exact hq _ _ (.refl _)
theorem isNone {o : Expr} {n : Nat} {p1 p2 : Pos} {v : Value} {b : Bool} (ho : EvP pw w k env h o (IsV v)) (hb : (v == .none) = b) : Ts pw w k env h (.Compare o [.Is] [.Constant .none n p1] p2) b := by
  refine ts_cmp ho (ev_none (n := n) (pos := p1)) (fun v h h' _ q => q) ?_ (by with_unfolding_all rfl)
  intro A s E Q x y rm hx (q1 : x = v) q2 hq
  rw [Rd.inv_none q2, q1]
  refine is_none ?_
  rw [hb]; exact hq _ _ (.refl _)
theorem add_ok {R : Result → Shared → Prop} {hB : Heap} {i : Nat} {t : Tok} {vs : List Value} {ps : List Nat} (rm : Room (k + 2) A) (B : Bse w G hB) (eB : Ext hB s.heap) (S : Srt w s.heap g σ) (hrd : σ.rd = none) (hi : i < σ.n) (hnn : σ.n ≤ 100) (hps : ps.length ≤ 100) (hsl : ∀ j, j < σ.n → (σ.su j).length ≤ 1000)
    (hv : IntsAre vs (nI ps)) (hp : ∀ p ∈ ps, p < σ.n) (HB : ∀ b, Own g σ b → hB.get? b = none)
    (h : ∀ h' tk, Chg (Own g σ) s.heap h' → Srt w h' g (addS σ i ps) → R (.ok (.ret .none)) { s with heap := h', toks := tk }) : codeAny (model pw w) A (.call (.ref 94) ⟨.ref g.x :: .int (i : Nat) t :: vs, []⟩) R s := by
  have B1 := B.ext eB
  have vl : vs.length = ps.length := by have := hv.length; rw [nI_len] at this; exact this
  refine run_fn (k := k + 1) rm (B1.K 94 _ (kf_94 _)) B1.glo.lim (codeRec_K _ B1.K).2.2.2.1 (bind_add (by rw [vl]; simp [sizeLine]; omega)) (Ext.push _ _) (show ([Str.ofString "self", Str.ofString "node", Str.ofString "predecessors"] : List Str).Nodup by decide)
    (by intro b hb; rcases List.mem_cons.mp hb with rfl | hb; exact .inl rfl; rcases List.mem_cons.mp hb with rfl | hb; exact .inl rfl; rw [List.mem_singleton.mp hb]; exact .inl rfl) rfl rfl rfl fun env h2 tk henv hs hg hb F0 off rm' => ?_
  have kd : ∀ x, env.kindOf x = (defScope (sortC.drop 2)).names.lookup x := fun x => by rw [Env.kindOf, hs]
  have F := F0.hide (S := Own g σ) (Ext.push s.heap _)
  have BH := B.ext (hide_base (S := Own g σ) eB HB)
  have H0 : ∀ b, Own g σ b → (hideS (Own g σ) s.heap).get? b = none := fun b q => (hideS_get _ _ _).2 q
  have hback : ∀ h', Ext (hideS (Own g σ) s.heap) h' → Chg (Own g σ) s.heap h' := fun h' e => chg_of_hide e
  generalize hideS (Own g σ) s.heap = h0 at F BH H0 hback
  have hT : h2.get? s.heap.objs.size = some { cls := .type "tuple", data := .seq vs.toArray } := F0.base _ _ (Heap.get?_push_size _ rfl)
  have S2 := S.ext ((Ext.push _ _).trans F0.base)
  have offM : ∀ b, Mem g σ b → Off env b := fun b m => by obtain ⟨o, ho⟩ := S.at m; exact off _ _ (Heap.get?_push_of_some _ ho)
  obtain ⟨t1, u1, I⟩ := S2.ins
  rw [hrd] at I
  generalize s.heap.objs.size = tp at *
  refine wp_if (s := { s with heap := h2, toks := tk }) rm' (notNone (ev_attr (KIn.ext BH.K F.base) I (ev_pin F rfl) (name := "_ready_nodes") (by decide) rfl rfl) rfl) (fun q => by cases q) fun _ h3 t3 e3 => wp_nil ?_
  have F3 := F.ext e3
  refine wp_assign (s := { s with heap := h3, toks := t3 }) (p := prV (.ref (g.inf i))) rm' F3 (ev_gni (BH.ext F3.base) (S2.ext e3) hi (ev_pin F3 rfl) (ev_pinI F3 rfl)) (.inl (kd _)) fun h4 t4 F4 pr4 off4 => ?_
  refine add_core (k := k) (ps := ps) rm' hs hg hb F4 BH ((S2.ext e3).keep fun b o m e => off4 b o (offM b m).l (offM b m).c e) hi hnn hps hsl (pr4 _ _ rfl (e3 _ _ hT)) (by simpa using hv) hp offM H0 fun h' tk' e S' => ?_
  exact h h' tk' (hback _ e) S'
theorem add_new {R : Result → Shared → Prop} {hB : Heap} {t : Tok} (rm : Room (k + 4) A) (B : Bse w G hB) (eB : Ext hB s.heap) (S : Srt w s.heap g σ) (hrd : σ.rd = none) (hnn : σ.n ≤ 50) (hsl : ∀ j, j < σ.n → (σ.su j).length ≤ 1000)
    (HB : ∀ b, Own g σ b → hB.get? b = none)
    (h : ∀ y dy sl h' tk, Chg (Own g σ) s.heap h' → Srt w h' (g.push σ.n y dy sl) (addS σ.push σ.n []) → s.heap.get? y = none → s.heap.get? dy = none → s.heap.get? sl = none → R (.ok (.ret .none)) { s with heap := h', toks := tk }) : codeAny (model pw w) A (.call (.ref 94) ⟨[.ref g.x, .int (σ.n : Nat) t], []⟩) R s := by
  have B1 := B.ext eB
  refine run_fn (k := k + 3) rm (B1.K 94 _ (kf_94 _)) B1.glo.lim (codeRec_K _ B1.K).2.2.2.1 (bind_add (ps := []) (by simp [sizeLine])) (Ext.push _ _) (show ([Str.ofString "self", Str.ofString "node", Str.ofString "predecessors"] : List Str).Nodup by decide)
    (by intro b hb; rcases List.mem_cons.mp hb with rfl | hb; exact .inl rfl; rcases List.mem_cons.mp hb with rfl | hb; exact .inl rfl; rw [List.mem_singleton.mp hb]; exact .inl rfl) rfl rfl rfl fun env h2 tk henv hs hg hb F0 off rm' => ?_
  have kd : ∀ x, env.kindOf x = (defScope (sortC.drop 2)).names.lookup x := fun x => by rw [Env.kindOf, hs]
  have F := F0.hide (S := Own g σ) (Ext.push s.heap _)
  have BH := B.ext (hide_base (S := Own g σ) eB HB)
  have H0 : ∀ b, Own g σ b → (hideS (Own g σ) s.heap).get? b = none := fun b q => (hideS_get _ _ _).2 q
  have H1 : ∀ b, s.heap.get? b = none → (hideS (Own g σ) s.heap).get? b = none := fun b q => hideS_none q
  have hback : ∀ h', Ext (hideS (Own g σ) s.heap) h' → Chg (Own g σ) s.heap h' := fun h' e => chg_of_hide e
  generalize hideS (Own g σ) s.heap = h0 at F BH H0 hback H1
  have hT : h2.get? s.heap.objs.size = some { cls := .type "tuple", data := .seq #[] } := F0.base _ _ (Heap.get?_push_size _ rfl)
  have S2 := S.ext ((Ext.push _ _).trans F0.base)
  have offM : ∀ b, Mem g σ b → Off env b := fun b m => by obtain ⟨o, ho⟩ := S.at m; exact off _ _ (Heap.get?_push_of_some _ ho)
  have e02 : Ext s.heap h2 := (Ext.push _ _).trans F0.base
  obtain ⟨t1, u1, I⟩ := S2.ins
  rw [hrd] at I
  generalize s.heap.objs.size = tp at *
  refine wp_if (s := { s with heap := h2, toks := tk }) rm' (notNone (ev_attr (KIn.ext BH.K F.base) I (ev_pin F rfl) (name := "_ready_nodes") (by decide) rfl rfl) rfl) (fun q => by cases q) fun _ h3 t3 e3 => wp_nil ?_
  have F3 := F.ext e3
  have S3 := S2.ext e3
  obtain ⟨t4, u4, I4⟩ := S3.ins
  rw [hrd] at I4
  refine wpAny_execs_cons (wpAny_Assign_Name (meth1 (s := { s with heap := h3, toks := t3 }) (f := 87) (P := IsV (.int (σ.n : Nat) t)) rm' (KIn.ext BH.K F3.base) I4 (ev_pin F3 rfl) (by decide) rfl (ev_pin F3 rfl) fun u h4 t5 e4 q4 => ?_))
  cases q4
  refine gni_new (s := { s with heap := h4, toks := t5 }) (k := k) rm' BH (F3.base.trans e4) (S3.ext e4) (by omega) (H0 _ .d) fun y dy sl h5 t6 c5 S5 n1 n2 n3 => ?_
  have e24 : Ext h2 h4 := e3.trans e4
  have ns : ∀ b, h4.get? b = none → s.heap.get? b = none := fun b q => by
    cases z : s.heap.get? b with
    | none => rfl
    | some o => rw [e24 _ _ (e02 _ _ z)] at q; cases q
  have F5 : Fm h0 h5 env (([("self", .ref g.x), ("node", .int (σ.n : Nat) t), ("predecessors", .ref tp)] : List (Str × Value)).map fun b => (b.1, prV b.2)) := (F3.ext e4).chgV (S := fun b => b = g.d) (fun x p e => by obtain ⟨u, _, rfl⟩ := pinB_lookup e; exact ⟨u, rfl⟩) c5 (fun b q => by rw [q]; exact offM _ .d) (fun b q => by rw [q]; exact H0 _ .d)
  have tpd : tp ≠ g.d := fun q => by
    obtain ⟨o, es, ep, ho, _, hd, _⟩ := S2.dct
    rw [← q, hT] at ho; cases ho; cases hd
  have hT5 : h5.get? tp = some { cls := .type "tuple", data := .seq #[] } := c5 _ _ tpd (e24 _ _ hT)
  refine Fm.store (s := { s with heap := h5, toks := t6 }) (p := prV (.ref y)) F5 (.inl (kd _)) rfl fun h6 t7 F6 pr6 off6 => ?_
  have offN : ∀ b, Mem (g.push σ.n y dy sl) σ.push b → Off env b := fun b m => by
    have new : ∀ b, h4.get? b = none → Off env b := fun b q => (F3.ext e4).off_new q
    cases m with
    | x => exact offM _ .x
    | dx => exact offM _ .dx
    | d => exact offM _ .d
    | inf i hi =>
      by_cases z : i = σ.n
      · subst z; simp only [Geo.push, upd_same]; exact new _ n1
      · simp only [Geo.push, upd_ne _ _ z]; exact offM _ (.inf i (by have : i < σ.n + 1 := hi; omega))
    | din i hi =>
      by_cases z : i = σ.n
      · subst z; simp only [Geo.push, upd_same]; exact new _ n2
      · simp only [Geo.push, upd_ne _ _ z]; exact offM _ (.din i (by have : i < σ.n + 1 := hi; omega))
    | suc i hi =>
      by_cases z : i = σ.n
      · subst z; simp only [Geo.push, upd_same]; exact new _ n3
      · simp only [Geo.push, upd_ne _ _ z]; exact offM _ (.suc i (by have : i < σ.n + 1 := hi; omega))
    | rd _ l e => exact offM _ (.rd _ l e)
  have HN : ∀ b, Own (g.push σ.n y dy sl) σ.push b → h0.get? b = none := fun b m => by
    cases m with
    | dx => exact H0 _ .dx
    | d => exact H0 _ .d
    | inf i hi =>
      by_cases z : i = σ.n
      · subst z; simp only [Geo.push, upd_same]; exact H1 _ (ns _ n1)
      · simp only [Geo.push, upd_ne _ _ z]; exact H0 _ (.inf i (by have : i < σ.n + 1 := hi; omega))
    | suc i hi =>
      by_cases z : i = σ.n
      · subst z; simp only [Geo.push, upd_same]; exact H1 _ (ns _ n3)
      · simp only [Geo.push, upd_ne _ _ z]; exact H0 _ (.suc i (by have : i < σ.n + 1 := hi; omega))
    | rd _ l e => exact H0 _ (.rd _ l e)
  have hy : (g.push σ.n y dy sl).inf σ.n = y := by simp [Geo.push, upd_same]
  refine add_core (k := k + 2) (g := g.push σ.n y dy sl) (σ := σ.push) (i := σ.n) (t := t) (tp := tp) (ps := []) (vs := #[]) (s := { s with heap := h6, toks := t7 }) rm' hs hg hb (by rw [hy]; exact F6) BH (S5.keep fun b o m e => off6 b o (offN b m).l (offN b m).c e) (Nat.lt_succ_self _) (by show σ.n + 1 ≤ 100; omega) (by simp) (fun j hj => ?_) (pr6 _ _ rfl hT5) .nil (fun p hp => by cases hp) offN HN fun h' tk' e S' => ?_
  · by_cases z : j = σ.n
    · subst z; simp [Sta.push, upd_same]
    · simp only [Sta.push, upd_ne _ _ z]; exact hsl j (by have : j < σ.n + 1 := hj; omega)
  exact h y dy sl h' tk' (hback _ e) S' (ns _ n1) (ns _ n2) (ns _ n3)
end
end Mine

end

section
open PySem PySem.W PyProof.Rows PySem.SeqAt
set_option Elab.async false
set_option linter.all false
set_option autoImplicit false
namespace Mine
/-- what changes once the sorter is built -/
inductive OwnR (g : Geo) (σ : Sta) : Addr → Prop
  | dx : OwnR g σ g.dx
  | inf (i) : i < σ.n → OwnR g σ (g.inf i)
  | rd (a l) : σ.rd = some (a, l) → OwnR g σ a
theorem OwnR.mem {g : Geo} {σ : Sta} {b : Addr} (x : OwnR g σ b) : Mem g σ b := by
  cases x with
  | dx => exact .dx
  | inf i h => exact .inf i h
  | rd _ l e => exact .rd _ l e
section
variable {w : World} {G : List (Str × Value)} {k : Nat} {A : Around} {s : Shared} {g : Geo} {σ : Sta} {env : Env} {h h0 : Heap} {ρ : Locs}
/-- n2i[e] -/
theorem ev_sub2 {o e : Expr} {pos : Pos} {d : Addr} {i n : Nat} (hD : h.DictOf (knd w) d (dictN g n)) (hi : i < n) (ho : EvP pw w k env h o (IsV (.ref d))) (he : EvD pw w k env h e (.int (i : Nat)))
    (hs : ∀ u, subscripted e false (.ref d) (.int (i : Nat) u) = operate [.ref d, .int (i : Nat) u] (getItem (.ref d) (.int (i : Nat) u)) := by intro _; with_unfolding_all rfl) :
    EvP pw w k env h (.Subscript o e pos) (IsV (.ref (g.inf i))) := fun A s E Q rm hx hq =>
  Subscript_ (ho A s E _ rm hx fun v h1 t1 e1 p1 => he A _ E _ rm (hx.trans e1) fun iv h2 t2 e2 p2 => by
    cases (p1 : v = _)
    obtain ⟨t, rfl⟩ := p2.inv_int
    have D2 : h2.DictOf (knd w) d (dictN g n) := by obtain ⟨ob, es, ep, q, r⟩ := hD; exact ⟨ob, es, ep, e2 _ _ (e1 _ _ (hx _ _ q)), r⟩
    refine tail_any (s := { s with heap := h2, toks := t2 }) D2.typeIs slot_dict_getitem.lookup ?_ (hs _)
    exact wpAny_getItem_of (knd := knd w) (k := (i : Int)) (intKind_is _ _ _ _) D2.mapOf (dictN_at g hi) (hq _ _ _ (e1.trans e2) rfl))
/-- o.clear(), a statement -/
theorem wp_clear {E : Value → Shared → Prop} {Q : Flow → Shared → Prop} {o : Expr} {apos pos spos : Pos} {rest : List Stmt} {D : Addr} {ys : Array Value}
    (rm : Room k A) (hk : env.scope.kind = .function) (ho : EvP pw w k env s.heap o (IsV (.ref D))) (hD : s.heap.PlainList D ys) (hsz : ys.size ≤ sizeLine)
    (h : ∀ h1 h2 tk, Ext s.heap h1 → h2.PlainList D #[] → Heap.SameBut D h1 h2 → wpAny (model pw w) A (execs rest env) Q E { s with heap := h2, toks := tk })
    (hbase : attributeBase o "clear" env (eval o env) = eval o env := by rfl) (hline : (apos.endLine == pos.line) = true := by rfl) :
    wpAny (model pw w) A (execs (.Expr (.Call (.Attribute o "clear" apos) [] [] pos) spos :: rest) env) Q E s := by
  refine wpAny_execs_cons (wpAny_Expr (wpAny_Call_method hbase rfl hline PySem.F.plainAttrs_list PySem.F.slot_list_clear PySem.F.type_list_clear (ho A s E _ rm (.refl _) fun v h0 t0 e0 q0 => ?_)) (by unfold interactive; rw [hk]; rfl) rfl)
  cases q0
  obtain ⟨n, hD'⟩ := id hD
  have hD0 := e0 _ _ hD'
  refine ⟨⟨_, hD0, rfl⟩, fun a e => by cases e; exact ⟨_, hD0, rfl⟩, callWith_method0 ?_⟩
  refine call_meets (s := { s with heap := h0, toks := t0 }) PySem.F.slot_list_clear ⟨_, hD0, rfl⟩ PySem.F.entry_list_clear (PySem.F.args_list_clear_1 _) (AutoSeq1.list_clear_list_0 D ys n hsz) ⟨hD0, ?_⟩
  exact h h0 _ t0 e0 ⟨_, Heap.get?_update_self _ hD0 rfl⟩ (Heap.SameBut.update ..)
noncomputable def npOut (np : Nat → Int) (l : List Nat) : Nat → Int := fun j => if j ∈ l then -1 else np j
theorem npOut_snoc (np : Nat → Int) (l : List Nat) (p : Nat) : npOut np (l ++ [p]) = upd (npOut np l) p (-1) := by
  funext j
  by_cases q : j = p
  · subst q; simp [npOut, upd_same]
  · rw [upd_ne _ _ q]; simp [npOut, q]
theorem npOut_nil (np : Nat → Int) : npOut np [] = np := by funext j; simp [npOut]
noncomputable def outS (σ : Sta) (a : Addr) (l : List Nat) : Sta := { σ with np := npOut σ.np l, rd := some (a, []), po := σ.po + (l.length : Nat) }

/-- the dict of the sorter is changed -/
theorem Srt.setT {h' : Heap} {σ' : Sta} {L : Addr} {t u : Tok} (S : Srt w h g σ) (hn : σ'.n = σ.n) (hnp : σ'.np = σ.np) (hsu : σ'.su = σ.su) (I : Ins h' g.x g.dx (kvOf g (rdV σ'.rd) (.int σ'.po t) (.int σ'.nf u))) (B : But L g.dx h h') (hL : ∀ b, Mem g σ b → b ≠ L)
    (hr : ∀ a l, σ'.rd = some (a, l) → (∃ vs, h'.PlainList a vs ∧ IntsAre vs.toList (nI l)) ∧ ∀ i, i < σ.n → g.suc i ≠ a) : Srt w h' g σ' := by
  have kp : ∀ b o, Mem g σ b → b ≠ g.dx → h.get? b = some o → h'.get? b = some o := fun b o m nb e => B b o nb (hL b m) e
  have sne : ∀ b o es n, h.get? b = some o → o.data = .seq es n → b ≠ g.dx := fun b o es n e hd q => by
    obtain ⟨t, u, _, es, n, h2, _⟩ := S.ins
    rw [q, h2] at e; cases e; cases hd
  refine ⟨⟨t, u, I⟩, ?_, ?_, ?_, fun a l e => (hr a l e).1, ?_, ?_, ?_, S.dd, ?_, S.sm⟩
  · rw [hn]
    obtain ⟨o, es, ep, ho, r⟩ := S.dct
    exact ⟨o, es, ep, kp _ _ .d S.dd.symm ho, r⟩
  · rw [hn, hnp]
    intro i hi
    obtain ⟨t, u, I⟩ := S.inf i hi
    refine ⟨t, u, kp _ _ (.inf i hi) (fun q => ?_) I.1, kp _ _ (.din i hi) (S.din i hi).1 I.2⟩
    obtain ⟨t, u, _, es, n, h2, _⟩ := S.ins
    have := I.1; rw [q, h2] at this; cases this
  · rw [hn, hsu]
    intro i hi
    obtain ⟨vs, ⟨n, hl⟩, r⟩ := S.suc i hi
    exact ⟨vs, ⟨n, kp _ _ (.suc i hi) (sne _ _ _ _ hl rfl) hl⟩, r⟩
  · rw [hn]; exact S.iinf
  · rw [hn]; exact S.isuc
  · rw [hn]; exact fun a l i e hi => (hr a l e).2 i hi
  · rw [hn]; exact S.din
/-- the ready list is changed -/
theorem Srt.setRd {h' : Heap} {a : Addr} {l l' : List Nat} {vs : Array Value} (S : Srt w h g σ) (e : σ.rd = some (a, l)) (hl : h'.PlainList a vs) (hv : IntsAre vs.toList (nI l')) (B : Heap.SameBut a h h') :
    Srt w h' g { σ with rd := some (a, l') } := by
  have pl : ∀ b o, h.get? b = some o → keptObj o = false → h'.get? b = some o := fun b o q hd => (B.2 b (by
    rintro rfl
    obtain ⟨vs, ⟨n, hl⟩, r⟩ := S.rdy _ _ e
    rw [hl] at q; cases q; cases hd)).trans q
  refine ⟨?_, ?_, fun j hj => ?_, fun j hj => ?_, fun b l e' => ?_, S.iinf, S.isuc, fun b l i e' hi => ?_, S.dd, S.din, S.sm⟩
  · obtain ⟨t, u, h1, es, n, h2, h3⟩ := S.ins
    rw [e] at h3
    exact ⟨t, u, pl _ _ h1 rfl, es, n, pl _ _ h2 rfl, h3⟩
  · obtain ⟨o, es, ep, ho, hex, hd, r⟩ := S.dct
    exact ⟨o, es, ep, pl _ _ ho (by simp [keptObj, hd]), hex, hd, r⟩
  · obtain ⟨t, u, I⟩ := S.inf j hj
    exact ⟨t, u, pl _ _ I.1 rfl, pl _ _ I.2 rfl⟩
  · obtain ⟨ws, ⟨n, hl⟩, r⟩ := S.suc j hj
    exact ⟨ws, ⟨n, (B.2 _ (S.ird a l j e hj)).trans hl⟩, r⟩
  · cases e'; exact ⟨vs, hl, hv⟩
  · cases e'; exact S.ird a l i e hi
theorem Own.cast {σ' : Sta} {b : Addr} (m : Own g σ b) (h1 : σ.n = σ'.n) (h2 : ∀ a l, σ.rd = some (a, l) → ∃ l', σ'.rd = some (a, l')) : Own g σ' b := by
  cases m with
  | dx => exact .dx
  | d => exact .d
  | inf i h => exact .inf i (h1 ▸ h)
  | suc i h => exact .suc i (h1 ▸ h)
  | rd _ l e => obtain ⟨l', e'⟩ := h2 _ l e; exact .rd _ l' e'
theorem Mem.cast' {σ' : Sta} {b : Addr} (m : Mem g σ b) (h1 : σ.n = σ'.n) (h2 : ∀ a l, σ.rd = some (a, l) → ∃ l', σ'.rd = some (a, l')) : Mem g σ' b := by
  cases m with
  | x => exact .x
  | dx => exact .dx
  | d => exact .d
  | inf i h => exact .inf i (h1 ▸ h)
  | din i h => exact .din i (h1 ▸ h)
  | suc i h => exact .suc i (h1 ▸ h)
  | rd _ l e => obtain ⟨l', e'⟩ := h2 _ l e; exact .rd _ l' e'
end
end Mine

end

section
open PySem PySem.W PyProof.Rows PySem.SeqAt
set_option Elab.async false
set_option linter.all false
set_option autoImplicit false
namespace Mine
section
variable {w : World} {G : List (Str × Value)} {k : Nat} {A : Around} {s : Shared} {g : Geo} {σ : Sta} {env : Env} {h h0 : Heap} {ρ : Locs}
theorem pinsP {l : List (Str × Value)} : ∀ x p, (l.map fun b => (b.1, prV b.2)).lookup x = some p → ∃ u, p = prV u := fun x p e => by obtain ⟨u, _, rfl⟩ := pinB_lookup e; exact ⟨u, rfl⟩
noncomputable def pinR (l : List (Str × Value)) : Locs := l.map fun b => (b.1, prV b.2)
theorem new_none {h h' : Heap} (e : Ext h h') : h.get? h'.objs.size = none := by
  cases z : h.get? h'.objs.size with
  | none => rfl
  | some o => exact absurd (Heap.lt_size (e _ _ z)) (Nat.lt_irrefl _)
/-- tuple(o) of a list -/
theorem ev_tupleOf {o : Expr} {p1 p2 : Pos} {a : Addr} {rv : Array Value} (hb : Has pw w h env "tuple" (.type "tuple")) (ho : EvP pw w k env h o (IsV (.ref a))) (hl : h.IsList a rv) (hsz : rv.size ≤ sizeLine)
    (hst : starEach [o] env = [(false, eval o env)] := by rfl) : EvP pw w k env h (.Call (.Name "tuple" p1) [o] [] p2) (fun v h' => ∃ b, v = .ref b ∧ h'.get? b = some { cls := .type "tuple", data := .seq rv } ∧ h.get? b = none) := by
  refine ev_call_type (PA := fun vs h' => vs = [.ref a] ∧ h'.IsList a rv) hb ?_ ?_ hst
  · intro pos A s E Q rm hx hq
    exact args_cons (ho A s E _ rm hx fun v h1 t1 e1 p1 => args_nil (hq _ h1 t1 e1 ⟨by rw [show v = _ from p1], isList_ext hl (hx.trans e1)⟩)) hst
  · intro A s vs E Q rm hx pa hq
    obtain ⟨rfl, hl'⟩ := pa
    refine call_tuple_list hl' (fun h' hk => ?_) hsz
    exact hq _ _ _ (Ext.trans hk (Ext.push _ _)) ⟨_, rfl, Heap.get?_push_size _ rfl, new_none (hx.trans hk)⟩
theorem ready_ok {R : Result → Shared → Prop} {hB : Heap} {a : Addr} {l : List Nat} (rm : Room (k + 1) A) (B : Bse w G hB) (eB : Ext hB s.heap) (S : Srt w s.heap g σ) (hrd : σ.rd = some (a, l)) (hl : ∀ p ∈ l, p < σ.n) (hlen : l.length ≤ 100) (HB : ∀ b, OwnR g σ b → hB.get? b = none)
    (h : ∀ b vs h' tk, Chg (OwnR g σ) s.heap h' → Srt w h' g (outS σ a l) → h'.get? b = some { cls := .type "tuple", data := .seq vs } → IntsAre vs.toList (nI l) → s.heap.get? b = none → R (.ok (.ret (.ref b))) { s with heap := h', toks := tk }) :
    codeAny (model pw w) A (.call (.ref 106) ⟨[.ref g.x], []⟩) R s := by
  have B1 := B.ext eB
  refine run_fn (k := k) rm (B1.K 106 _ (kf_106 _)) B1.glo.lim (codeRec_K _ B1.K).2.2.2.2.2.1 (bind_pure (binds := [("self", .ref g.x)]) rfl) (.refl _) (show ([Str.ofString "self"] : List Str).Nodup by decide)
    (by intro b hb; rw [List.mem_singleton.mp hb]; exact .inl rfl) rfl rfl rfl fun env h2 tk henv hs hg hb F0 off rm' => ?_
  have kd : ∀ x, env.kindOf x = (defScope (sortC.drop 4)).names.lookup x := fun x => by rw [Env.kindOf, hs]
  have F := F0.hide (S := OwnR g σ) (.refl s.heap)
  have BH := B.ext (hide_base (S := OwnR g σ) eB HB)
  have H0 : ∀ b, OwnR g σ b → (hideS (OwnR g σ) s.heap).get? b = none := fun b q => (hideS_get _ _ _).2 q
  have hback : ∀ h', Ext (hideS (OwnR g σ) s.heap) h' → Chg (OwnR g σ) s.heap h' := fun h' e => chg_of_hide e
  generalize hideS (OwnR g σ) s.heap = h0 at F BH H0 hback
  have S2 := S.ext F0.base
  have offM : ∀ b, Mem g σ b → Off env b := fun b m => by obtain ⟨o, ho⟩ := S.at m; exact off _ _ ho
  obtain ⟨t1, u1, I⟩ := S2.ins
  rw [hrd] at I
  refine wp_if (s := { s with heap := h2, toks := tk }) rm' (isNone (ev_attr (KIn.ext BH.K F.base) I (ev_pin F rfl) (name := "_ready_nodes") (by decide) rfl rfl) rfl) (fun q => by cases q) fun _ h3 t3 e3 => wp_nil ?_
  have F3 := F.ext e3
  have S3 := S2.ext e3
  obtain ⟨rv, hrv, hri⟩ := S3.rdy a l hrd
  have rvl : rv.size = l.length := by have := hri.length; rw [nI_len] at this; simpa using this
  -- result = tuple(self._ready_nodes)
  refine wpAny_execs_cons (wpAny_Assign_Name (EvP.run (s := { s with heap := h3, toks := t3 }) (ev_tupleOf (has_b (BH.glo.ext F3.base) (by decide) boot_tuple F3.kind (kd _) hg hb) (ev_attr (KIn.ext BH.K F3.base) (I.ext e3) (ev_pin F3 rfl) (name := "_ready_nodes") (by decide) rfl rfl) hrv.isList (by rw [rvl]; simp [sizeLine]; omega)) rm' fun v h4 t4 e4 q4 => ?_))
  obtain ⟨tp, rfl, htp, ntp⟩ := q4
  refine Fm.store (s := { s with heap := h4, toks := t4 }) (p := prV (.ref tp)) (F3.ext e4) (.inl (kd _)) rfl fun h5 t5 F5 pr5 off5 => ?_
  have S5 := (S3.ext e4).keep (h' := h5) fun b o m e => off5 b o (offM b m).l (offM b m).c e
  have T5 := pr5 _ _ rfl htp
  have tp0 : s.heap.get? tp = none := by
    cases z : s.heap.get? tp with
    | none => rfl
    | some o => rw [e3 _ _ (F0.base _ _ z)] at ntp; cases ntp
  have tpM : ∀ b, Mem g σ b → b ≠ tp := fun b m q => by obtain ⟨o, ho⟩ := S3.at m; rw [q, ntp] at ho; cases ho
  -- n2i = self._node2info
  obtain ⟨t6', u6, I5⟩ := S5.ins
  refine wp_assign (s := { s with heap := h5, toks := t5 }) (p := prV (.ref g.d)) rm' F5 (ev_attr (KIn.ext BH.K F5.base) I5 (ev_pin F5 rfl) (name := "_node2info") (by decide) rfl rfl) (.inl (kd _)) fun h6 t6 F6 pr6 off6 => ?_
  have S6 := S5.keep (h' := h6) fun b o m e => off6 b o (offM b m).l (offM b m).c e
  have T6 := pr6 _ _ rfl T5
  have F6' : Fm h0 h6 env (pinR [("n2i", .ref g.d), ("result", .ref tp), ("self", .ref g.x)]) := F6
  obtain ⟨tO, gO⟩ := BH.gO
  -- for node in result
  refine wp_for (s := { s with heap := h6, toks := t6 }) (k := k) (n := rv.size) (PI := IsV (.ref tp)) (I := fun j v => rv[j]? = some v) (Z := fun b => b = tp) rm' (ev_pin F6' rfl) (hit_tuple rm' ⟨_, T6, rfl, _, rfl⟩)
    (fun It j h => Fm h0 h env (pinR [("n2i", .ref g.d), ("result", .ref tp), ("self", .ref g.x)]) ∧ Srt w h g { σ with np := npOut σ.np (l.take j) } ∧ h.get? tp = some { cls := .type "tuple", data := .seq rv } ∧ Off env It ∧ (∀ b, Mem g σ b → b ≠ It) ∧ h0.get? It = none ∧ tp ≠ It)
    (fun It h3 e3 n3 => ⟨F6'.ext e3, (by rw [List.take_zero, npOut_nil]; exact S6.ext e3), e3 _ _ T6, F6'.off_new n3, (fun b m q => (by obtain ⟨o, ho⟩ := S6.at (b := b) m; rw [q] at ho; rw [n3] at ho; cases ho)), (by
      cases z : h0.get? It with
      | none => rfl
      | some o => rw [F6'.base _ _ z] at n3; cases n3), (fun q => (by rw [← q] at n3; rw [T6] at n3; cases n3))⟩)
    ?_ ?_ ?_
  · rintro It j h3 h4 ⟨F3, S3, T3, o3, m3, z3, w3⟩ kp
    exact ⟨F3.chgV (S := fun b => b = It) pinsP (fun b o nb e => kp b o nb e) (fun b q => by rw [q]; exact o3) (fun b q => by rw [q]; exact z3), S3.keep fun b o m e => kp b o (m3 b (m.cast rfl rfl)) e, kp _ _ w3 T3, o3, m3, z3, w3⟩
  · rintro It j v h3 t3 E' Q' hj ⟨F3, S3, T3, o3, m3, z3, w3⟩ hv3 n3 ⟨oI, hIt, kIt⟩ hQ'
    have hv3' : rv.toList[j]? = some v := by simpa using hv3
    obtain ⟨iv, tv, hv4, rfl⟩ := ints_get hri hv3'
    obtain ⟨p, hp3, rfl⟩ := nI_get hv4
    have hpn : p < σ.n := hl p (List.mem_of_getElem? hp3)
    refine wpAny_assign_Name (Fm.store (s := { s with heap := h3, toks := t3 }) (p := prV (.int (p : Nat) tv)) F3 (.inl (kd _)) rfl fun h4 t4 F4 pr4 off4 => ?_)
    have S4 := S3.keep (h' := h4) fun b o m e => off4 b o (offM b (m.cast rfl rfl)).l (offM b (m.cast rfl rfl)).c e
    obtain ⟨ta, ua, I4⟩ := S4.inf p hpn
    refine wp_setN (s := { s with heap := h4, toks := t4 }) (P := IsV (.int (-1) tO)) rm' F4 BH.K I4 (offM _ (.inf p hpn)) (offM _ (.din p hpn)) (H0 _ (.inf p hpn)) (ev_name (has_g (BH.glo.ext F4.base) gO F4.kind (kd _) hg) (fun _ _ => rfl))
      (fun h5 e5 => ev_sub2 (S4.ext e5).dct hpn (ev_pin (F4.ext e5) rfl) (ev_pinI (F4.ext e5) rfl)) fun v5 h5 h6 t6 e5 q5 F6 I6 B6 pr6 => wp_nil ?_
    cases (q5 : v5 = _)
    have S6 := (S4.ext e5).setNp hpn ⟨ta, rfl⟩ I6 B6 fun b m => (offM b (m.cast rfl rfl)).l
    have T6 := pr6 _ _ rfl (e5 _ _ (pr4 _ _ rfl T3))
    refine hQ' _ _ _ (fun _ => ⟨⟨F6.drop rfl, ?_, T6, o3, m3, z3, w3⟩, ?_⟩) (fun q => by cases q) (fun v q => by cases q)
    · rw [take_snoc hp3, npOut_snoc]; exact S6
    · rintro b o (rfl | rfl) e
      · exact B6 _ _ (fun q => m3 _ (.inf p hpn) q.symm) o3.l (e5 _ _ (off4 _ _ o3.l o3.c e))
      · rw [T3] at e; cases e; exact T6
  · rintro It h7 t7 ⟨F7, S7, T7, _⟩ _
    rw [rvl, List.take_of_length_le (Nat.le_refl _)] at S7
    obtain ⟨t8', u8, I7⟩ := S7.ins
    obtain ⟨rv7, hrv7, hri7⟩ := S7.rdy a l hrd
    have rvl7 : rv7.size = l.length := by have := hri7.length; rw [nI_len] at this; simpa using this
    have I7' : Ins h7 g.x g.dx (kvOf g (.ref a) (.int σ.po t8') (.int σ.nf u8)) := by have := I7; simp only [hrd, rdV] at this; exact this
    refine wp_clear (s := { s with heap := h7, toks := t7 }) rm' F7.kind (ev_attr (KIn.ext BH.K F7.base) I7' (ev_pin F7 rfl) (name := "_ready_nodes") (by decide) rfl rfl) hrv7 (by rw [rvl7]; simp [sizeLine]; omega) fun h8 h9 t9 e8 l9 b9 => ?_
    have S9 := (S7.ext e8).setRd (a := a) (l := l) (l' := []) hrd l9 .nil b9
    have F9 := (F7.ext e8).chgV (S := fun b => b = a) pinsP (Chg.one b9) (fun b q => by rw [q]; exact offM _ (.rd a l hrd)) (fun b q => by rw [q]; exact H0 _ (.rd a l hrd))
    have T9 : h9.get? tp = some { cls := .type "tuple", data := .seq rv } := (b9.2 _ (fun q => tpM _ (.rd a l hrd) q.symm)).trans (e8 _ _ T7)
    obtain ⟨t10', u10, I9⟩ := S9.ins
    refine wp_augT (s := { s with heap := h9, toks := t9 }) (j := (l.length : Nat)) rm' F9 BH.K I9 (offM _ .dx) (H0 _ .dx) (name := "_npassedout") (by decide) (by simp [kvOf]) rfl (ev_pin F9 rfl) (ev_call_builtin (has_b (BH.glo.ext F9.base) (by decide) boot_len F9.kind (kd _) hg hb)
      (evp_cons (P1 := IsV (.ref tp)) (P2 := fun vs _ => vs = []) (P := fun vs _ => vs = [.ref tp]) (ev_pin F9 rfl) (evp_nil fun _ _ => rfl) (fun v h h' _ q => q) (fun v vs h' (q1 : v = _) (q2 : vs = []) => by rw [q1, q2])) ?_) fun u11 h10 h11 t11 e10 F11 I11 B11 pr11 => ?_
    · intro A s' vs' E Q rm hx pa hq
      cases pa
      refine PyProof.Rows.len_tuple (t := tp) (items := rv) ⟨_, hx _ _ T9, rfl, _, rfl⟩ (by rw [rvl]; omega) ?_
      rw [rvl]; exact hq _ _ _ (.refl _) Rd.int
    have T11 := pr11 _ _ rfl (e10 _ _ T9)
    have S11 : Srt w h11 g (outS σ a l) := (S9.ext e10).setT (σ' := outS σ a l) (L := env.locals) rfl rfl rfl I11 B11 (fun b m => (offM b (m.cast' rfl (fun a' l' e' => by cases e'; exact ⟨l, hrd⟩))).l) fun a' l' e' => by
      cases e'
      obtain ⟨vs, ⟨n, hl⟩, r⟩ := (S9.ext e10).rdy a [] rfl
      exact ⟨⟨vs, ⟨n, pr11 _ _ rfl hl⟩, r⟩, fun i hi => S.ird a l i hrd hi⟩
    refine wp_ret (s := { s with heap := h11, toks := t11 }) rm' (ev_pin F11 rfl) fun v h12 t12 e12 q12 => ?_
    cases (q12 : v = _)
    exact h tp rv h12 t12 (hback _ (F11.base.trans e12)) (S11.ext e12) (e12 _ _ T11) hri tp0
end
end Mine

end

section
open PySem PySem.W PyProof.Rows PySem.SeqAt
set_option Elab.async false
set_option linter.all false
set_option autoImplicit false
namespace Mine
theorem meets_bool_list (l : Addr) (items : Array Value) (hfit : (items.size : Int) < 2 ^ 63) :
    Meets (Builtin.«bool.__new__» ⟨[.type "bool", .ref l], []⟩) (fun _ R s => s.heap.IsList l items ∧ R (.ok (.ret (.bool (!items.isEmpty)))) { s with toks := s.toks + 1 + 1 }) :=
  Meets.of_wp fun prog w A R s hs => by
    obtain ⟨hp, g, d, tk, os⟩ := s
    obtain ⟨hl, hs⟩ := hs
    have f1 := F.conv_sub_bool
    repeat (any_goals (first | assumption | (with_reducible refine wpAny_truthy_list hl hfit ?_) | wp_step))
    all_goals first | exact ⟨_, rfl, hs⟩ | exact hs | skip
section
variable {w : World} {G : List (Str × Value)} {k : Nat} {A : Around} {s : Shared} {g : Geo} {σ : Sta} {env : Env} {h h0 : Heap} {ρ : Locs}
theorem fn_bool {a : Addr} {vs : Array Value} (hl : h.IsList a vs) (hfit : (vs.size : Int) < 2 ^ 63) : FnP pw w k h (.type "bool") (fun us _ => us = [.ref a]) (IsD (.bool (!vs.isEmpty))) := fun A s us E Q rm hx pa hq => by
  subst pa
  exact call_bool_1 (meets_bool_list a vs hfit) ⟨isList_ext hl hx, rfl, hq _ _ _ (.refl _) Rd.bool⟩
theorem ev_or {x y : Expr} {pos : Pos} {b c : Bool} (hx : EvD pw w k env h x (.bool b)) (hy : EvD pw w k env h y (.bool c)) : EvD pw w k env h (.BoolOp .Or [x, y] pos) (.bool (b || c)) := fun A s E Q rm e hq =>
  BoolOp_or (hx A s E _ rm e fun v h1 t1 e1 q1 => by
    rw [q1.inv_bool]
    refine wpAny_truthy_bool ?_
    cases b with
    | true => exact hq _ _ _ e1 Rd.bool
    | false => exact BoolOp_one (hy A _ E _ rm (e.trans e1) fun v h2 t2 e2 q2 => hq _ _ _ (e1.trans e2) q2))
theorem active_ok {R : Result → Shared → Prop} {hB : Heap} {a : Addr} {l : List Nat} (rm : Room (k + 1) A) (B : Bse w G hB) (eB : Ext hB s.heap) (S : Srt w s.heap g σ) (hrd : σ.rd = some (a, l)) (hlen : l.length ≤ 100)
    (h : ∀ h' tk, Ext s.heap h' → R (.ok (.ret (.bool (decide (σ.nf < σ.po) || !l.isEmpty)))) { s with heap := h', toks := tk }) :
    codeAny (model pw w) A (.call (.ref 113) ⟨[.ref g.x], []⟩) R s := by
  have B1 := B.ext eB
  refine run_fn (k := k) rm (B1.K 113 _ (kf_113 _)) B1.glo.lim (codeRec_K _ B1.K).2.2.2.2.2.2.1 (bind_pure (binds := [("self", .ref g.x)]) rfl) (.refl _) (show ([Str.ofString "self"] : List Str).Nodup by decide)
    (by intro b hb; rw [List.mem_singleton.mp hb]; exact .inl rfl) rfl rfl rfl fun env h2 tk henv hs hg hb F off rm' => ?_
  have kd : ∀ x, env.kindOf x = (defScope (sortC.drop 5)).names.lookup x := fun x => by rw [Env.kindOf, hs]
  have S2 := S.ext F.base
  have BH := B1
  obtain ⟨t1, u1, I⟩ := S2.ins
  rw [hrd] at I
  refine wp_if (s := { s with heap := h2, toks := tk }) rm' (isNone (ev_attr (KIn.ext BH.K F.base) I (ev_pin F rfl) (name := "_ready_nodes") (by decide) rfl rfl) rfl) (fun q => by cases q) fun _ h3 t3 e3 => wp_nil ?_
  have F3 := F.ext e3
  have S3 := S2.ext e3
  obtain ⟨rv, hrv, hri⟩ := S3.rdy a l hrd
  have rvl : rv.size = l.length := by have := hri.length; rw [nI_len] at this; simpa using this
  have toI : ∀ {e : Expr} {i : Int} {t : Tok}, EvP pw w k env h3 e (IsV (.int i t)) → EvD pw w k env h3 e (.int i) := fun x => x.mono fun v h' _ (q : v = _) => by rw [q]; exact Rd.int
  refine wp_ret (s := { s with heap := h3, toks := t3 }) (P := IsD (.bool (decide (σ.nf < σ.po) || !rv.isEmpty))) rm' (ev_or (ev_cmp (toI (ev_attr (KIn.ext BH.K F3.base) (I.ext e3) (ev_pin F3 rfl) (name := "_nfinished") (by decide) rfl rfl)) (toI (ev_attr (KIn.ext BH.K F3.base) (I.ext e3) (ev_pin F3 rfl) (name := "_npassedout") (by decide) rfl rfl)) isD_mono cmp_ltI)
    (ev_call_type (has_b (BH.glo.ext F3.base) (by decide) boot_bool F3.kind (kd _) hg hb) (evp_cons (P1 := IsV (.ref a)) (P2 := fun vs _ => vs = []) (P := fun vs _ => vs = [.ref a]) (ev_attr (KIn.ext BH.K F3.base) (I.ext e3) (ev_pin F3 rfl) (name := "_ready_nodes") (by decide) rfl rfl) (evp_nil fun _ _ => rfl) (fun v h h' _ q => q) (fun v vs h' (q1 : v = _) (q2 : vs = []) => by rw [q1, q2])) (fn_bool hrv.isList (by rw [rvl]; omega)))) fun v h4 t4 e4 q4 => ?_
  have e : (!rv.isEmpty) = !l.isEmpty := by
    have : rv.isEmpty = l.isEmpty := by
      cases l with
      | nil => simp at rvl; simp [rvl]
      | cons x r => have : rv ≠ #[] := by intro q; rw [q] at rvl; simp at rvl
                    simp [this]
    rw [this]
  rw [e] at q4
  rw [q4.inv_bool]
  exact h h4 t4 (F3.base.trans e4)
end
end Mine

end

section
open PySem PySem.W PyProof.Rows PySem.SeqAt
set_option Elab.async false
set_option linter.all false
set_option autoImplicit false
namespace Mine
noncomputable def rl (σ : Sta) : List Nat := match σ.rd with | some (_, l) => l | none => []
noncomputable def decS (a : Addr) (σ : Sta) (j : Nat) : Sta := { σ with np := upd σ.np j (σ.np j - 1), rd := some (a, if σ.np j - 1 = 0 then rl σ ++ [j] else rl σ) }
noncomputable def fin1 (a : Addr) (σ : Sta) (i : Nat) : Sta := (σ.su i).foldl (decS a) { σ with np := upd σ.np i (-2) }
noncomputable def doneS (a : Addr) (σ : Sta) (i : Nat) : Sta := { fin1 a σ i with nf := (fin1 a σ i).nf + 1 }
section
variable {w : World} {G : List (Str × Value)} {k : Nat} {A : Around} {s : Shared} {g : Geo} {σ : Sta} {env : Env} {h h0 : Heap} {ρ : Locs}
theorem decs_same (a : Addr) : ∀ (js : List Nat) (σ : Sta), (js.foldl (decS a) σ).n = σ.n ∧ (js.foldl (decS a) σ).su = σ.su ∧ (js.foldl (decS a) σ).po = σ.po ∧ (js.foldl (decS a) σ).nf = σ.nf
  | [], σ => ⟨rfl, rfl, rfl, rfl⟩
  | j :: js, σ => decs_same a js (decS a σ j)
theorem decs_rd (a : Addr) : ∀ (js : List Nat) (σ : Sta), (∃ l, σ.rd = some (a, l)) → ∃ l, (js.foldl (decS a) σ).rd = some (a, l)
  | [], σ, e => e
  | j :: js, σ, e => decs_rd a js (decS a σ j) ⟨_, rfl⟩
theorem decs_len (a : Addr) : ∀ (js : List Nat) (σ : Sta), (rl (js.foldl (decS a) σ)).length ≤ (rl σ).length + js.length
  | [], σ => by simp
  | j :: js, σ => by
    have := decs_len a js (decS a σ j)
    have e : (rl (decS a σ j)).length ≤ (rl σ).length + 1 := by
      show (if σ.np j - 1 = 0 then rl σ ++ [j] else rl σ).length ≤ _
      split <;> simp
    simp only [List.foldl_cons, List.length_cons] at *
    omega
theorem rl_some {a : Addr} {l : List Nat} (e : σ.rd = some (a, l)) : rl σ = l := by unfold rl; rw [e]

theorem dones_same (a : Addr) : ∀ (ls : List Nat) (σ : Sta), (ls.foldl (doneS a) σ).n = σ.n ∧ (ls.foldl (doneS a) σ).su = σ.su ∧ (ls.foldl (doneS a) σ).po = σ.po
  | [], σ => ⟨rfl, rfl, rfl⟩
  | j :: ls, σ => by
    have h1 := dones_same a ls (doneS a σ j)
    have h2 := decs_same a (σ.su j) { σ with np := upd σ.np j (-2) }
    exact ⟨h1.1.trans h2.1, h1.2.1.trans h2.2.1, h1.2.2.trans h2.2.2.1⟩
theorem dones_rd (a : Addr) : ∀ (ls : List Nat) (σ : Sta), (∃ l, σ.rd = some (a, l)) → ∃ l, (ls.foldl (doneS a) σ).rd = some (a, l)
  | [], σ, e => e
  | j :: ls, σ, e => dones_rd a ls (doneS a σ j) (decs_rd a (σ.su j) { σ with np := upd σ.np j (-2) } e)
theorem dones_len (a : Addr) : ∀ (ls : List Nat) (σ : Sta), (∀ i, (σ.su i).length ≤ 100) → (rl (ls.foldl (doneS a) σ)).length ≤ (rl σ).length + 100 * ls.length
  | [], σ, _ => by simp
  | j :: ls, σ, hb => by
    have h2 := decs_same a (σ.su j) { σ with np := upd σ.np j (-2) }
    have h1 := dones_len a ls (doneS a σ j) (fun i => by rw [show (doneS a σ j).su = σ.su from h2.2.1]; exact hb i)
    have h3 := decs_len a (σ.su j) { σ with np := upd σ.np j (-2) }
    have h4 : (rl (doneS a σ j)).length ≤ (rl σ).length + (σ.su j).length := h3
    have := hb j
    simp only [List.foldl_cons, List.length_cons]
    omega
theorem done_ok {R : Result → Shared → Prop} {hB : Heap} {a : Addr} {vs : List Value} {ls : List Nat} (rm : Room (k + 1) A) (B : Bse w G hB) (eB : Ext hB s.heap) (S : Srt w s.heap g σ) (hrd : ∃ l, σ.rd = some (a, l)) (hl : ∀ p ∈ ls, p < σ.n) (hlen : ls.length ≤ 100) (hrl : (rl σ).length ≤ 100) (hsu : ∀ i, (σ.su i).length ≤ 100)
    (hsb : ∀ i, i < σ.n → ∀ j ∈ σ.su i, j < σ.n) (hv : IntsAre vs (nI ls)) (hout : ∀ m p, ls[m]? = some p → ((ls.take m).foldl (doneS a) σ).np p = -1) (HB : ∀ b, OwnR g σ b → hB.get? b = none)
    (h : ∀ h' tk, Chg (OwnR g σ) s.heap h' → Srt w h' g (ls.foldl (doneS a) σ) → R (.ok (.ret .none)) { s with heap := h', toks := tk }) :
    codeAny (model pw w) A (.call (.ref 127) ⟨.ref g.x :: vs, []⟩) R s := by
  have B1 := B.ext eB
  have vl : vs.length = ls.length := by have := hv.length; rw [nI_len] at this; exact this
  refine run_fn (k := k) rm (B1.K 127 _ (kf_127 _)) B1.glo.lim (codeRec_K _ B1.K).2.2.2.2.2.2.2.1 (bind_done (by rw [vl]; simp [sizeLine]; omega)) (Ext.push _ _) (show ([Str.ofString "self", Str.ofString "nodes"] : List Str).Nodup by decide)
    (by intro b hb; rcases List.mem_cons.mp hb with rfl | hb; exact .inl rfl; rw [List.mem_singleton.mp hb]; exact .inl rfl) rfl rfl rfl fun env h2 tk henv hs hg hb F0 off rm' => ?_
  have kd : ∀ x, env.kindOf x = (defScope (sortC.drop 7)).names.lookup x := fun x => by rw [Env.kindOf, hs]
  have F := F0.hide (S := OwnR g σ) (Ext.push s.heap _)
  have BH := B.ext (hide_base (S := OwnR g σ) eB HB)
  have H0 : ∀ b, OwnR g σ b → (hideS (OwnR g σ) s.heap).get? b = none := fun b q => (hideS_get _ _ _).2 q
  have hback : ∀ h', Ext (hideS (OwnR g σ) s.heap) h' → Chg (OwnR g σ) s.heap h' := fun h' e => chg_of_hide e
  generalize hideS (OwnR g σ) s.heap = h0 at F BH H0 hback
  have hT : h2.get? s.heap.objs.size = some { cls := .type "tuple", data := .seq vs.toArray } := F0.base _ _ (Heap.get?_push_size _ rfl)
  have ntp := get_size_none s.heap
  have S2 := S.ext ((Ext.push _ _).trans F0.base)
  have offM : ∀ b, Mem g σ b → Off env b := fun b m => by obtain ⟨o, ho⟩ := S.at m; exact off _ _ (Heap.get?_push_of_some _ ho)
  have tpM : ∀ b, Mem g σ b → b ≠ s.heap.objs.size := fun b m q => by obtain ⟨o, ho⟩ := S.at m; rw [q, ntp] at ho; cases ho
  obtain ⟨l0, hrd0⟩ := hrd
  obtain ⟨t1, u1, I⟩ := S2.ins
  rw [hrd0] at I
  generalize s.heap.objs.size = tp at *
  refine wp_if (s := { s with heap := h2, toks := tk }) rm' (isNone (ev_attr (KIn.ext BH.K F.base) I (ev_pin F rfl) (name := "_ready_nodes") (by decide) rfl rfl) rfl) (fun q => by cases q) fun _ h3 t3 e3 => wp_nil ?_
  have F3 := F.ext e3
  refine wp_assign (s := { s with heap := h3, toks := t3 }) (p := prV (.ref g.d)) rm' F3 (ev_attr (KIn.ext BH.K F3.base) (I.ext e3) (ev_pin F3 rfl) (name := "_node2info") (by decide) rfl rfl) (.inl (kd _)) fun h6 t6 F6 pr6 off6 => ?_
  have S6 := (S2.ext e3).keep (h' := h6) fun b o m e => off6 b o (offM b m).l (offM b m).c e
  have T6 := pr6 _ _ rfl (e3 _ _ hT)
  have F6' : Fm h0 h6 env (pinR [("n2i", .ref g.d), ("self", .ref g.x), ("nodes", .ref tp)]) := F6
  obtain ⟨tO, gO⟩ := BH.gO
  obtain ⟨tD, gD⟩ := BH.gD
  have toI : ∀ {h : Heap} {e : Expr} {i : Int} {t : Tok}, EvP pw w k env h e (IsV (.int i t)) → EvD pw w k env h e (.int i) := fun x => x.mono fun v h' _ (q : v = _) => by rw [q]; exact Rd.int
  have toS : ∀ {σ' : Sta} {b : Addr}, σ'.n = σ.n → (∃ l, σ'.rd = some (a, l)) → Mem g σ' b → Mem g σ b := fun hn ⟨l, e⟩ m => m.cast' hn (fun a' l' e' => by rw [e] at e'; cases e'; exact ⟨l0, hrd0⟩)
  -- for node in nodes
  refine wp_for (s := { s with heap := h6, toks := t6 }) (k := k) (n := vs.toArray.size) (PI := IsV (.ref tp)) (I := fun j v => vs.toArray[j]? = some v) (Z := fun b => b = tp) rm' (ev_pin F6' rfl) (hit_tuple rm' ⟨_, T6, rfl, _, rfl⟩)
    (fun It j h => Fm h0 h env (pinR [("n2i", .ref g.d), ("self", .ref g.x), ("nodes", .ref tp)]) ∧ Srt w h g ((ls.take j).foldl (doneS a) σ) ∧ h.get? tp = some { cls := .type "tuple", data := .seq vs.toArray } ∧ Off env It ∧ (∀ b, Mem g σ b → b ≠ It) ∧ h0.get? It = none ∧ tp ≠ It)
    (fun It h3 e3 n3 => ⟨F6'.ext e3, (by rw [List.take_zero]; exact S6.ext e3), e3 _ _ T6, F6'.off_new n3, (fun b m q => (by obtain ⟨o, ho⟩ := S6.at (b := b) m; rw [q] at ho; rw [n3] at ho; cases ho)), (by
      cases z : h0.get? It with
      | none => rfl
      | some o => rw [F6'.base _ _ z] at n3; cases n3), (fun q => (by rw [← q] at n3; rw [T6] at n3; cases n3))⟩)
    ?_ ?_ ?_
  · rintro It j h3 h4 ⟨F3, S3, T3, o3, m3, z3, w3⟩ kp
    exact ⟨F3.chgV (S := fun b => b = It) pinsP (fun b o nb e => kp b o nb e) (fun b q => by rw [q]; exact o3) (fun b q => by rw [q]; exact z3), S3.keep fun b o m e => kp b o (m3 b (toS (dones_same a _ σ).1 (dones_rd a _ σ ⟨l0, hrd0⟩) m)) e, kp _ _ w3 T3, o3, m3, z3, w3⟩
  · rintro It j v h3 t3 E' Q' hj ⟨F3, S3, T3, o3, m3, z3, w3⟩ hv3 n3 ⟨oI, hIt, kIt⟩ hQ'
    have hv3' : vs[j]? = some v := by simpa using hv3
    obtain ⟨iv, tv, hv4, rfl⟩ := ints_get hv hv3'
    obtain ⟨p, hp3, rfl⟩ := nI_get hv4
    have hpn : p < σ.n := hl p (List.mem_of_getElem? hp3)
    have hoj := hout j p hp3
    have lenj := dones_len a (ls.take j) σ hsu
    have tkl : (ls.take j).length ≤ 100 := by rw [List.length_take]; omega
    obtain ⟨dn, dsu, dpo⟩ := dones_same a (ls.take j) σ
    obtain ⟨lj, drd⟩ := dones_rd a (ls.take j) σ ⟨l0, hrd0⟩
    have nxtS : (ls.take (j + 1)).foldl (doneS a) σ = doneS a ((ls.take j).foldl (doneS a) σ) p := by rw [take_snoc hp3, List.foldl_append]; rfl
    generalize (ls.take j).foldl (doneS a) σ = σj at *
    have mj : ∀ {b}, Mem g σj b → Mem g σ b := fun m => toS dn ⟨lj, drd⟩ m
    refine wpAny_assign_Name (Fm.store (s := { s with heap := h3, toks := t3 }) (p := prV (.int (p : Nat) tv)) F3 (.inl (kd _)) rfl fun h4 t4 F4 pr4 off4 => ?_)
    have S4 := S3.keep (h' := h4) fun b o m e => off4 b o (offM b (mj m)).l (offM b (mj m)).c e
    have hpj : p < σj.n := by rw [dn]; exact hpn
    refine wp_walrus (s := { s with heap := h4, toks := t4 }) (v := .ref (g.inf p)) rm' F4 (ev_get S4.sm S4.dct (ev_pin F4 rfl) (ev_pinI F4 rfl) (by rw [dictN_at g hpj]; rfl)) (.inl (kd _)) fun h5 t5 F5 pr5 off5 => ?_
    rw [if_neg (by simp)]
    refine wp_nil ?_
    have S5 := S4.keep (h' := h5) fun b o m e => off5 b o (offM b (mj m)).l (offM b (mj m)).c e
    obtain ⟨ta, ua, I5⟩ := S5.inf p hpj
    rw [hoj] at I5
    refine wp_assign (s := { s with heap := h5, toks := t5 }) (p := prV (.int (-1) ua)) rm' F5 (ev_slot (KIn.ext BH.K F5.base) I5 (ev_pin F5 rfl) (name := "npredecessors") (p := 49) (i := 1) (by decide) rfl rfl) (.inl (kd _)) fun h7 t7 F7 pr7 off7 => ?_
    have S7 := S5.keep (h' := h7) fun b o m e => off7 b o (offM b (mj m)).l (offM b (mj m)).c e
    refine wp_if (s := { s with heap := h7, toks := t7 }) (b := decide ((-1 : Int) ≠ -1)) rm' (ts_cmp (ev_pinI F7 rfl) (toI (ev_name (has_g (BH.glo.ext F7.base) gO F7.kind (kd _) hg) (fun _ _ => rfl))) isD_mono cmp_neI) (fun q => by cases q) fun _ h8 t8 e8 => wp_nil ?_
    have F8 := F7.ext e8
    have S8 := S7.ext e8
    obtain ⟨tb, ub, I8⟩ := S8.inf p hpj
    -- nodeinfo.npredecessors = _NODE_DONE
    refine wp_setN (s := { s with heap := h8, toks := t8 }) (P := IsV (.int (-2) tD)) rm' F8 BH.K I8 (offM _ (.inf p hpn)) (offM _ (.din p hpn)) (H0 _ (.inf p hpn)) (ev_name (has_g (BH.glo.ext F8.base) gD F8.kind (kd _) hg) (fun _ _ => rfl))
      (fun h9 e9 => ev_pin (F8.ext e9) rfl) fun v9 h9 h10 t10 e9 q9 F10 I10 B10 pr10 => ?_
    cases (q9 : v9 = _)
    have S10 : Srt w h10 g { σj with np := upd σj.np p (-2) } := (S8.ext e9).setNp hpj ⟨tb, rfl⟩ I10 B10 fun b m => (offM b (mj m)).l
    have T10 := pr10 _ _ rfl (e9 _ _ (e8 _ _ (pr7 _ _ rfl (pr5 _ _ rfl (pr4 _ _ rfl T3)))))
    have It10 : h10.get? It = some oI := B10 _ _ (fun q => m3 _ (.inf p hpn) q.symm) o3.l (e9 _ _ (e8 _ _ (off7 _ _ o3.l o3.c (off5 _ _ o3.l o3.c (off4 _ _ o3.l o3.c hIt)))))
    obtain ⟨ws, hws, hwi⟩ := S10.suc p hpj
    obtain ⟨tc, uc, I10'⟩ := S10.inf p hpj
    have wl : ws.size = (σj.su p).length := by have := hwi.length; rw [nI_len] at this; simpa using this
    have F10' : Fm h0 h10 env (pinR [("stat", .int (-1) ua), ("nodeinfo", .ref (g.inf p)), ("node", .int (p : Nat) tv), ("n2i", .ref g.d), ("self", .ref g.x), ("nodes", .ref tp)]) := F10
    -- for successor in nodeinfo.successors
    refine wp_for (s := { s with heap := h10, toks := t10 }) (k := k) (n := ws.size) (PI := IsV (.ref (g.suc p))) (I := fun j v => ws[j]? = some v) (Z := fun b => b = g.suc p) rm' (ev_slot (KIn.ext BH.K F10'.base) I10' (ev_pin F10' rfl) (name := "successors") (p := 50) (i := 2) (by decide) rfl rfl) (hit_list rm' hws.isList)
      (fun Is m h => Fm h0 h env (pinR [("stat", .int (-1) ua), ("nodeinfo", .ref (g.inf p)), ("node", .int (p : Nat) tv), ("n2i", .ref g.d), ("self", .ref g.x), ("nodes", .ref tp)]) ∧ Srt w h g (((σj.su p).take m).foldl (decS a) { σj with np := upd σj.np p (-2) }) ∧ h.get? tp = some { cls := .type "tuple", data := .seq vs.toArray } ∧ h.get? It = some oI ∧ Off env Is ∧ (∀ b, Mem g σ b → b ≠ Is) ∧ h0.get? Is = none ∧ tp ≠ Is ∧ It ≠ Is)
      (fun Is h3 e3 n3 => ⟨F10'.ext e3, (by rw [List.take_zero]; exact S10.ext e3), e3 _ _ T10, e3 _ _ It10, F10'.off_new n3, (fun b m q => (by obtain ⟨o, ho⟩ := S10.at (b := b) (m.cast' dn.symm (fun a' l' e' => by rw [hrd0] at e'; cases e'; exact ⟨lj, drd⟩)); rw [q] at ho; rw [n3] at ho; cases ho)), (by
        cases z : h0.get? Is with
        | none => rfl
        | some o => rw [F10'.base _ _ z] at n3; cases n3), (fun q => (by rw [← q] at n3; rw [T10] at n3; cases n3)), (fun q => (by rw [← q] at n3; rw [It10] at n3; cases n3))⟩)
      ?_ ?_ ?_
    · rintro Is m h3 h4 ⟨F3, S3, T3, I3, o4, m4, z4, w4, w5⟩ kp
      exact ⟨F3.chgV (S := fun b => b = Is) pinsP (fun b o nb e => kp b o nb e) (fun b q => by rw [q]; exact o4) (fun b q => by rw [q]; exact z4), S3.keep fun b o m e => kp b o (m4 b (toS ((decs_same a _ { σj with np := upd σj.np p (-2) }).1.trans dn) (decs_rd a _ { σj with np := upd σj.np p (-2) } ⟨lj, drd⟩) m)) e, kp _ _ w4 T3, kp _ _ w5 I3, o4, m4, z4, w4, w5⟩
    · rintro Is m v h11 t11 E'' Q'' hm ⟨F11, S11, T11, I11, o4, m4, z4, w4, w5⟩ hvm nm ⟨oS, hIs, kIs⟩ hQ''
      have hvm' : ws.toList[m]? = some v := by simpa using hvm
      obtain ⟨iv, tq, hvq, rfl⟩ := ints_get hwi hvm'
      obtain ⟨q, hq3, rfl⟩ := nI_get hvq
      have hq3 : (σj.su p)[m]? = some q := hq3
      have hqn : q < σ.n := hsb p hpn q (by rw [← dsu]; exact List.mem_of_getElem? hq3)
      have lenm := decs_len a ((σj.su p).take m) { σj with np := upd σj.np p (-2) }
      have tkm : ((σj.su p).take m).length ≤ 100 := by rw [List.length_take, dsu]; have := hsu p; omega
      obtain ⟨en, esu, epo, enf⟩ := decs_same a ((σj.su p).take m) { σj with np := upd σj.np p (-2) }
      obtain ⟨lm, erd⟩ := decs_rd a ((σj.su p).take m) { σj with np := upd σj.np p (-2) } ⟨lj, drd⟩
      have nxtM : ((σj.su p).take (m + 1)).foldl (decS a) { σj with np := upd σj.np p (-2) } = decS a (((σj.su p).take m).foldl (decS a) { σj with np := upd σj.np p (-2) }) q := by rw [take_snoc hq3, List.foldl_append]; rfl
      have rl0 : rl { σj with np := upd σj.np p (-2) } = rl σj := rfl
      generalize ((σj.su p).take m).foldl (decS a) { σj with np := upd σj.np p (-2) } = τ at *
      have mt : ∀ {b}, Mem g τ b → Mem g σ b := fun m => toS (en.trans dn) ⟨lm, erd⟩ m
      have hqt : q < τ.n := by rw [en, show ({ σj with np := upd σj.np p (-2) } : Sta).n = σj.n from rfl, dn]; exact hqn
      refine wpAny_assign_Name (Fm.store (s := { s with heap := h11, toks := t11 }) (p := prV (.int (q : Nat) tq)) F11 (.inl (kd _)) rfl fun h12 t12 F12 pr12 off12 => ?_)
      have S12 := S11.keep (h' := h12) fun b o m e => off12 b o (offM b (mt m)).l (offM b (mt m)).c e
      refine wp_assign (s := { s with heap := h12, toks := t12 }) (p := prV (.ref (g.inf q))) rm' F12 (ev_sub2 S12.dct hqt (ev_pin F12 rfl) (ev_pinI F12 rfl)) (.inl (kd _)) fun h13 t13 F13 pr13 off13 => ?_
      have S13 := S12.keep (h' := h13) fun b o m e => off13 b o (offM b (mt m)).l (offM b (mt m)).c e
      obtain ⟨td, ud, I13⟩ := S13.inf q hqt
      refine wp_augN (s := { s with heap := h13, toks := t13 }) (j := 1) rm' F13 BH.K I13 (offM _ (.inf q hqn)) (offM _ (.din q hqn)) (H0 _ (.inf q hqn)) (.inr ⟨rfl, rfl⟩) (ev_pin F13 rfl) ev_int fun u14 h14 h15 t15 e14 F15 I15 B15 pr15 => ?_
      have S15 : Srt w h15 g { τ with np := upd τ.np q (τ.np q - 1) } := (S13.ext e14).setNp hqt ⟨td, rfl⟩ I15 B15 fun b m => (offM b (mt m)).l
      have keepX : ∀ b o, Off env b → b ≠ g.inf q → h11.get? b = some o → h15.get? b = some o := fun b o ob nb e => B15 _ _ nb ob.l (e14 _ _ (off13 _ _ ob.l ob.c (off12 _ _ ob.l ob.c e)))
      have T15 := pr15 _ _ rfl (e14 _ _ (pr13 _ _ rfl (pr12 _ _ rfl T11)))
      have It15 := keepX _ _ o3 (fun z => m3 _ (.inf q hqn) z.symm) I11
      have Is15 := keepX _ _ o4 (fun z => m4 _ (.inf q hqn) z.symm) hIs
      have Su15 : ∀ o, h11.get? (g.suc p) = some o → h15.get? (g.suc p) = some o := fun o e => keepX _ _ (offM _ (.suc p hpn)) (fun z => by
        obtain ⟨ws', ⟨n', hl'⟩, _⟩ := S13.suc p (by rw [en]; exact hpj)
        rw [z, I13.1] at hl'; cases hl') e
      have back : ∀ h16 t16, Fm h0 h16 env (pinR [("successor_info", .ref (g.inf q)), ("successor", .int (q : Nat) tq), ("stat", .int (-1) ua), ("nodeinfo", .ref (g.inf p)), ("node", .int (p : Nat) tv), ("n2i", .ref g.d), ("self", .ref g.x), ("nodes", .ref tp)]) → Srt w h16 g (decS a τ q) → (∀ b o, b ≠ a → h15.get? b = some o → h16.get? b = some o) → Q'' .next { s with heap := h16, toks := t16 } := fun h16 t16 F16 S16 kp => by
        have na : ∀ b, Mem g σ b → True := fun _ _ => trivial
        have tpa : tp ≠ a := fun z => tpM _ (.rd a l0 hrd0) z.symm
        have ita : It ≠ a := fun z => m3 _ (.rd a l0 hrd0) z.symm
        have isa : Is ≠ a := fun z => m4 _ (.rd a l0 hrd0) z.symm
        have sua : g.suc p ≠ a := S.ird a l0 p hrd0 hpn
        refine hQ'' _ _ _ (fun _ => ⟨⟨(F16.drop rfl).drop rfl, by rw [nxtM]; exact S16, kp _ _ tpa T15, kp _ _ ita It15, o4, m4, z4, w4, w5⟩, ?_⟩) (fun q => by cases q) (fun v q => by cases q)
        rintro b o (rfl | rfl) e
        · rw [hIs] at e; cases e; exact kp _ _ isa Is15
        · exact kp _ _ sua (Su15 o e)
      refine wp_if (s := { s with heap := h15, toks := t15 }) (b := decide (τ.np q - 1 = 0)) rm' (ts_cmp (toI (ev_slot (KIn.ext BH.K F15.base) I15 (ev_pin F15 rfl) (name := "npredecessors") (p := 49) (i := 1) (by decide) rfl rfl)) ev_int isD_mono cmp_eqI) (fun ez h16 t16 e16 => ?_) fun ez h16 t16 e16 => wp_nil (wp_nil (back h16 t16 (F15.ext e16) ?_ fun b o _ e => e16 _ _ e))
      · have ez := of_decide_eq_true ez
        have F16 := F15.ext e16
        have S16 := S15.ext e16
        obtain ⟨t17', u17, I17⟩ := S16.ins
        have I17' : Ins h16 g.x g.dx (kvOf g (.ref a) (.int τ.po t17') (.int τ.nf u17)) := by have := I17; simp only [erd, rdV] at this; exact this
        obtain ⟨rv, hrv, hri⟩ := S16.rdy a lm erd
        have rvl : rv.size = lm.length := by have := hri.length; rw [nI_len] at this; simpa using this
        have lml : rl τ = lm := rl_some erd
        refine wp_appendE (s := { s with heap := h16, toks := t16 }) (P := IsV (.int (q : Nat) tq)) rm' F16.kind (ev_attr (KIn.ext BH.K F16.base) I17' (ev_pin F16 rfl) (name := "_ready_nodes") (by decide) rfl rfl) hrv (ev_pin F16 rfl) ?_ fun y h17 h18 t18 e17 q17 l18 b18 => wp_nil (wp_nil ?_)
        · rw [rvl, ← lml]; rw [rl0] at lenm; simp [sizeLine]; omega
        cases (q17 : y = _)
        have S18 := (S16.ext e17).setRd (a := a) (l := lm) (l' := lm ++ [q]) erd l18 (by rw [Array.toList_push]; exact nat_snoc hri) b18
        refine back h18 t18 ((F16.ext e17).chgV (S := fun b => b = a) pinsP (Chg.one b18) (fun b z => by rw [z]; exact offM _ (.rd a l0 hrd0)) (fun b z => by rw [z]; exact H0 _ (.rd a l0 hrd0))) ?_ fun b o nb e => (b18.2 _ nb).trans (e17 _ _ (e16 _ _ e))
        have : decS a τ q = { τ with np := upd τ.np q (τ.np q - 1), rd := some (a, lm ++ [q]) } := by unfold decS; rw [if_pos ez, lml]
        rw [this]; exact S18
      · have ez := of_decide_eq_false ez
        have : decS a τ q = { τ with np := upd τ.np q (τ.np q - 1) } := by
          unfold decS; rw [if_neg ez, rl_some erd]
          have := erd
          cases τ; simp only at this; subst this; rfl
        rw [this]; exact S15.ext e16
    · rintro Is h11 t11 ⟨F11, S11, T11, I11, _⟩ _
      rw [wl, List.take_of_length_le (Nat.le_refl _)] at S11
      have S11' : Srt w h11 g (fin1 a σj p) := S11
      obtain ⟨fn, fsu, fpo, fnf⟩ := decs_same a (σj.su p) { σj with np := upd σj.np p (-2) }
      obtain ⟨lf, frd⟩ := decs_rd a (σj.su p) { σj with np := upd σj.np p (-2) } ⟨lj, drd⟩
      have mf : ∀ {b}, Mem g (fin1 a σj p) b → Mem g σ b := fun m => toS (σ' := fin1 a σj p) (fn.trans dn) ⟨lf, frd⟩ m
      obtain ⟨t12', u12, I12⟩ := S11'.ins
      refine wp_augT (s := { s with heap := h11, toks := t11 }) (j := 1) rm' F11 BH.K I12 (offM _ .dx) (H0 _ .dx) (name := "_nfinished") (by decide) (by simp [kvOf]) rfl (ev_pin F11 rfl) ev_int fun u13 h12 h13 t13 e12 F13 I13 B13 pr13 => wp_nil ?_
      have S13 : Srt w h13 g (doneS a σj p) := (S11'.ext e12).setT (σ' := doneS a σj p) (L := env.locals) rfl rfl rfl I13 B13 (fun b m => (offM b (mf m)).l) fun a' l' e' => by
        have e'' : (fin1 a σj p).rd = some (a', l') := e'
        obtain ⟨vs', ⟨n', hl'⟩, r'⟩ := (S11'.ext e12).rdy a' l' e''
        exact ⟨⟨vs', ⟨n', pr13 _ _ rfl hl'⟩, r'⟩, fun i hi => S11'.ird a' l' i e'' hi⟩
      have T13 := pr13 _ _ rfl (e12 _ _ T11)
      have It13 := B13 _ _ (fun z => m3 _ .dx z.symm) o3.l (e12 _ _ I11)
      refine hQ' _ _ _ (fun _ => ⟨⟨((F13.drop rfl).drop rfl).drop rfl, by rw [nxtS]; exact S13, T13, o3, m3, z3, w3⟩, ?_⟩) (fun q => by cases q) (fun v q => by cases q)
      rintro b o (rfl | rfl) e
      · rw [hIt] at e; cases e; exact It13
      · rw [T3] at e; cases e; exact T13
  · rintro It h7 t7 ⟨F7, S7, T7, _⟩ _
    have : vs.toArray.size = ls.length := by simpa using vl
    rw [this, List.take_of_length_le (Nat.le_refl _)] at S7
    exact wp_nil (h h7 t7 (hback _ F7.base) S7)
end
end Mine

end

section
open PySem PySem.W PyProof.Rows PySem.SeqAt
set_option Elab.async false
set_option linter.all false
set_option autoImplicit false
namespace Mine
noncomputable def dictL (ls : Nat → Addr) (n : Nat) : List (Int × Value) := (List.range n).map fun i : Nat => ((i : Int), .ref (ls i))
section
variable {w : World} {G : List (Str × Value)} {k : Nat} {A : Around} {s : Shared} {g : Geo} {σ : Sta} {env : Env} {h h0 : Heap} {ρ : Locs}
theorem dictL_store (ls : Nat → Addr) (n : Nat) (y : Addr) : stored (dictL ls n) (n : Int) (.ref y) = dictL (upd ls n y) (n + 1) := by
  unfold stored
  have e : ((dictL ls n).any fun kv => decide (kv.1 = (n : Int))) = false := by
    rw [List.any_eq_false]
    intro p hp
    obtain ⟨j, hj, rfl⟩ := List.mem_map.mp hp
    have := List.mem_range.mp hj
    simp; omega
  rw [e]
  unfold dictL
  rw [List.range_succ, List.map_append]
  simp only [Bool.false_eq_true, if_false]
  congr 1
  · refine List.map_congr_left fun i hi => ?_
    have := List.mem_range.mp hi
    rw [upd_ne _ _ (by omega)]
  · simp [upd_same]
theorem ev_dictc {iter : Expr} {x : Str} {p1 p2 p3 px pos : Pos} {scope : Scope} {n : Nat} (XK : (KF w.params).In h) (hi : EvP pw w k env h iter (IsRng n)) (hn : n ≤ 1000) (hkind : scope.kind = .function) (hcell : ∀ y ∈ scope.names, y.2 ≠ .cell) (hfree : ∀ y, (y, NameKind.free) ∈ scope.names → (env.cells.lookup y).isSome = true)
    (hnames : ∀ y ∈ scope.names, y.2 = .local → scope.names.lookup y.1 = some .local) (hx : scope.names.lookup x = some .local) (hd : (x == ("__debug__" : Str)) = false)
    (hs : ∀ x, foldedSetIterable iter env x = pure x := by intro _; rfl) :
    EvP pw w k env h (.DictComp (.Name x p1) (.List [] p2) [⟨.Name x px, iter, [], 0⟩] scope pos) (fun v h' => ∃ D ls, v = .ref D ∧ h'.DictOf (knd w) D (dictL ls n) ∧ (∀ i, i < n → h'.PlainList (ls i) #[]) ∧ h.get? D = none ∧ (D == sysModules) = false) := fun A s E Q rm hx' hq => by
  rw [arm_eval_DictComp]
  refine wpAny_comprehension_free (use := none) (g := ⟨.Name x px, iter, [], 0⟩) (gs := []) rfl hs (closureFor_cap hfree) hkind hnames ?_
  refine hi A s E _ rm hx' fun xv h1 t1 e1 q1 => ?_
  refine hit_range (s := { s with heap := h1, toks := t1 }) rm (by omega) xv h1 t1 E _ (.refl _) q1 fun It fp P St h2 t2 W hst hfp hIt e2 hwk hI => ?_
  refine wpAny_newObj_type (wpAny_newFunctionEnv hcell (by intro y hy; simp at hy) (fun h3 hns hsb => ?_) hkind)
  dsimp only at hns hsb ⊢
  generalize hH : h2.push { cls := .type "dict", dict := none, data := .dict #[] } = H at hns hsb ⊢
  have sz : H.objs.size = h2.objs.size + 1 := by rw [← hH, Heap.size_push]
  have D0 : H.DictOf (knd w) h2.objs.size [] := by rw [← hH]; exact Heap.DictOf.new h2
  have e23 : Ext h2 h3 := fun b o e => hsb.extBut b o (by rw [sz]; exact Nat.ne_of_lt (Nat.lt_succ_of_lt (Heap.lt_size e))) (Heap.get?_push_of_some _ (hH ▸ Heap.get?_push_of_some _ e))
  have D3 : h3.DictOf (knd w) h2.objs.size [] := D0.at fun o e => hsb.extBut _ _ (by rw [sz]; exact Nat.ne_of_lt (Nat.lt_succ_self _)) (Heap.get?_push_of_some _ e)
  have nD : ∀ b o, h2.get? b = some o → b ≠ h2.objs.size := fun b o e => Nat.ne_of_lt (Heap.lt_size e)
  have nC : ∀ b o, h2.get? b = some o → b ≠ H.objs.size := fun b o e => by rw [sz]; exact Nat.ne_of_lt (Nat.lt_succ_of_lt (Heap.lt_size e))
  have DC : h2.objs.size ≠ H.objs.size := by rw [sz]; exact Nat.ne_of_lt (Nat.lt_succ_self _)
  have ItS : ∃ o, h2.get? It = some o := by obtain ⟨o, q, _⟩ := hwk 0 h2 hst; exact ⟨o, q⟩
  obtain ⟨oIt, hIt2⟩ := ItS
  have ItD := nD _ _ hIt2
  have ItC := nC _ _ hIt2
  have DN : h1.get? h2.objs.size = none := new_none e2
  have CN : h1.get? H.objs.size = none := by
    cases z : h1.get? H.objs.size with
    | none => rfl
    | some o => exact absurd rfl (nC _ _ (e2 _ _ z))
  have DSM : (h2.objs.size == sysModules) = false := by
    have : 144 < h2.objs.size := Heap.lt_size (e2 _ _ (e1 _ _ (hx' _ _ (XK 144 _ rfl))))
    rw [beq_eq_false_iff_ne]
    intro q
    rw [q] at this
    exact absurd this (by decide)
  generalize H.objs.size = C at *
  generalize h2.objs.size = D at *
  have hst3 : St 0 h3 := W.frame _ _ _ hst fun b _ o e => e23 b o e
  show codeAny _ _ (.compStart _ 0 _ _ (compEnvC scope (capL scope env) C env)) _ _
  have kx : (compEnvC scope (capL scope env) C env).kindOf x = some .local := relabel_plain hx (by decide)
  have kk : (compEnvC scope (capL scope env) C env).scope.kind = .function := hkind
  have loop : ∀ s3 : Shared, s3 = { s with heap := h3, toks := t2 + ([] : List (Str × Value)).length } → codeAny (model pw w) A (.compLoop (.DictComp (.Name x p1) (.List [] p2) [⟨.Name x px, iter, [], 0⟩] scope pos) 0 (.ref It) (.ref D) (compEnvC scope (capL scope env) C env)) (compPost (model pw w) A E none Q (.ref D) C) s3 := by
    rintro s3 rfl
    refine codeAny_compLoop_testsD (fun j s' => ∃ h tk m i ls, s' = { s with heap := h, toks := tk } ∧ i ≤ n ∧ j = n + 1 - i ∧ St i h ∧ h.DictOf (knd w) D (dictL ls i) ∧ h.Ns C m ∧ (∀ a, a < i → h.PlainList (ls a) #[]) ∧ Ext h1 h ∧ ∃ o, h.get? It = some o) ?_ (n + 1)
      ⟨h3, _, _, 0, fun _ => 0, rfl, Nat.zero_le _, rfl, hst3, D3, hns, (fun a ha => by omega), e2.trans e23, oIt, e23 _ _ hIt2⟩
    rintro j s' ⟨h4, t4, m4, i, ls, rfl, hin, rfl, hst4, D4, ns4, l4, e14, oI, hI4⟩
    have fpIt : ∀ b ∈ fp, b = It := fun b hb => (hfp b hb).elim id (fun z => z.elim)
    rcases Nat.lt_or_ge i n with hlt | hge
    · refine W.item i _ _ _ hlt hst4 fun v h5 t5 hPv hst5 k5 => ?_
      obtain ⟨tv, rfl⟩ := hI i v hlt hPv
      have k5' : ∀ b o, b ≠ It → h4.get? b = some o → h5.get? b = some o := fun b o nb e => k5 b o (fun z => nb (List.mem_singleton.mp z)) e
      have ns5 : h5.Ns C m4 := by obtain ⟨o, es, ep, q, r⟩ := ns4; exact ⟨o, es, ep, k5' _ _ (Ne.symm ItC) q, r⟩
      obtain ⟨oI5, hI5, _⟩ := hwk _ _ hst5
      refine wpAny_assign_Name (wpAny_storeName_local (env := compEnvC scope (capL scope env) C env) kx ns5 (fun h6 ns6 b6 => ?_) (by rw [kk]; rfl))
      rw [List.forIn_nil]
      refine wpAny_pure ?_
      rw [if_pos rfl]
      refine wpAny_Name (wpAny_loadName_local (env := compEnvC scope (capL scope env) C env) (v := .int (i : Nat) tv) kk kx ns6 (by simp) ?_) hd
      refine wpAny_List (args_nil ⟨by simp [sizeLine], ?_⟩)
      have D5 : h5.DictOf (knd w) D (dictL ls i) := D4.at fun o e => k5' _ _ (Ne.symm ItD) e
      have D6 : h6.DictOf (knd w) D (dictL ls i) := D5.at fun o e => (b6.2 _ DC).trans e
      have D7 : (h6.push { cls := .type "list", data := .seq #[] }).DictOf (knd w) D (dictL ls i) := D6.push _
      have DL : D ≠ h6.objs.size := Nat.ne_of_lt (by obtain ⟨o, _, _, q, _⟩ := D6; exact Heap.lt_size q)
      refine wpAny_dictSet_pairs (hsz := by rw [show (dictL ls i).length = i by simp [dictL]]; simp only [sizeLine]; omega) (k := (i : Int)) (intKind_is _ _ _ _) D7 fun h8 D8 b8 => ?_
      rw [dictL_store] at D8
      have keep : ∀ b o, b ≠ It → b ≠ C → b ≠ D → h4.get? b = some o → h8.get? b = some o := fun b o n1 n2 n3 e => (b8.2 _ n3).trans (Heap.get?_push_of_some _ ((b6.2 _ n2).trans (k5' _ _ n1 e)))
      refine ⟨n + 1 - (i + 1), by omega, h8, _, _, i + 1, upd ls i h6.objs.size, rfl, hlt, rfl, ?_, D8, (ns6.push _).sameBut b8 (Ne.symm DC), fun a ha => ?_, fun b o e => ?_, oI5, ?_⟩
      · exact W.frame _ _ _ hst5 fun b hb o e => by rw [fpIt b hb] at e ⊢; exact (b8.2 _ ItD).trans (Heap.get?_push_of_some _ ((b6.2 _ ItC).trans e))
      · by_cases z : a = i
        · subst z
          rw [upd_same]
          exact ⟨0, (b8.2 _ (Ne.symm DL)).trans (Heap.get?_push_size _ rfl)⟩
        · rw [upd_ne _ _ z]
          obtain ⟨n', hl⟩ := l4 a (by omega)
          refine ⟨n', keep _ _ ?_ ?_ ?_ hl⟩
          · intro q
            obtain ⟨o', q1, q2⟩ := hwk _ _ hst4
            rw [q, q1] at hl; cases hl; cases q2
          · intro q
            obtain ⟨o, es, ep, q1, q2, _⟩ := ns4
            rw [q, q1] at hl; cases hl; cases q2
          · intro q
            obtain ⟨o, es, ep, q1, _, q2, _⟩ := D4
            rw [q, q1] at hl; cases hl; cases q2
      · refine keep b o ?_ ?_ ?_ (e14 _ _ e)
        · rintro rfl; rw [hIt] at e; cases e
        · rintro rfl; rw [CN] at e; cases e
        · rintro rfl; rw [DN] at e; cases e
      · exact (b8.2 _ ItD).trans (Heap.get?_push_of_some _ ((b6.2 _ ItC).trans hI5))
    · have : i = n := Nat.le_antisymm hin hge
      subst this
      refine W.done _ _ _ hst4 fun h5 t5 k5 => ?_
      have k5' : ∀ b o, b ≠ It → h4.get? b = some o → h5.get? b = some o := fun b o nb e => k5 b o (fun z => nb (List.mem_singleton.mp z)) e
      have ns5 : h5.Ns C m4 := by obtain ⟨o, es, ep, q, r⟩ := ns4; exact ⟨o, es, ep, k5' _ _ (Ne.symm ItC) q, r⟩
      refine ⟨m4, ns5, fun h6 b6 => ?_⟩
      refine hq _ _ _ (fun b o e => (b6.2 _ ?_).trans (k5' _ _ ?_ (e14 _ _ (e1 _ _ e)))) ⟨D, ls, rfl, (D4.at fun o e => (b6.2 _ DC).trans (k5' _ _ (Ne.symm ItD) e)), fun a ha => ?_, ?_, DSM⟩
      · rintro rfl; rw [e1 _ _ e] at CN; cases CN
      · rintro rfl; rw [e1 _ _ e] at hIt; cases hIt
      · obtain ⟨n', hl⟩ := l4 a ha
        refine ⟨n', (b6.2 _ ?_).trans (k5' _ _ ?_ hl)⟩
        · intro q
          obtain ⟨o, es, ep, q1, q2, _⟩ := ns4
          rw [q, q1] at hl; cases hl; cases q2
        · intro q
          obtain ⟨o', q1, q2⟩ := hwk _ _ hst4
          rw [q, q1] at hl; cases hl; cases q2
      · cases z : h.get? D with
        | none => rfl
        | some o => rw [e1 _ _ (hx' _ _ z)] at DN; cases DN
  exact codeAny_compStart_dict (loop _ rfl) (W.self 0 _ _ _ hst3 (loop _ rfl))
end
end Mine

end

section
open PySem PySem.W PyProof.Rows PySem.SeqAt
set_option Elab.async false
set_option linter.all false
set_option autoImplicit false
namespace Mine
noncomputable def freshS (n : Nat) : Sta := { n := n, np := fun _ => 0, su := fun _ => [], rd := none, po := 0, nf := 0 }
section
variable {w : World} {G : List (Str × Value)} {k : Nat} {A : Around} {s : Shared} {g : Geo} {σ : Sta} {env : Env} {h h0 : Heap} {ρ : Locs}
theorem Srt.congr {σ' : Sta} (S : Srt w h g σ) (h1 : σ'.n = σ.n) (h2 : σ'.rd = σ.rd) (h3 : σ'.po = σ.po) (h4 : σ'.nf = σ.nf) (h5 : ∀ i, i < σ.n → σ'.np i = σ.np i ∧ σ'.su i = σ.su i) : Srt w h g σ' where
  ins := by rw [h2, h3, h4]; exact S.ins
  dct := by rw [h1]; exact S.dct
  inf := by rw [h1]; intro i hi; rw [(h5 i hi).1]; exact S.inf i hi
  suc := by rw [h1]; intro i hi; rw [(h5 i hi).2]; exact S.suc i hi
  rdy := by rw [h2]; exact S.rdy
  iinf := by rw [h1]; exact S.iinf
  isuc := by rw [h1]; exact S.isuc
  ird := by rw [h1, h2]; exact S.ird
  dd := S.dd
  din := by rw [h1]; exact S.din
  sm := S.sm
theorem ev_dict0 {pos : Pos} : EvP pw w k env h (.Dict [] [] pos) (fun v h' => ∃ d, v = .ref d ∧ h'.DictOf (knd w) d [] ∧ h.get? d = none) := fun A s E Q rm hx hq => by
  refine wpAny_Dict_empty ?_
  exact hq _ _ _ (Ext.push _ _) ⟨_, rfl, Heap.DictOf.new _, new_none hx⟩
theorem dictL_get {ls : Nat → Addr} {n i : Nat} (hi : i < n) : (dictL ls n)[i]? = some ((i : Int), .ref (ls i)) := by simp [dictL, hi]
theorem intKey {i : Int} {v : Value} (e : (intKind pw w).is i v = true) : ∃ t, v = .int i t := by
  obtain ⟨t, q⟩ := Value.isInt_shape e
  exact ⟨t, q⟩
end
end Mine

end

section
open PySem PySem.W PyProof.Rows PySem.SeqAt
set_option Elab.async false
set_option linter.all false
set_option autoImplicit false
set_option maxRecDepth 100000
namespace Mine
theorem entry_iter : entryFor table "iter" = some Builtin.«iter» := entryFor_of_fast (by kernel_rfl)
theorem args_iter (a : Value) : argsOk "iter" ⟨[a], []⟩ := by unfold argsOk; kernel_rfl
theorem li_next : typeLookup (.type "list_iterator") "__next__" = pure (some (.builtin "list_iterator.__next__")) := slot_listiter_next.lookup
theorem ty_next : typeOf (.builtin "list_iterator.__next__") = pure (.type "wrapper_descriptor") := by show builtinType _ = _; rw [builtinType_eq_fast]; kernel_rfl
theorem wd_get : typeLookup (.type "wrapper_descriptor") "__get__" = pure (some (.builtin "wrapper_descriptor.__get__")) := by rw [typeLookup_type, builtinLookup_eq_fast]; kernel_rfl
theorem wd_set : typeLookup (.type "wrapper_descriptor") "__set__" = pure none := by rw [typeLookup_type, builtinLookup_eq_fast]; kernel_rfl
theorem wd_del : typeLookup (.type "wrapper_descriptor") "__delete__" = pure none := by rw [typeLookup_type, builtinLookup_eq_fast]; kernel_rfl
theorem slot_li_ga : Slot "list_iterator" "__getattribute__" "object.__getattribute__" :=
  .of (owner := "object") (n := "__getattribute__") (by rw [typeLookup_type, builtinLookup_eq_fast]; kernel_rfl) (by decide +kernel) (by decide +kernel) (by decide +kernel)
    (by first | exact .inl (by decide +kernel) | exact .inr (by decide +kernel)) (by rw [isSubtype_type]; kernel_rfl)
theorem slot_wd_get : Slot "wrapper_descriptor" "__get__" "wrapper_descriptor.__get__" :=
  .of (owner := "wrapper_descriptor") (n := "__get__") (by rw [typeLookup_type, builtinLookup_eq_fast]; kernel_rfl) (by decide +kernel) (by decide +kernel) (by decide +kernel)
    (by first | exact .inl (by decide +kernel) | exact .inr (by decide +kernel)) (by rw [isSubtype_type]; kernel_rfl)
theorem args_wd_get (a b c : Value) : argsOk "wrapper_descriptor.__get__" ⟨[a, b, c], []⟩ := by unfold argsOk; kernel_rfl
theorem entry_wd_get : entryFor table "wrapper_descriptor.__get__" = some Builtin.«wrapper_descriptor.__get__» := entryFor_of_tree (by kernel_rfl)
theorem sub_li : isSubtype (.type "list_iterator") (.type "list_iterator") = pure true := by rw [isSubtype_type]; kernel_rfl
theorem own_next : ".".intercalate ("list_iterator.__next__".cutAt '.').dropLast = "list_iterator" := by decide +kernel
theorem sub_li_owner : isSubtype (.type "list_iterator") (.type (".".intercalate ("list_iterator.__next__".cutAt '.').dropLast)) = pure true := by rw [own_next]; exact sub_li
theorem fn_iter {w : World} {k : Nat} {h : Heap} {l : Addr} {vs : Array Value} (hl : h.IsList l vs) : FnP pw w k h (.builtin "iter") (fun us _ => us = [.ref l])
    (fun v h' => ∃ it, v = .ref it ∧ h'.get? it = some { cls := .type "list_iterator", data := .fields #[.ref l, .int 0 0] } ∧ h.get? it = none) := fun A s us E Q rm hx pa hq => by
  subst pa
  refine Calls.call_function_entry (by decide +kernel) (by decide +kernel) entry_iter (args_iter _) ?_
  unfold Builtin.«iter»
  refine wpAny_bind (m := someArgs "iter" 1 2 _) (wpAny_of_eq (a := [Value.ref l]) (by first | rfl | kernel_rfl!) ?_)
  show wpAny _ _ (pyIter (.ref l) >>= _) _ _ _
  refine wpAny_bind (wpAny_pyIter_list (isList_ext hl hx) ?_)
  exact wpAny_pure ⟨_, rfl, hq _ _ _ (Ext.push _ _) ⟨_, rfl, Heap.get?_push_size _ rfl, new_none hx⟩⟩
noncomputable def mwObj (it : Addr) : Obj := { cls := .type "method-wrapper", data := .fields #[.builtin "list_iterator.__next__", .ref it] }
section
variable {w : World} {A : Around} {E : Value → Shared → Prop} {h : Heap} {g : Array GenState} {d : Drawn} {t : Nat} {os : OsState} {it : Addr}
theorem mw_get {R : Result → Shared → Prop} {l : Addr} {i : Int} (ho : h.get? it = some { cls := .type "list_iterator", data := .fields #[.ref l, .int i 0] }) (hq : R (.ok (.ret (.ref h.objs.size))) ⟨h.push (mwObj it), g, d, t, os⟩) :
    codeAny (model pw w) A (.call (.builtin "wrapper_descriptor.__get__") ⟨[.builtin "list_iterator.__next__", .ref it, .type "list_iterator"], []⟩) R ⟨h, g, d, t, os⟩ := by
  have hT : (⟨h, g, d, t, os⟩ : Shared).TypeIs (.ref it) "list_iterator" := ⟨_, ho, rfl⟩
  have hT5 : (⟨h, g, d, t, os⟩ : Shared).TypeIs (.builtin "list_iterator.__next__") "wrapper_descriptor" := ty_next
  have f8 := sub_li_owner
  refine codeAny_call_builtin slot_wd_get.plain entry_wd_get (slot_wd_get.check _ _ _ _ _ _ _ _ hT5 (args_wd_get _ _ _) ?_)
  repeat (any_goals (first | assumption | wp_step))
theorem mw_ga {tk : Tok} {Q : Fin → Shared → Prop} {l : Addr} {i : Int} (ho : h.get? it = some { cls := .type "list_iterator", data := .fields #[.ref l, .int i 0] }) (hq : Q (.done (.ret (.ref h.objs.size))) ⟨h.push (mwObj it), g, d, t, os⟩) :
    wpAny (model pw w) A (Builtin.«object.__getattribute__» ⟨[.ref it, .str "__next__" tk], []⟩) Q E ⟨h, g, d, t, os⟩ := by
  have hT : (⟨h, g, d, t, os⟩ : Shared).TypeIs (.ref it) "list_iterator" := ⟨_, ho, rfl⟩
  have f4 := li_next
  have f5 := ty_next
  have f6 := wd_get
  have f7 := wd_set
  have f8 := wd_del
  repeat (any_goals (first | assumption | wp_step))
  exact mw_get ho (wpAny_pure hq)
theorem mw_call {tk : Tok} {R : Result → Shared → Prop} {l : Addr} {i : Int} (ho : h.get? it = some { cls := .type "list_iterator", data := .fields #[.ref l, .int i 0] }) (hq : R (.ok (.ret (.ref h.objs.size))) ⟨h.push (mwObj it), g, d, t, os⟩) :
    codeAny (model pw w) A (.call (.builtin "object.__getattribute__") ⟨[.ref it, .str "__next__" tk], []⟩) R ⟨h, g, d, t, os⟩ :=
  codeAny_call_builtin slot_li_ga.plain PySem.F.entry_object_getattribute (slot_li_ga.check _ _ _ _ _ _ _ _ (show (⟨h, g, d, t, os⟩ : Shared).TypeIs (.ref it) "list_iterator" from ⟨_, ho, rfl⟩) (PySem.F.args_object_getattribute_2 _ _) (mw_ga ho hq))
theorem mw_by {tk : Tok} {expr : Bool} {Q : Value → Shared → Prop} {l : Addr} {i : Int} (ho : h.get? it = some { cls := .type "list_iterator", data := .fields #[.ref l, .int i 0] }) (hq : Q (.ref h.objs.size) ⟨h.push (mwObj it), g, d, t, os⟩) :
    wpAny (model pw w) A (getAttrBy (.ref it) (.str "__next__" tk) true expr) Q E ⟨h, g, d, t, os⟩ := by
  have hT : (⟨h, g, d, t, os⟩ : Shared).TypeIs (.ref it) "list_iterator" := ⟨_, ho, rfl⟩
  have f2 := slot_li_ga.lookup
  have f3 := slot_li_ga.bind (.ref it)
  repeat (any_goals (first | assumption | wp_step))
  rw [if_neg (by simp [onTheHeap])]
  repeat (any_goals (first | assumption | wp_step))
  exact mw_call ho (wpAny_pure hq)
end
section
variable {w : World} {k : Nat} {env : Env} {h : Heap}
theorem mw_at {A : Around} {E : Value → Shared → Prop} {s : Shared} {it : Addr} {expr : Bool} {Q : Value → Shared → Prop} {l : Addr} {i : Int} (ho : s.heap.get? it = some { cls := .type "list_iterator", data := .fields #[.ref l, .int i 0] })
    (hq : Q (.ref s.heap.objs.size) { s with heap := s.heap.push (mwObj it), toks := s.toks + 1 }) : wpAny (model pw w) A (getAttr (.ref it) "__next__" expr) Q E s := by
  obtain ⟨hh, g, d, t, os⟩ := s
  unfold getAttr
  refine wpAny_bind (wpAny_mkText ?_)
  exact mw_by ho hq
/-- iter(o).__next__ -/
theorem ev_next {o : Expr} {p1 p2 pos : Pos} {l : Addr} {vs : Array Value} (hb : Has pw w h env "iter" (.builtin "iter")) (ho : EvP pw w k env h o (IsV (.ref l))) (hl : h.IsList l vs) (hst : starEach [o] env = [(false, eval o env)] := by rfl) :
    EvP pw w k env h (.Attribute (.Call (.Name "iter" p1) [o] [] p2) "__next__" pos)
      (fun v h' => ∃ m it, v = .ref m ∧ h'.get? m = some (mwObj it) ∧ h'.get? it = some { cls := .type "list_iterator", data := .fields #[.ref l, .int 0 0] } ∧ h.get? m = none ∧ h.get? it = none ∧ m ≠ it) := fun A s E Q rm hx hq => by
  rw [arm_eval_Attribute]
  refine wpAny_bind ?_
  show wpAny _ _ (eval (.Call (.Name "iter" p1) [o] [] p2) env) _ _ _
  refine ev_call_builtin (PA := fun us _ => us = [.ref l]) hb (evp_cons (P1 := IsV (.ref l)) (P2 := fun vs _ => vs = []) ho (evp_nil fun _ _ => rfl) (fun v h h' _ q => q) (fun v vs h' (q1 : v = _) (q2 : vs = []) => by rw [q1, q2]) hst) (fn_iter hl) hst rfl (by decide) A s E _ rm hx fun v h1 t1 e1 q1 => ?_
  obtain ⟨it, rfl, hit, nit⟩ := q1
  refine wpAny_bind (wpAny_standAt (wpAny_bind (wpAny_holding ?_)))
  refine mw_at (s := { s with heap := h1, toks := t1 }) hit ?_
  refine wpAny_bind (wpAny_letTemporaryGo (wpAny_pure (hq _ _ _ (e1.trans (Ext.push _ _)) ⟨_, it, rfl, Heap.get?_push_size _ rfl, Heap.get?_push_of_some _ hit, new_none (hx.trans e1), nit, fun q => ?_⟩)))
  have := Heap.lt_size hit
  rw [← q] at this
  exact Nat.lt_irrefl _ this
theorem plain_next : plainId "list_iterator.__next__" = true := by decide +kernel
theorem quiet_next {as : Args} : (Code.builtin "list_iterator.__next__" as).quiet = true := Code.quiet_builtin _ (by decide +kernel)
theorem check_next (it : Addr) : checkBoundCall "list_iterator.__next__" ⟨[.ref it], []⟩ = pure () := by first | kernel_rfl | rfl
theorem if_so {α : Type} {M : Model} {A : Around} {E : Value → Shared → Prop} {s : Shared} {c : Bool} {a b : Sem α} {Q : α → Shared → Prop} (hc : c = true) (h : wpAny M A a Q E s) : wpAny M A (if c = true then a else b) Q E s := by
  rw [if_pos hc]; exact h
/-- what stands on the stack of iterators -/
noncomputable def liObj (l : Addr) (i : Nat) : Obj := { cls := .type "list_iterator", data := .fields #[.ref l, .int (i : Nat) 0] }
theorem mw_run {A : Around} {s : Shared} {R : Result → Shared → Prop} {m it : Addr} (hm : s.heap.get? m = some (mwObj it))
    (h : codeAny (model pw w) A (.builtin "list_iterator.__next__" ⟨[.ref it], []⟩) R s) : codeAny (model pw w) A (.call (.ref m) ⟨[], []⟩) R s := by
  refine codeAny_of_tree ?_
  show wpAny _ A.in1 (callAny (.ref m) ⟨[], []⟩) _ _ s
  simp only [callAny]
  refine wpAny_bind (wpAny_load hm ?_)
  simp only [mwObj, show (Value.type "method-wrapper" == Value.type "method" || Value.type "method-wrapper" == Value.type "builtin_function_or_method" || Value.type "method-wrapper" == Value.type "method-wrapper") = true by decide, if_true]
  refine if_so (by decide) ?_
  refine wpAny_bind (wpAny_of_eq (a := ()) (check_next it) ?_)
  refine wpAny_bind (wpAny_pure (wpAny_pure ?_))
  exact ⟨quiet_next, h⟩
theorem li_item {A : Around} {s : Shared} {R : Result → Shared → Prop} {it l : Addr} {i : Nat} {vs : Array Value} {x : Value} (hit : s.heap.get? it = some (liObj l i)) (hl : s.heap.IsList l vs) (hx : vs[i]? = some x)
    (h : ∀ h', h'.get? it = some (liObj l (i + 1)) → Heap.SameBut it s.heap h' → R (.ok (.ret x)) { s with heap := h' }) : codeAny (model pw w) A (.builtin "list_iterator.__next__" ⟨[.ref it], []⟩) R s := by
  obtain ⟨ol, hol, _, nl, hdl⟩ := hl
  refine codeAny_builtin entry_listiter_next ?_
  show wpAny _ _ (field (.ref it) 0 >>= _) _ _ s
  refine wpAny_bind (wpAny_field hit rfl (x := .ref l) rfl ?_)
  show wpAny _ _ (if (Value.ref l == Value.none) = true then _ else _) _ _ s
  rw [if_neg (show ¬ ((Value.ref l == Value.none) = true) from Bool.false_ne_true)]
  show wpAny _ _ (field (.ref it) 1 >>= _) _ _ s
  refine wpAny_bind (wpAny_field hit rfl (x := .int i 0) rfl ?_)
  show wpAny _ _ (seqItems? (.ref l) >>= _) _ _ s
  refine wpAny_bind (wpAny_seqItems hol hdl ?_)
  simp only [Int.toNat_natCast, hx]
  refine wpAny_bind (wpAny_setField hit rfl (by simp) (wpAny_pure (h _ ?_ (Heap.SameBut.update ..))))
  rw [Heap.get?_update_self _ hit rfl]
  simp [liObj, Obj.mapFields, rawInt]
theorem li_stop {A : Around} {s : Shared} {R : Result → Shared → Prop} {it l : Addr} {i : Nat} {vs : Array Value} (hh : A.handled = none) (hit : s.heap.get? it = some (liObj l i)) (hl : s.heap.IsList l vs) (hx : vs[i]? = none)
    (h : ∀ e t ws h', Heap.ExtBut it s.heap h' → h'.get? e = some { cls := .type "StopIteration", data := .fields (#[.ref t, .none] ++ ws) } → s.heap.get? e = none → R (.error (.ref e)) { s with heap := h' }) : codeAny (model pw w) A (.builtin "list_iterator.__next__" ⟨[.ref it], []⟩) R s := by
  obtain ⟨ol, hol, _, nl, hdl⟩ := hl
  refine codeAny_builtin entry_listiter_next ?_
  show wpAny _ _ (field (.ref it) 0 >>= _) _ _ s
  refine wpAny_bind (wpAny_field hit rfl (x := .ref l) rfl ?_)
  show wpAny _ _ (if (Value.ref l == Value.none) = true then _ else _) _ _ s
  rw [if_neg (show ¬ ((Value.ref l == Value.none) = true) from Bool.false_ne_true)]
  show wpAny _ _ (field (.ref it) 1 >>= _) _ _ s
  refine wpAny_bind (wpAny_field hit rfl (x := .int i 0) rfl ?_)
  show wpAny _ _ (seqItems? (.ref l) >>= _) _ _ s
  refine wpAny_bind (wpAny_seqItems hol hdl ?_)
  simp only [Int.toNat_natCast, hx]
  refine wpAny_bind (wpAny_rule (wpAny_bind (wpAny_setField hit rfl (by simp) ?_)))
  show wpAny _ _ (newExc (.type "StopIteration") [] >>= _) _ _ _
  refine wpAny_bind ?_
  simp only [newExc, newTuple]
  refine wpAny_bind (wpAny_newObj_type ?_ (by size_fits))
  refine wpAny_bind (m := firstArgMember _ _) (wpAny_of_eq (a := Value.none) (by first | rfl | (simp only [firstArgMember]; rfl)) ?_)
  refine wpAny_newObj_type ?_ (by size_fits)
  simp only [raiseNew]
  refine wpAny_bind (wpAny_handled ?_)
  rw [show (A.under (Code.builtin "list_iterator.__next__" { pos := [Value.ref it] })).handled = none from hh]
  refine wpAny_bind (wpAny_pure (wpAny_throw ?_))
  refine h _ s.heap.objs.size (#[.none, .none, .bool false, .none] ++ ownMembersOf (.type "StopIteration") []) _ (((Heap.SameBut.update ..).extBut.push _).push _) (by rw [Heap.get?_push_size _ rfl, Heap.size_after_update, ← Array.append_assoc]; rfl) ?_
  refine Heap.get?_none_of_le ?_
  rw [Heap.size_push, Heap.size_after_update]
  exact Nat.le_succ _
end
end Mine

end

section
open PySem PySem.W PyProof.Rows PySem.SeqAt
set_option Elab.async false
set_option linter.all false
set_option autoImplicit false
namespace Mine
/-- the frames around -/
noncomputable def isFr (l : List Env) (b : Addr) : Prop := b ∈ l.filterMap (·.frame)
noncomputable def Frms (h : Heap) (l : List Env) : Prop := ∀ e ∈ l, e.scope.kind = .function ∧ ∃ L m, e.frame = some L ∧ h.Ns L m
/-- all stays, but e; the frames up to their slots -/
structure Slt (e : Option Addr) (S : Addr → Prop) (h h' : Heap) : Prop where
  out : ∀ b o, ¬ S b → some b ≠ e → h.get? b = some o → h'.get? b = some o
  fr : ∀ b o, S b → h.get? b = some o → ∃ sl, h'.get? b = some { o with slots := sl }
theorem Slt.refl (e : Option Addr) (S : Addr → Prop) (h : Heap) : Slt e S h h := ⟨fun _ _ _ _ q => q, fun _ o _ q => ⟨o.slots, q⟩⟩
theorem Slt.trans {e : Option Addr} {S : Addr → Prop} {a b c : Heap} (x : Slt e S a b) (y : Slt e S b c) : Slt e S a c :=
  ⟨fun p o n1 n2 q => y.out p o n1 n2 (x.out p o n1 n2 q), fun p o n q => let ⟨_, q1⟩ := x.fr p o n q; let ⟨sl, q2⟩ := y.fr p _ n q1; ⟨sl, q2⟩⟩
theorem Ext.slt {e : Option Addr} {S : Addr → Prop} {a b : Heap} (x : Ext a b) : Slt e S a b := ⟨fun p o _ _ q => x p o q, fun p o _ q => ⟨o.slots, x p o q⟩⟩
theorem Slt.mono {S T : Addr → Prop} {a b : Heap} (x : Slt none S a b) (h : ∀ b, S b → T b) : Slt none T a b := by
  refine ⟨fun p o n1 n2 q => x.out p o (fun z => n1 (h p z)) n2 q, fun p o n q => ?_⟩
  by_cases z : S p
  · exact x.fr p o z q
  · exact ⟨o.slots, x.out p o z (by simp) q⟩
/-- the exception was not there -/
theorem Slt.drop {e : Addr} {S : Addr → Prop} {a b c : Heap} (x : Ext a b) (y : Slt (some e) S b c) (n : a.get? e = none) : Slt none S a c :=
  ⟨fun p o n1 _ q => y.out p o n1 (fun z => by cases z; rw [n] at q; cases q) (x p o q), fun p o n1 q => y.fr p o n1 (x p o q)⟩
theorem Slt.chg {S : Addr → Prop} {a b : Heap} (x : Slt none S a b) : Chg S a b := fun p o n q => x.out p o n (by simp) q
theorem Slt.ns {e : Option Addr} {S : Addr → Prop} {a b : Heap} {L : Addr} {m : Str → Option Value} (x : Slt e S a b) (hn : a.Ns L m) (he : some L ≠ e) : b.Ns L m := by
  obtain ⟨o, es, ep, ho, hd, r⟩ := hn
  by_cases z : S L
  · obtain ⟨sl, q⟩ := x.fr L o z ho
    exact ⟨_, es, ep, q, hd, r⟩
  · exact ⟨o, es, ep, x.out L o z he ho, hd, r⟩
theorem Frms.ext {h h' : Heap} {l : List Env} (x : Frms h l) (e : Ext h h') : Frms h' l := fun v hv => let ⟨q1, L, m, q2, q3⟩ := x v hv; ⟨q1, L, m, q2, q3.keeps e⟩
theorem Frms.slt {e : Option Addr} {S : Addr → Prop} {h h' : Heap} {l : List Env} (x : Frms h l) (y : Slt e S h h') (he : ∀ a, e = some a → ∀ m, ¬ h.Ns a m) : Frms h' l := fun v hv => by
  obtain ⟨q1, L, m, q2, q3⟩ := x v hv
  exact ⟨q1, L, m, q2, y.ns q3 fun z => he L z.symm m q3⟩
theorem Frms.fun {h base : Heap} : ∀ {l : List Env}, Frms h l → (∀ b, isFr l b → base.get? b = none) → h.FunFrames base l
  | [], _, _ => trivial
  | v :: r, x, hb => by
    obtain ⟨q1, L, m, q2, o, es, ep, q3, q4, _⟩ := x v List.mem_cons_self
    refine ⟨by rw [q1]; decide, ⟨L, o, q2, hb L ?_, q3, fun vs z => by rw [q4] at z; cases z⟩, Frms.fun (l := r) (fun u hu => x u (List.mem_cons_of_mem _ hu)) fun b q => hb b ?_⟩
    · simp [isFr, List.filterMap_cons, q2]
    · simp only [isFr, List.filterMap_cons, q2] at q ⊢
      exact List.mem_cons_of_mem _ q
theorem isFr_cons {v : Env} {r : List Env} {L b : Addr} (h : v.frame = some L) : isFr (v :: r) b ↔ b = L ∨ isFr r b := by
  simp [isFr, List.filterMap_cons, h]
noncomputable def excO (cls : Value) (t : Addr) (ws : Array Value) : Obj := { cls := cls, data := .fields (#[.ref t, .none] ++ ws) }
theorem excO_0 (cls : Value) (t : Addr) (ws : Array Value) : (#[Value.ref t, .none] ++ ws)[0]? = some (.ref t) := by rw [Array.getElem?_append]; simp
theorem excO_1 (cls : Value) (t : Addr) (ws : Array Value) : (#[Value.ref t, .none] ++ ws)[1]? = some .none := by rw [Array.getElem?_append]; simp
noncomputable def baseE (l : List Env) (e : Addr) (h : Heap) : Heap := hideS (fun b => isFr l b ∨ b = e) h
section
variable {w : World} {A : Around} {E : Value → Shared → Prop} {s : Shared} {env : Env} {outer : List Env} {L e t : Addr} {cls : Value} {ws : Array Value}
theorem base_stays (l : List Env) (e : Addr) (h : Heap) : (baseE l e h).StaysIn h := fun b o q => by
  by_cases z : isFr l b ∨ b = e
  · rw [baseE, (hideS_get _ _ _).2 z] at q; cases q
  · rw [baseE, (hideS_get _ _ _).1 z] at q; exact q
theorem slt_of {l : List Env} {h h' : Heap} (x : (baseE l e h).StaysIn h') (y : h.UpToSlots h') (f : Frms h l) : Slt (some e) (isFr l) h h' := by
  refine ⟨fun b o n1 n2 q => x b o ?_, fun b o n1 q => y b o q ?_⟩
  · rw [baseE, (hideS_get _ _ _).1 (fun z => z.elim n1 fun z => n2 (by rw [z]))]; exact q
  · obtain ⟨v, hv, hL⟩ := List.mem_filterMap.mp n1
    obtain ⟨_, L', m, q2, o', es, ep, q3, q4, _⟩ := f v hv
    rw [hL] at q2; cases q2
    rw [q3] at q; cases q
    intro vs z; rw [q4] at z; cases z
theorem note_new {Q : Unit → Shared → Prop} (hfr : A.frames = some (env :: outer)) (hf : env.frame = some L) (hl : Frms s.heap (env :: outer)) (he : s.heap.get? e = some (excO cls t ws))
    (h : ∀ h', Heap.HeldW (baseE (env :: outer) e s.heap) (env :: outer) e cls (.ref t) L h' → Slt (some e) (isFr (env :: outer)) s.heap h' → Q () { s with heap := h' }) : wpAny (model pw w) A (noteFrame (.ref e) env) Q E s := by
  unfold noteFrame
  simp only [hf]
  refine wpAny_bind (wpAny_field he rfl (excO_1 cls t ws) ?_)
  rw [if_neg (by decide)]
  have hb : ∀ b, isFr (env :: outer) b → (baseE (env :: outer) e s.heap).get? b = none := fun b q => (hideS_get _ _ _).2 (.inl q)
  have hbe : (baseE (env :: outer) e s.heap).get? e = none := (hideS_get _ _ _).2 (.inr rfl)
  refine wpAny_entryW hfr (hl.fun hb) hf he (base_stays _ _ _) hbe rfl (by simp; omega) (excO_0 cls t ws) fun h' ⟨k1, k2, k3, k4⟩ => ?_
  exact h h' ⟨k1, hbe, k2, k3⟩ (slt_of k1 k4 hl)
/-- try: .. except StopIteration: .. -/
theorem wp_try {Q : Flow → Shared → Prop} {body suite rest : List Stmt} {b₀ : Stmt} {p1 p2 pos : Pos} (hfr : A.frames = some (env :: outer)) (hf : env.frame = some L)
    (h : ∀ E', (∀ e s1, (∃ ea t ws, e = Value.ref ea ∧ s1.heap.get? ea = some (excO (.type "StopIteration") t ws) ∧ Frms s1.heap (env :: outer) ∧
        ∀ h', Slt (some ea) (isFr (env :: outer)) s1.heap h' → Has pw w h' env "StopIteration" (.type "StopIteration") ∧
          ∀ E'', wpAny (model pw w) (A.mark (some (.ref ea))) (execs (b₀ :: suite) env) (fun f s' => match f with | .next => wpAny (model pw w) A (execs rest env) Q E s' | f => Q f s') E'' { s1 with heap := h' }) → E' e s1) →
      wpAny (model pw w) A (execs body env) (fun f s' => match f with | .next => wpAny (model pw w) A (execs rest env) Q E s' | f => Q f s') E' s) :
    wpAny (model pw w) A (execs (.Try body [.ExceptHandler (some (.Name "StopIteration" p1)) none (b₀ :: suite) p2] [] [] pos :: rest) env) Q E s := by
  refine wpAny_execs_cons (wpAny_Try_except ?_)
  refine wpAny_mono (h _ fun e s1 he => ?_) (fun f s' hq => ?_) fun _ _ x => x
  · obtain ⟨ea, t, ws, rfl, hea, hl, hk⟩ := he
    refine note_new hfr hf hl hea fun h1 H1 S1 => ?_
    refine wpAny_landsW (s := { s1 with heap := h1 }) H1 fun h2 H2 U2 => ?_
    refine wpAny_handleBy_builtin (s := { s1 with heap := h2 }) (X := "StopIteration") (T := "StopIteration") (b := true) (by rw [isSubtype_type]; kernel_rfl) (by rw [isSubtype_type]; kernel_rfl) isSubtype_stop ?_
    have ne : ∀ a, some ea = some a → ∀ m, ¬ s1.heap.Ns a m := fun a q m ⟨o, es, ep, q1, q2, _⟩ => by
      cases q; rw [hea] at q1; cases q1; cases q2
    have hbs : ∀ h', (baseE (env :: outer) ea s1.heap).StaysIn h' → s1.heap.UpToSlots h' → Slt (some ea) (isFr (env :: outer)) s1.heap h' := fun h' x y => slt_of x y hl
    have up1 : s1.heap.UpToSlots h1 := fun b o q hn => by
      by_cases z : isFr (env :: outer) b
      · exact S1.fr b o z q
      · refine ⟨o.slots, S1.out b o z (fun z2 => ?_) q⟩
        cases z2; rw [hea] at q; cases q; exact hn _ rfl
    have S2 := hbs h2 H2.1 (up1.trans U2)
    refine wpAny_Name ((hk h2 S2).1 _ _ _ _ (.refl _) ?_) (by decide)
    refine ⟨rfl, ?_, ?_⟩
    · obtain ⟨ob, q1, q2⟩ := H2.there
      exact ⟨ob, q1, q2⟩
    · rw [if_pos rfl]
      have T2 := H2.2.2.2.at
      refine wpAny_setFlight_noneW (s := { s1 with heap := h2 }) H2.1 H2.2.2.1 T2 fun h3 k1 k2 k3 k4 => ?_
      refine (hk h3 (hbs h3 k1 ((up1.trans U2).trans fun b o q hn => ⟨o.slots, k4 b o q hn⟩))).2 _
  · cases f <;> first | exact hq | (refine wpAny_execs_nil ?_; exact hq)
end
end Mine

end

section
open PySem PySem.W PyProof.Rows PySem.SeqAt
set_option Elab.async false
set_option linter.all false
set_option autoImplicit false
namespace Mine
section
variable {w : World} {k : Nat} {A : Around} {E : Value → Shared → Prop} {s : Shared} {env : Env} {h h0 : Heap} {ρ : Locs}
/-- the frame's slots change -/
theorem Fm.slt {h' : Heap} {l : List Env} {e : Option Addr} (F : Fm h0 h env ρ) (x : Slt e (isFr l) h h') (f : Frms h l) (hb : ∀ b, isFr l b → h0.get? b = none) (he : ∀ a, e = some a → h0.get? a = none ∧ ∃ cls t ws, h.get? a = some (excO cls t ws)) :
    Fm h0 h' env ρ ∧ Pres h h' := by
  have fd : ∀ b, isFr l b → ∃ m, h.Ns b m := fun b q => by
    obtain ⟨v, hv, hL⟩ := List.mem_filterMap.mp q
    obtain ⟨_, L', m, q2, q3⟩ := f v hv
    rw [hL] at q2; cases q2
    exact ⟨m, q3⟩
  have ed : ∀ b o, some b = e → h.get? b = some o → ∃ vs, o.data = .fields vs := fun b o q1 q2 => by
    obtain ⟨_, cls, t, ws, q⟩ := he b q1.symm
    rw [q] at q2; cases q2; exact ⟨_, rfl⟩
  have pr : Pres h h' := fun b o hk q => by
    refine x.out b o (fun z => ?_) (fun z => ?_) q
    · obtain ⟨m, o', es, ep, q1, q2, _⟩ := fd b z
      rw [q] at q1; cases q1; simp [keptObj, q2] at hk
    · obtain ⟨vs, q2⟩ := ed b o z q
      simp [keptObj, q2] at hk
  have cl : ∀ c ov, h.IsCell c ov → h'.IsCell c ov := fun c ov ⟨o, q1, q2⟩ => by
    refine ⟨o, x.out c o (fun z => ?_) (fun z => ?_) q1, q2⟩
    · obtain ⟨m, o', es, ep, q3, q4, _⟩ := fd c z
      rw [q1] at q3; cases q3; rw [q2] at q4; cases q4
    · obtain ⟨vs, q3⟩ := ed c o z q1
      rw [q2] at q3; cases q3
  refine ⟨⟨fun b o q => ?_, F.kind, ?_, fun z hz => ?_, F.dom, F.inj, F.freshL, fun z c q => let ⟨ov, q1⟩ := F.cin z c q; ⟨ov, cl c ov q1⟩⟩, pr⟩
  · refine x.out b o (fun z => ?_) (fun z => ?_) (F.base _ _ q)
    · rw [hb b z] at q; cases q
    · rw [(he b z.symm).1] at q; cases q
  · obtain ⟨m, hn, hm⟩ := F.ns
    refine ⟨m, x.ns hn fun z => ?_, fun y p a b => let ⟨v, c, d⟩ := hm y p a b; ⟨v, c, p.st _ _ _ pr d⟩⟩
    obtain ⟨o, es, ep, q1, q2, _⟩ := hn
    obtain ⟨vs, q3⟩ := ed _ o z q1
    rw [q2] at q3; cases q3
  · obtain ⟨c, ov, q1, q2, q3, q4⟩ := F.cel z hz
    exact ⟨c, ov, q1, cl c ov q2, q3, fun p a => let ⟨v, c, d⟩ := q4 p a; ⟨v, c, p.st _ _ _ pr d⟩⟩

/-- o.pop(), any around -/
theorem pop_run {Q : Value → Shared → Prop} {x : Str} {px apos pos : Pos} {D : Addr} {ys : Array Value} {y : Value} (hx : Has pw w s.heap env x (.ref D)) (hD : s.heap.PlainList D (ys.push y)) (hsz : ys.size < sizeLine)
    (hq : ∀ h', h'.PlainList D ys → Heap.SameBut D s.heap h' → Q y { s with heap := h' })
    (hline : (apos.endLine == pos.line) = true := by rfl) (hd : (x == ("__debug__" : Str)) = false := by decide) :
    wpAny (model pw w) A (eval (.Call (.Attribute (.Name x px) "pop" apos) [] [] pos) env) Q E s := by
  refine wpAny_Call_method rfl rfl hline PySem.F.plainAttrs_list PySem.F.slot_list_pop PySem.F.type_list_pop (wpAny_Name (hx A s E _ (.refl _) ?_) hd)
  obtain ⟨n, hD0⟩ := hD
  refine ⟨⟨_, hD0, rfl⟩, fun a e => by cases e; exact ⟨_, hD0, rfl⟩, callWith_method0 ?_⟩
  refine call_meets PySem.F.slot_list_pop ⟨_, hD0, rfl⟩ PySem.F.entry_list_pop (PySem.F.args_list_pop_1 _) (MeetsSeq.list_pop_last D (ys.push y) n y (by simp) (by simp; omega)) ⟨hD0, ?_⟩
  have e : (ys.push y).eraseIdxIfInBounds ((ys.push y).size - 1) = ys := by
    apply Array.ext'
    simp only [Array.eraseIdxIfInBounds, Array.size_push, Nat.add_sub_cancel, Nat.lt_succ_self, dif_pos]
    rw [Array.toList_eraseIdx, Array.toList_push, List.eraseIdx_append_of_length_le (by simp)]
    simp
  have z := PySem.IsL.update (n := n) hD0 (fun xs => xs.eraseIdxIfInBounds ((ys.push y).size - 1))
  rw [e] at z
  exact hq _ ⟨_, z⟩ (Heap.SameBut.update ..)
/-- del d[x.pop()], any around -/
theorem del_run {Q : Flow → Shared → Prop} {x d : Str} {px pd apos pos spos dpos : Pos} {rest : List Stmt} {D D4 : Addr} {ys : Array Value} {i : Int} {t : Tok} {kvs : List (Int × Value)} (hx : Has pw w s.heap env x (.ref D)) (hdn : Has pw w s.heap env d (.ref D4))
    (hD : s.heap.PlainList D (ys.push (.int i t))) (hsz : ys.size < sizeLine) (h4 : s.heap.DictOf (knd w) D4 kvs) (hk : kvs.length ≤ sizeLine) (hv : (valueAt kvs i).isSome = true)
    (hq : ∀ h1 h2 tk, h1.PlainList D ys → Heap.SameBut D s.heap h1 → h2.DictOf (knd w) D4 (without kvs i) → Heap.SameBut D4 h1 h2 → wpAny (model pw w) A (execs rest env) Q E { s with heap := h2, toks := tk })
    (hline : (apos.endLine == pos.line) = true := by rfl) (hd1 : (x == ("__debug__" : Str)) = false := by decide) (hd2 : (d == ("__debug__" : Str)) = false := by decide) :
    wpAny (model pw w) A (execs (.Delete [.Subscript (.Name d pd) (.Call (.Attribute (.Name x px) "pop" apos) [] [] pos) spos] dpos :: rest) env) Q E s := by
  refine wpAny_execs_cons (wpAny_Delete (wpAny_deleteEach_cons ?_))
  rw [arm_delete_Subscript]
  refine wpAny_bind (wpAny_Name (hdn A s E _ (.refl _) ?_) hd2)
  refine wpAny_bind (wpAny_holding (pop_run hx hD hsz (fun h1 l1 b1 => ?_) hline hd1))
  refine wpAny_bind (wpAny_standAt (wpAny_bind (wpAny_holding ?_)))
  have ne : D4 ≠ D := fun q => by
    obtain ⟨o, es, ep, q1, _, q2, _⟩ := h4
    obtain ⟨n, q3⟩ := hD
    rw [q, q3] at q1; cases q1; cases q2
  have d1 : h1.DictOf (knd w) D4 kvs := h4.at fun o q => (b1.2 _ ne).trans q
  refine wpAny_delItem_slot (s := { s with heap := h1 }) d1.typeIs (by decide) PySem.F.slot_dict_delitem (call_meetsIn PySem.F.slot_dict_delitem (s := { s with heap := h1 }) d1.typeIs PySem.F.entry_dict_delitem (PySem.F.args_dict_delitem_2 _ _) (meets_dict_delitem_pairs (knd w) D4 (intKind_is _ _ _ _)) ⟨kvs, d1, hk, hv, fun h2 d2 b2 => ?_⟩)
  refine wpAny_release (wpAny_deleteEach_nil ?_)
  exact hq h1 h2 _ l1 b1 d2 b2
theorem drop_run {Q : Flow → Shared → Prop} {x : Str} {px apos pos spos : Pos} {rest : List Stmt} {D : Addr} {ys : Array Value} {y : Value} (hk : env.scope.kind = .function) (hx : Has pw w s.heap env x (.ref D)) (hD : s.heap.PlainList D (ys.push y)) (hsz : ys.size < sizeLine)
    (hq : ∀ h', h'.PlainList D ys → Heap.SameBut D s.heap h' → wpAny (model pw w) A (execs rest env) Q E { s with heap := h' })
    (hline : (apos.endLine == pos.line) = true := by rfl) (hd : (x == ("__debug__" : Str)) = false := by decide) :
    wpAny (model pw w) A (execs (.Expr (.Call (.Attribute (.Name x px) "pop" apos) [] [] pos) spos :: rest) env) Q E s :=
  wpAny_execs_cons (wpAny_Expr_any (pop_run hx hD hsz hq hline hd) (by unfold interactive; rw [hk]; rfl) rfl)
theorem KIn.size {h : Heap} {P : Params} (X : (KF P).In h) : 144 < h.objs.size := Heap.lt_size (X 144 _ rfl)
theorem ev_dict1 {pos : Pos} (X : (KF w.params).In h) : EvP pw w k env h (.Dict [] [] pos) (fun v h' => ∃ d, v = .ref d ∧ h'.DictOf (knd w) d [] ∧ h.get? d = none ∧ (d == sysModules) = false) := fun A s E Q rm hx hq => by
  refine wpAny_Dict_empty ?_
  refine hq _ _ _ (Ext.push _ _) ⟨_, rfl, Heap.DictOf.new _, new_none hx, ?_⟩
  have := KIn.size (KIn.ext X hx)
  rw [beq_eq_false_iff_ne]
  intro q
  rw [q] at this
  exact absurd this (by decide)
theorem ev_set0 {p1 p2 : Pos} (hb : Has pw w h env "set" (.type "set")) : EvP pw w k env h (.Call (.Name "set" p1) [] [] p2) (fun v h' => ∃ d, v = .ref d ∧ h'.SetOf (knd w) d (fun _ => false) 0 ∧ h.get? d = none) := fun A s E Q rm hx hq =>
  Call_ (wpAny_Name (hb A s E _ hx (callWith_type0 (call_set_0 fun led => hq _ _ _ (Ext.push _ _) ⟨_, rfl, ⟨_, #[], 0, _, Heap.get?_push_size _ rfl, ⟨rfl, rfl, rfl⟩, rfl, fun e he => by simp at he, fun k => by simp, by decide, by rfl, rfl⟩, new_none hx⟩))) (by decide))
theorem cmp_inSet {D : Addr} {S : Int → Bool} {n : Nat} {i : Int} (hS : h.SetOf (knd w) D S n) : Cmp (prog := pw) (w := w) k .In h (IsD (.int i)) (IsV (.ref D)) (S i) := fun A s E Q x y rm hx px py hq => by
  obtain ⟨t, rfl⟩ := Rd.inv_int px
  cases (py : y = _)
  exact wpAny_inSet_of (knd := knd w) (k := i) (intKind_is _ _ _ _) rfl (let ⟨o, es, ep, tt, q, r⟩ := hS; ⟨o, es, ep, tt, hx _ _ q, r⟩) (hq _ _ (.refl _))
theorem cmp_inDict {D : Addr} {kvs : List (Int × Value)} {i : Int} (hS : h.DictOf (knd w) D kvs) (hsm : (D == sysModules) = false) : Cmp (prog := pw) (w := w) k .In h (IsD (.int i)) (IsV (.ref D)) (valueAt kvs i).isSome := fun A s E Q x y rm hx px py hq => by
  obtain ⟨t, rfl⟩ := Rd.inv_int px
  cases (py : y = _)
  exact wpAny_in_of (knd := knd w) (k := i) (intKind_is _ _ _ _) hsm (hS.at fun o q => hx _ _ q).mapOf (hq _ _ (.refl _))
/-- seen.add(e), a statement -/
theorem wp_add {Q : Flow → Shared → Prop} {o e : Expr} {apos pos spos : Pos} {rest : List Stmt} {D : Addr} {S : Int → Bool} {n : Nat} {i : Int}
    (rm : Room k A) (hk : env.scope.kind = .function) (ho : EvP pw w k env s.heap o (IsV (.ref D))) (hS : s.heap.SetOf (knd w) D S n) (he : EvD pw w k env s.heap e (.int i)) (hn : n + 1 < scanBound)
    (h : ∀ h1 h2 tk, Ext s.heap h1 → h2.SetOf (knd w) D (fun j => S j || decide (j = i)) (if S i then n else n + 1) → Heap.SameBut D h1 h2 → wpAny (model pw w) A (execs rest env) Q E { s with heap := h2, toks := tk })
    (hbase : attributeBase o "add" env (eval o env) = eval o env := by rfl) (hst : starEach [e] env = [(false, eval e env)] := by rfl) (hline : (apos.endLine == pos.line) = true := by rfl) :
    wpAny (model pw w) A (execs (.Expr (.Call (.Attribute o "add" apos) [e] [] pos) spos :: rest) env) Q E s := by
  refine wpAny_execs_cons (wpAny_Expr (wpAny_Call_method hbase (by rw [hst]; rfl) hline PySem.F.plainAttrs_set PySem.F.slot_set_add PySem.F.type_set_add (ho A s E _ rm (.refl _) fun v h0 t0 e0 q0 => ?_)) (by unfold interactive; rw [hk]; rfl) rfl)
  cases q0
  have S0 : h0.SetOf (knd w) D S n := let ⟨o, es, ep, tt, q, r⟩ := hS; ⟨o, es, ep, tt, e0 _ _ q, r⟩
  refine ⟨S0.typeIs (s := { s with heap := h0, toks := t0 }), S0.noDict (s := { s with heap := h0, toks := t0 }), callWith_method1 (args_cons (he A _ E _ rm e0 fun y h1 t1 e1 p1 => args_nil ?_) hst) hst⟩
  obtain ⟨t, rfl⟩ := p1.inv_int
  have S1 : h1.SetOf (knd w) D S n := let ⟨o, es, ep, tt, q, r⟩ := S0; ⟨o, es, ep, tt, e1 _ _ q, r⟩
  refine call_set_add (s := { s with heap := h1, toks := t1 }) (knd := knd w) (k := i) (intKind_is _ _ _ _) rfl S1 hn fun h2 b2 s2 => ?_
  exact h h1 h2 _ (e0.trans e1) s2 b2
/-- where a for over a dict goes -/
theorem hit_keys {d : Addr} {kvs : List (Int × Value)} (rm : Room k A) (hd : s.heap.DictOf (knd w) d kvs) (hsm : (d == sysModules) = false) : HitF pw w A s (IsV (.ref d)) kvs.length (fun i v => ∃ kk x t, kvs[i]? = some (kk, x) ∧ v = .int kk t) (fun b => b = d) := by
  intro xv h1 tk1 E Q' e1 px hq
  cases (px : xv = _)
  have d1 : h1.DictOf (knd w) d kvs := hd.at fun o q => e1 _ _ q
  obtain ⟨ep, da⟩ := d1.dictAt
  have hlt : d < h1.objs.size := by obtain ⟨_, _, q, _⟩ := da; exact Heap.lt_size q
  refine wpAny_pyIter_dict (s := { s with heap := h1, toks := tk1 }) (knd := knd w) hsm da ?_
  refine hq h1.objs.size _ _ _ _ tk1 (Walks.dictKeys (prog := pw) (w := w) (knd := knd w) (A := A) rm.handled h1.objs.size d (Nat.ne_of_lt hlt) kvs ep) ⟨⟨_, Heap.get?_push_size _ rfl, rfl, rfl⟩, da.at' fun o q => Heap.get?_push_of_some _ q⟩
    (fun b hb => (List.mem_cons.mp hb).imp id fun q => List.mem_singleton.mp q) (get_size_none _) (Ext.push _ _) (fun i h' st => ?_) (fun i v _ hP => ?_)
  · obtain ⟨⟨o, q1, q2, q3⟩, _⟩ := st
    exact ⟨o, q1, by simp [keptObj, q3]⟩
  · obtain ⟨kk, x, q1, q2⟩ := hP
    obtain ⟨t, rfl⟩ := intKey (w := w) q2
    exact ⟨kk, x, t, q1, rfl⟩
end
end Mine

end

section
open PySem PySem.W PyProof.Rows PySem.SeqAt
set_option Elab.async false
set_option linter.all false
set_option autoImplicit false
namespace Mine
/-- the search, plainly -/
noncomputable def popS (su : Nat → List Nat) : List (Nat × Nat) → Option (Nat × List (Nat × Nat))
  | [] => none
  | (x, k) :: q => match (su x)[k]? with
    | some y => some (y, (x, k + 1) :: q)
    | none => popS su q
noncomputable def ringQ (q : List (Nat × Nat)) (y : Nat) : List Nat := ((q.map (·.1)).reverse.drop ((q.map (·.1)).reverse.idxOf y)) ++ [y]
noncomputable def visD (su : Nat → List Nat) : Nat → List Nat → List (Nat × Nat) → Nat → Option (Option (List Nat) × List Nat)
  | 0, _, _, _ => none
  | f + 1, sn, q, y =>
    if y ∈ sn ∧ y ∈ q.map (·.1) then some (some (ringQ q y), sn)
    else
      let sn' := if y ∈ sn then sn else y :: sn
      let q' := if y ∈ sn then q else (y, 0) :: q
      match popS su q' with
      | none => some (none, sn')
      | some (z, q'') => visD su f sn' q'' z
noncomputable def outD (su : Nat → List Nat) (f : Nat) : List Nat → List Nat → Option (Option (List Nat))
  | [], _ => some none
  | x :: xs, sn => if x ∈ sn then outD su f xs sn else match visD su f sn [] x with
    | none => none
    | some (some r, _) => some (some r)
    | some (none, sn') => outD su f xs sn'

noncomputable def fcBody : List Stmt := defBody (sortC.drop 8)
noncomputable def forB : List Stmt := match fcBody.drop 5 with | .For _ _ b _ _ :: _ => b | _ => []
noncomputable def whB : List Stmt := match forB.drop 1 with | .While _ b _ _ :: _ => b | _ => []
noncomputable def elB : List Stmt := match whB with | .If _ _ b _ :: _ => b | _ => []
noncomputable def inB : List Stmt := whB.drop 1

/-- an entry of the stack: node, place in its successors, method-wrapper, iterator -/
structure Ent4 where
  x : Nat
  k : Nat
  m : Addr
  it : Addr
noncomputable def qOf (T : List Ent4) : List (Nat × Nat) := T.map fun e => (e.x, e.k)
structure Cx (w : World) (G : List (Str × Value)) (g : Geo) (σ : Sta) (hE h0 : Heap) (outer : List Env) (env : Env) : Prop where
  fr : env.frame = some env.locals
  sc : env.scope = defScope (sortC.drop 8)
  gl : env.globals = mainGlobals
  bu : env.builtins = builtinsNs
  h0E : ∀ b, hE.get? b = none → h0.get? b = none
  h0F : ∀ b, isFr outer b → h0.get? b = none
  SE : Srt w hE g σ
  FE : Frms hE outer
  off : ∀ b o, hE.get? b = some o → Off env b
  mf : ∀ b, Mem g σ b → ¬ isFr outer b
  BH : Bse w G h0
  n9 : σ.n ≤ 50
  sb : ∀ i, i < σ.n → (σ.su i).length ≤ 100 ∧ ∀ j ∈ σ.su i, j < σ.n
structure Amb (w : World) (g : Geo) (σ : Sta) (hE h0 : Heap) (outer : List Env) (env : Env) (h : Heap) (ρ : Locs) : Prop where
  fm : Fm h0 h env ρ
  srt : Srt w h g σ
  frs : Frms h (env :: outer)
  slt : Slt none (isFr outer) hE h
  pin : ∀ x p, ρ.lookup x = some p → ∃ u, p = prV u
section
variable {w : World} {G : List (Str × Value)} {g : Geo} {σ : Sta} {hE h0 h h' : Heap} {outer : List Env} {env : Env} {ρ : Locs}
theorem isFr_at {l : List Env} {b : Addr} (f : Frms h l) (q : isFr l b) : ∃ m, h.Ns b m := by
  obtain ⟨v, hv, hL⟩ := List.mem_filterMap.mp q
  obtain ⟨_, L', m, q2, q3⟩ := f v hv
  rw [hL] at q2; cases q2
  exact ⟨m, q3⟩
theorem Amb.ext (C : Cx w G g σ hE h0 outer env) (a : Amb w g σ hE h0 outer env h ρ) (e : Ext h h') : Amb w g σ hE h0 outer env h' ρ := ⟨a.fm.ext e, a.srt.ext e, a.frs.ext e, a.slt.trans e.slt, a.pin⟩
theorem Amb.same {D : Addr} (C : Cx w G g σ hE h0 outer env) (a : Amb w g σ hE h0 outer env h ρ) (b : Heap.SameBut D h h') (hD : hE.get? D = none) (oD : Off env D) : Amb w g σ hE h0 outer env h' ρ := by
  have nm : ∀ x, Mem g σ x → x ≠ D := fun x m q => by obtain ⟨o, ho⟩ := C.SE.at m; rw [q, hD] at ho; cases ho
  refine ⟨a.fm.chgV (S := fun x => x = D) a.pin (Chg.one b) (fun x q => by rw [q]; exact oD) (fun x q => by rw [q]; exact C.h0E _ hD), a.srt.keep fun x o m q => (b.2 x (nm x m)).trans q, fun v hv => ?_, ⟨fun x o n1 n2 q => ?_, fun x o n1 q => ?_⟩, a.pin⟩
  · obtain ⟨q1, L, m, q2, q3⟩ := a.frs v hv
    refine ⟨q1, L, m, q2, q3.sameBut b ?_⟩
    rcases List.mem_cons.mp hv with rfl | hv
    · rw [C.fr] at q2; cases q2; exact fun q => oD.l q.symm
    · obtain ⟨_, L', m', q4, o, es, ep, q5, _⟩ := C.FE v hv
      rw [q2] at q4; cases q4
      rintro rfl; rw [hD] at q5; cases q5
  · exact (b.2 x (by rintro rfl; rw [hD] at q; cases q)).trans (a.slt.out x o n1 n2 q)
  · obtain ⟨sl, z⟩ := a.slt.fr x o n1 q
    exact ⟨sl, (b.2 x (by rintro rfl; rw [hD] at q; cases q)).trans z⟩
theorem Amb.put {x : Str} {v : Value} (C : Cx w G g σ hE h0 outer env) (a : Amb w g σ hE h0 outer env h ρ) (F : Fm h0 h' env ((x, prV v) :: ρ)) (of : Offs env h h') : Amb w g σ hE h0 outer env h' ((x, prV v) :: ρ) := by
  have om : ∀ b, Mem g σ b → Off env b := fun b m => by obtain ⟨o, ho⟩ := C.SE.at m; exact C.off _ _ ho
  refine ⟨F, a.srt.keep fun b o m q => of b o (om b m).l (om b m).c q, fun u hu => ?_, ⟨fun b o n1 n2 q => of b o (C.off _ _ q).l (C.off _ _ q).c (a.slt.out b o n1 n2 q), fun b o n1 q => ?_⟩, fun y p e => ?_⟩
  · obtain ⟨q1, L, m, q2, o, es, ep, q3, r⟩ := a.frs u hu
    rcases List.mem_cons.mp hu with rfl | hu
    · rw [C.fr] at q2; cases q2
      obtain ⟨m', n', _⟩ := F.ns
      exact ⟨q1, _, m', C.fr, n'⟩
    · obtain ⟨_, L', m', q4, o', es', ep', q5, _⟩ := C.FE u hu
      rw [q2] at q4; cases q4
      exact ⟨q1, L, m, q2, o, es, ep, of _ _ (C.off _ _ q5).l (C.off _ _ q5).c q3, r⟩
  · obtain ⟨sl, z⟩ := a.slt.fr b o n1 q
    exact ⟨sl, of _ _ (C.off _ _ q).l (C.off _ _ q).c z⟩
  · rw [lk_cons] at e
    by_cases q : y = x
    · rw [if_pos q] at e; cases e; exact ⟨_, rfl⟩
    · rw [if_neg q] at e; exact a.pin y p e
theorem Amb.drop {x : Str} {p : Pr} (a : Amb w g σ hE h0 outer env h ((x, p) :: ρ)) (hx : ρ.lookup x = none) : Amb w g σ hE h0 outer env h ρ := by
  refine ⟨a.fm.drop hx, a.srt, a.frs, a.slt, fun y q e => a.pin y q ?_⟩
  rw [lk_cons, if_neg (fun z => by rw [z, hx] at e; cases e)]; exact e
theorem Amb.note {e : Addr} {cls : Value} {t : Addr} {ws : Array Value} (C : Cx w G g σ hE h0 outer env) (a : Amb w g σ hE h0 outer env h ρ) (x : Slt (some e) (isFr (env :: outer)) h h') (he : h.get? e = some (excO cls t ws)) (hn : hE.get? e = none) : Amb w g σ hE h0 outer env h' ρ := by
  have fr : ∀ b, isFr (env :: outer) b ↔ b = env.locals ∨ isFr outer b := fun b => isFr_cons C.fr
  have om : ∀ b, Mem g σ b → Off env b := fun b m => by obtain ⟨o, ho⟩ := C.SE.at m; exact C.off _ _ ho
  obtain ⟨F', pr⟩ := a.fm.slt x a.frs (fun b q => ((fr b).mp q).elim (fun z => by rw [z]; exact a.fm.freshL) (C.h0F b)) (fun c q => by cases q; exact ⟨C.h0E _ hn, cls, t, ws, he⟩)
  have ne : ∀ b o, hE.get? b = some o → some b ≠ some e := fun b o q z => by cases z; rw [hn] at q; cases q
  refine ⟨F', a.srt.keep fun b o m q => x.out b o (fun z => ((fr b).mp z).elim (om b m).l (C.mf b m)) (fun z => ?_) q, a.frs.slt x fun c q m hm => ?_, ⟨fun b o n1 n2 q => x.out b o (fun z => ((fr b).mp z).elim (C.off _ _ q).l n1) (ne b o q) (a.slt.out b o n1 n2 q), fun b o n1 q => ?_⟩, a.pin⟩
  · obtain ⟨o', ho'⟩ := C.SE.at m
    exact ne b o' ho' z
  · cases q
    obtain ⟨o, es, ep, q1, q2, _⟩ := hm
    rw [he] at q1; cases q1; cases q2
  · obtain ⟨sl, z⟩ := a.slt.fr b o n1 q
    obtain ⟨sl2, z2⟩ := x.fr b _ ((fr b).mpr (.inr n1)) z
    exact ⟨sl2, z2⟩
end
end Mine

end

section
open PySem PySem.W PyProof.Rows PySem.SeqAt
set_option Elab.async false
set_option linter.all false
set_option autoImplicit false
namespace Mine
structure Dd where
  a : Addr
  b : Addr
  c : Addr
  d : Addr
inductive DOwn (D : Dd) (T : List Ent4) : Addr → Prop
  | a : DOwn D T D.a
  | b : DOwn D T D.b
  | c : DOwn D T D.c
  | d : DOwn D T D.d
  | m (e) : e ∈ T → DOwn D T e.m
  | it (e) : e ∈ T → DOwn D T e.it
noncomputable def xs (T : List Ent4) : List Nat := (T.map (·.x)).reverse
structure Dst (w : World) (g : Geo) (σ : Sta) (hE : Heap) (env : Env) (D : Dd) (h : Heap) (sn : List Nat) (T : List Ent4) : Prop where
  l1 : ∃ vs, h.PlainList D.a vs ∧ IntsAre vs.toList (nI (xs T))
  l2 : h.PlainList D.b ((T.map fun e => Value.ref e.m).reverse).toArray
  s3 : ∃ n, h.SetOf (knd w) D.c (fun i => decide (i ∈ nI sn)) n ∧ n ≤ sn.length
  d4 : ∃ kvs, h.DictOf (knd w) D.d kvs ∧ kvs.map (·.1) = nI (xs T) ∧ IntsAre (kvs.map (·.2)) (nI (List.range T.length))
  en : ∀ e ∈ T, h.get? e.m = some (mwObj e.it) ∧ h.get? e.it = some (liObj (g.suc e.x) e.k) ∧ e.x < σ.n
  nd : (T.map (·.it)).Nodup
  ne : D.a ≠ D.b
  ow : ∀ b, DOwn D T b → hE.get? b = none ∧ Off env b
  sm : (D.d == sysModules) = false
  su : ∀ y ∈ xs T, y ∈ sn
  sl : sn.Nodup ∧ ∀ y ∈ sn, y < σ.n
section
variable {w : World} {G : List (Str × Value)} {g : Geo} {σ : Sta} {hE h0 h h' : Heap} {outer : List Env} {env : Env} {ρ : Locs} {D : Dd} {sn : List Nat} {T : List Ent4}
theorem Dst.keep (d : Dst w g σ hE env D h sn T) (K : ∀ b o, DOwn D T b → h.get? b = some o → h'.get? b = some o) : Dst w g σ hE env D h' sn T where
  l1 := let ⟨vs, ⟨n, q⟩, r⟩ := d.l1; ⟨vs, ⟨n, K _ _ .a q⟩, r⟩
  l2 := let ⟨n, q⟩ := d.l2; ⟨n, K _ _ .b q⟩
  s3 := let ⟨n, ⟨o, es, ep, tt, q, r⟩, z⟩ := d.s3; ⟨n, ⟨o, es, ep, tt, K _ _ .c q, r⟩, z⟩
  d4 := let ⟨kvs, q, r⟩ := d.d4; ⟨kvs, q.at fun o z => K _ _ .d z, r⟩
  en := fun e he => let ⟨q1, q2, q3⟩ := d.en e he; ⟨K _ _ (.m e he) q1, K _ _ (.it e he) q2, q3⟩
  nd := d.nd
  ne := d.ne
  ow := d.ow
  sm := d.sm
  su := d.su
  sl := d.sl
theorem Dst.ext (d : Dst w g σ hE env D h sn T) (e : Ext h h') : Dst w g σ hE env D h' sn T := d.keep fun b o _ q => e b o q
theorem Dst.put (d : Dst w g σ hE env D h sn T) (of : Offs env h h') : Dst w g σ hE env D h' sn T := d.keep fun b o m q => of b o (d.ow b m).2.l (d.ow b m).2.c q
/-- kinds of objects -/
theorem Dst.at (d : Dst w g σ hE env D h sn T) {b : Addr} (m : DOwn D T b) : ∃ o, h.get? b = some o ∧ o.cls ≠ .type "StopIteration" := by
  cases m with
  | a => obtain ⟨vs, ⟨n, q⟩, _⟩ := d.l1; exact ⟨_, q, by simp⟩
  | b => obtain ⟨n, q⟩ := d.l2; exact ⟨_, q, by simp⟩
  | c => obtain ⟨n, ⟨o, es, ep, tt, q, hex, _⟩, z⟩ := d.s3; exact ⟨_, q, by rw [hex.1]; simp⟩
  | d => obtain ⟨kvs, ⟨o, es, ep, q, hex, _⟩, r⟩ := d.d4; exact ⟨_, q, by rw [hex.1]; simp⟩
  | m e he => obtain ⟨q1, q2, q3⟩ := d.en e he; exact ⟨_, q1, by simp [mwObj]⟩
  | it e he => obtain ⟨q1, q2, q3⟩ := d.en e he; exact ⟨_, q2, by simp [liObj]⟩
theorem Dst.note {e : Addr} {t : Addr} {ws : Array Value} (C : Cx w G g σ hE h0 outer env) (d : Dst w g σ hE env D h sn T) (x : Slt (some e) (isFr (env :: outer)) h h') (he : h.get? e = some (excO (.type "StopIteration") t ws)) : Dst w g σ hE env D h' sn T := d.keep fun b o m q => by
  refine x.out b o (fun z => ?_) (fun z => ?_) q
  · rcases (isFr_cons C.fr).mp z with z | z
    · exact (d.ow b m).2.l z
    · obtain ⟨mm, oo, es, ep, q1, _⟩ := isFr_at C.FE z
      rw [(d.ow b m).1] at q1; cases q1
  · cases z
    obtain ⟨o', q1, q2⟩ := d.at m
    rw [he] at q1; cases q1; exact q2 rfl
theorem ints_split {vs : List Value} {ns : List Int} {n : Int} (h : IntsAre vs (ns ++ [n])) : ∃ us t, vs = us ++ [.int n t] ∧ IntsAre us ns := by
  induction ns generalizing vs with
  | nil =>
    cases h with
    | cons _ t r => cases r; exact ⟨[], t, rfl, .nil⟩
  | cons a r ih =>
    cases h with
    | cons _ t z =>
      obtain ⟨us, t', rfl, z'⟩ := ih z
      exact ⟨.int a t :: us, t', rfl, .cons a t z'⟩
theorem nI_app (a b : List Nat) : nI (a ++ b) = nI a ++ nI b := by simp [nI]
theorem nI_mem {l : List Nat} {i : Nat} : ((i : Int) ∈ nI l) ↔ i ∈ l := by
  simp only [nI, List.mem_map]
  constructor
  · rintro ⟨j, hj, e⟩; have : j = i := by omega
    rw [← this]; exact hj
  · intro hj; exact ⟨i, hj, rfl⟩
theorem xs_cons (e : Ent4) (T : List Ent4) : xs (e :: T) = xs T ++ [e.x] := by simp [xs]
theorem xs_len (T : List Ent4) : (xs T).length = T.length := by simp [xs]
theorem xs_q (T : List Ent4) : xs T = ((qOf T).map (·.1)).reverse := by simp [xs, qOf]
theorem Dst.len (d : Dst w g σ hE env D h sn T) : sn.length ≤ σ.n ∧ T.length ≤ σ.n := by
  have h1 : sn.length ≤ σ.n := nodup_bound d.sl.1 d.sl.2
  refine ⟨h1, ?_⟩
  obtain ⟨kvs, ⟨o, es, ep, _, _, _, _, _, hn⟩, hk, _⟩ := d.d4
  rw [hk] at hn
  have h2 : (xs T).Nodup := by
    have : ∀ l : List Nat, (nI l).Nodup → l.Nodup := fun l hl => by
      rw [List.Nodup, nI, List.pairwise_map] at hl
      exact hl.imp fun {a b} q z => q (by rw [z])
    exact this _ hn
  have := nodup_bound h2 fun i hi => d.sl.2 i (d.su i hi)
  rwa [xs_len] at this
end
noncomputable def rho5 (D : Dd) (g : Geo) : Locs := pinR [("node2stacki", .ref D.d), ("seen", .ref D.c), ("itstack", .ref D.b), ("stack", .ref D.a), ("n2i", .ref g.d), ("self", .ref g.x)]
end Mine

end

section
open PySem PySem.W PyProof.Rows PySem.SeqAt
set_option Elab.async false
set_option linter.all false
set_option autoImplicit false
namespace Mine
abbrev ClsAt' (h : Heap) (a : Addr) (T : String) : Prop := ∃ o, h.get? a = some o ∧ o.cls = .type T
theorem ne_cls {h : Heap} {a b : Addr} {T1 T2 : String} (x : ClsAt' h a T1) (y : ClsAt' h b T2) (n : T1 ≠ T2) : a ≠ b := by
  rintro rfl
  obtain ⟨o, q1, q2⟩ := x
  obtain ⟨o', q3, q4⟩ := y
  rw [q1] at q3; cases q3; rw [q2] at q4; cases q4; exact n rfl
section
variable {w : World} {G : List (Str × Value)} {k : Nat} {A : Around} {E : Value → Shared → Prop} {s : Shared} {g : Geo} {σ : Sta} {hE h0 h h' : Heap} {outer : List Env} {env : Env} {ρ : Locs} {D : Dd} {sn : List Nat} {T : List Ent4}
theorem Dst.ca (d : Dst w g σ hE env D h sn T) : ClsAt' h D.a "list" := let ⟨vs, ⟨n, q⟩, _⟩ := d.l1; ⟨_, q, rfl⟩
theorem Dst.cb (d : Dst w g σ hE env D h sn T) : ClsAt' h D.b "list" := let ⟨n, q⟩ := d.l2; ⟨_, q, rfl⟩
theorem Dst.cc (d : Dst w g σ hE env D h sn T) : ClsAt' h D.c "set" := let ⟨n, ⟨o, es, ep, tt, q, hex, _⟩, z⟩ := d.s3; ⟨_, q, hex.1⟩
theorem Dst.cd (d : Dst w g σ hE env D h sn T) : ClsAt' h D.d "dict" := let ⟨kvs, ⟨o, es, ep, q, hex, _⟩, r⟩ := d.d4; ⟨_, q, hex.1⟩
theorem Dst.cm (d : Dst w g σ hE env D h sn T) {e : Ent4} (he : e ∈ T) : ClsAt' h e.m "method-wrapper" := ⟨_, (d.en e he).1, rfl⟩
theorem Dst.ci (d : Dst w g σ hE env D h sn T) {e : Ent4} (he : e ∈ T) : ClsAt' h e.it "list_iterator" := ⟨_, (d.en e he).2.1, rfl⟩
/-- the set of the seen grows -/
theorem Dst.seen {y : Nat} {n : Nat} (d : Dst w g σ hE env D h sn T) (hS : h'.SetOf (knd w) D.c (fun j => decide (j ∈ nI sn) || decide (j = (y : Int))) n) (hn : n ≤ sn.length + 1) (b : Heap.SameBut D.c h h') (hy : y < σ.n) (hns : y ∉ sn) : Dst w g σ hE env D h' (y :: sn) T where
  l1 := let ⟨vs, ⟨n, q⟩, r⟩ := d.l1; ⟨vs, ⟨n, (b.2 _ (ne_cls d.ca d.cc (by decide))).trans q⟩, r⟩
  l2 := let ⟨n, q⟩ := d.l2; ⟨n, (b.2 _ (ne_cls d.cb d.cc (by decide))).trans q⟩
  s3 := ⟨n, by
    have e : (fun j => decide (j ∈ nI sn) || decide (j = (y : Int))) = fun j => decide (j ∈ nI (y :: sn)) := by
      funext j
      rw [Bool.eq_iff_iff, Bool.or_eq_true, decide_eq_true_eq, decide_eq_true_eq, decide_eq_true_eq]
      show j ∈ nI sn ∨ j = (y : Int) ↔ j ∈ (y : Int) :: nI sn
      rw [List.mem_cons]
      exact or_comm
    rw [e] at hS; exact hS, by simpa using hn⟩
  d4 := let ⟨kvs, q, r⟩ := d.d4; ⟨kvs, q.at fun o z => (b.2 _ (ne_cls d.cd d.cc (by decide))).trans z, r⟩
  en := fun e he => let ⟨q1, q2, q3⟩ := d.en e he; ⟨(b.2 _ (ne_cls (d.cm he) d.cc (by decide))).trans q1, (b.2 _ (ne_cls (d.ci he) d.cc (by decide))).trans q2, q3⟩
  nd := d.nd
  ne := d.ne
  ow := d.ow
  sm := d.sm
  su := fun z hz => List.mem_cons_of_mem _ (d.su z hz)
  sl := ⟨List.nodup_cons.mpr ⟨hns, d.sl.1⟩, fun z hz => (List.mem_cons.mp hz).elim (fun q => by rw [q]; exact hy) (d.sl.2 z)⟩
abbrev AmbN (w : World) (g : Geo) (σ : Sta) (hE h0 : Heap) (outer : List Env) (env : Env) (D : Dd) (h : Heap) (v : Value) : Prop := Amb w g σ hE h0 outer env h (("node", prV v) :: rho5 D g)
theorem push_run {Q : Flow → Shared → Prop} {y : Nat} {t : Tok} (rm : Room k A) (C : Cx w G g σ hE h0 outer env) (a : AmbN w g σ hE h0 outer env D s.heap (.int (y : Nat) t)) (d : Dst w g σ hE env D s.heap sn T) (hy : y < σ.n) (hn : y ∉ sn)
    (h : ∀ h' tk e, AmbN w g σ hE h0 outer env D h' (.int (y : Nat) t) → Dst w g σ hE env D h' (y :: sn) (e :: T) → e.x = y → e.k = 0 → Q .next { s with heap := h', toks := tk }) : wpAny (model pw w) A (execs elB env) Q E s := by
  have kd : ∀ x, env.kindOf x = (defScope (sortC.drop 8)).names.lookup x := fun x => by rw [Env.kindOf, C.sc]
  have dl := d.len
  have n9 := C.n9
  -- seen.add(node)
  obtain ⟨n3, hS, hl⟩ := d.s3
  refine wp_add rm a.fm.kind (ev_pin a.fm rfl) hS (ev_pinI a.fm rfl) (by show n3 + 1 < 4096; omega) fun h1 h2 t2 e1 s2 b2 => ?_
  have a2 : AmbN w g σ hE h0 outer env D h2 (.int (y : Nat) t) := (a.ext C e1).same C b2 (d.ow _ .c).1 (d.ow _ .c).2
  have d2 := (d.ext e1).seen s2 (by split <;> omega) b2 hy hn
  -- itstack.append(iter(n2i[node].successors).__next__)
  obtain ⟨ta, ua, I2⟩ := a2.srt.inf y hy
  obtain ⟨ws, hws, hwi⟩ := a2.srt.suc y hy
  have g2 := C.BH.glo.ext a2.fm.base
  refine wp_appendE (s := { s with heap := h2, toks := t2 }) rm a2.fm.kind (ev_pin a2.fm rfl) d2.l2 (ev_next (has_b g2 (by decide) boot_iter a2.fm.kind (kd _) C.gl C.bu)
    (ev_slot (KIn.ext C.BH.K a2.fm.base) I2 (ev_sub2 a2.srt.dct hy (ev_pin a2.fm rfl) (ev_pinI a2.fm rfl)) (name := "successors") (p := 50) (i := 2) (by decide) rfl rfl) hws.isList) (by simp [sizeLine]; omega) fun v h3 h4 t4 e3 q3 l4 b4 => ?_
  obtain ⟨m, it, rfl, hm, hit, nm, nit, hne⟩ := q3
  have d3 := d2.ext e3
  have a4 : AmbN w g σ hE h0 outer env D h4 (.int (y : Nat) t) := (a2.ext C e3).same C b4 (d.ow _ .b).1 (d.ow _ .b).2
  have off_new : ∀ b o, h2.get? b = none → h3.get? b = some o → hE.get? b = none ∧ Off env b := fun b o q1 q2 => by
    refine ⟨?_, a2.fm.off_new q1⟩
    cases z : hE.get? b with
    | none => rfl
    | some o' =>
      by_cases f : isFr outer b
      · obtain ⟨sl, z'⟩ := a2.slt.fr b o' f z; rw [q1] at z'; cases z'
      · have := a2.slt.out b o' f (by simp) z; rw [q1] at this; cases this
  have mw4 : h4.get? m = some (mwObj it) := (b4.2 _ (ne_cls (h := h3) ⟨_, hm, rfl⟩ d3.cb (by decide))).trans hm
  have li4 : h4.get? it = some (liObj (g.suc y) 0) := (b4.2 _ (ne_cls (h := h3) ⟨_, hit, rfl⟩ d3.cb (by decide))).trans hit
  obtain ⟨kvs, k3, kk, ki⟩ := d3.d4
  obtain ⟨vs, v3, vi⟩ := d3.l1
  have k4 : h4.DictOf (knd w) D.d kvs := k3.at fun o z => (b4.2 _ (ne_cls d3.cd d3.cb (by decide))).trans z
  have v4 : h4.PlainList D.a vs := let ⟨n, q⟩ := v3; ⟨n, (b4.2 _ d.ne).trans q⟩
  have vlen : vs.size = T.length := by have := vi.length; rw [nI_len, xs_len] at this; simpa using this
  have klen : kvs.length = T.length := by have := congrArg List.length kk; rw [List.length_map, nI_len, xs_len] at this; exact this
  -- node2stacki[node] = len(stack)
  have rdv : Rd h4 (.ref D.a) (.list (nD (xs T))) := by rw [← nD_eq]; exact Rd.list v4.isList (of_ints vi)
  have lenE : ∀ p1 p2 p3 : Pos, EvD pw w k env h4 (.Call (.Name "len" p1) [.Name "stack" p2] [] p3) (.int ((xs T).length : Nat)) := fun p1 p2 p3 => ev_len (xs := xs T) (f := fun i : Nat => PyData.int (i : Int)) (has_b (C.BH.glo.ext a4.fm.base) (by decide) boot_len a4.fm.kind (kd _) C.gl C.bu)
    ((ev_pin a4.fm rfl).mono fun v h' e (q : v = _) => by rw [q]; exact rdv.ext e) (by rw [xs_len]; omega)
  refine wpAny_execs_cons (wpAny_Assign_Subscript (EvP.run (s := { s with heap := h4, toks := t4 }) (lenE _ _ _) rm fun v h5 t5 e5 q5 => ?_))
  obtain ⟨tl, rfl⟩ := q5.inv_int
  rw [xs_len]
  refine EvP.run (s := { s with heap := h5, toks := t5 }) (ev_pin (a4.fm.ext e5) (x := "node2stacki") rfl) rm fun v h6 t6 e6 q6 => ?_
  cases (q6 : v = _)
  refine EvP.run (s := { s with heap := h6, toks := t6 }) (ev_pin ((a4.fm.ext e5).ext e6) (x := "node") rfl) rm fun v h7 t7 e7 q7 => ?_
  cases (q7 : v = _)
  have e47 := (e5.trans e6).trans e7
  have k7 : h7.DictOf (knd w) D.d kvs := k4.at fun o z => e47 _ _ z
  refine wpAny_setItem_pairs (knd := knd w) (k := (y : Int)) (s := { s with heap := h7, toks := t7 }) (intKind_is _ _ _ _) k7 (fun h8 k8 b8 => ?_) (by rw [klen]; simp [sizeLine]; omega)
  have hst : stored kvs (y : Int) (.int (T.length : Nat) tl) = kvs ++ [((y : Int), .int (T.length : Nat) tl)] := by
    unfold stored
    have : (kvs.any fun kv => decide (kv.1 = (y : Int))) = false := by
      rw [List.any_eq_false]
      intro p hp
      have hp1 : p.1 ∈ nI (xs T) := by rw [← kk]; exact List.mem_map.mpr ⟨p, hp, rfl⟩
      simp only [decide_eq_true_eq]
      intro q
      rw [q, nI_mem] at hp1
      exact hn (d.su y hp1)
    rw [this]; simp
  rw [hst] at k8
  have a7 := a4.ext C e47
  have cd7 : ClsAt' h7 D.d "dict" := by obtain ⟨o, q1, q2⟩ := d3.cd; exact ⟨o, e47 _ _ ((b4.2 _ (ne_cls d3.cd d3.cb (by decide))).trans q1), q2⟩
  have a8 : AmbN w g σ hE h0 outer env D h8 (.int (y : Nat) t) := a7.same C b8 (d.ow _ .d).1 (d.ow _ .d).2
  have ca7 : ClsAt' h7 D.a "list" := let ⟨n, q⟩ := v4; ⟨_, e47 _ _ q, rfl⟩
  have v8 : h8.PlainList D.a vs := let ⟨n, q⟩ := v4; ⟨n, (b8.2 _ (ne_cls ca7 cd7 (by decide))).trans (e47 _ _ q)⟩
  -- stack.append(node)
  refine wp_appendE (s := { s with heap := h8, toks := t7 + 1 }) (P := IsV (.int (y : Nat) t)) rm a8.fm.kind (ev_pin a8.fm rfl) v8 (ev_pin a8.fm rfl) (by rw [vlen]; simp [sizeLine]; omega) fun v h9 h10 t10 e9 q9 l10 b10 => wp_nil ?_
  cases (q9 : v = _)
  have a10 : AmbN w g σ hE h0 outer env D h10 (.int (y : Nat) t) := (a8.ext C e9).same C b10 (d.ow _ .a).1 (d.ow _ .a).2
  have keep : ∀ b o, b ≠ D.d → b ≠ D.a → h4.get? b = some o → h10.get? b = some o := fun b o n1 n2 q => (b10.2 _ n2).trans (e9 _ _ ((b8.2 _ n1).trans (e47 _ _ q)))
  have ca4 : ClsAt' h4 D.a "list" := let ⟨n, q⟩ := v4; ⟨_, q, rfl⟩
  have cd4 : ClsAt' h4 D.d "dict" := let ⟨o, es, ep, q, hex, _⟩ := k4; ⟨_, q, hex.1⟩
  refine h h10 t10 ⟨y, 0, m, it⟩ a10 ?_ rfl rfl
  refine ⟨⟨vs.push (.int (y : Nat) t), l10, ?_⟩, ?_, ?_, ⟨kvs ++ [((y : Int), .int (T.length : Nat) tl)], ?_, ?_, ?_⟩, ?_, ?_, d.ne, ?_, d.sm, ?_, d2.sl⟩
  · rw [Array.toList_push, xs_cons]; exact nat_snoc vi
  · have : ((((⟨y, 0, m, it⟩ : Ent4) :: T).map fun e => Value.ref e.m).reverse).toArray = ((T.map fun e => Value.ref e.m).reverse).toArray.push (.ref m) := by simp
    rw [this]
    obtain ⟨n, q⟩ := l4
    exact ⟨n, keep _ _ (ne_cls (h := h4) ⟨_, q, rfl⟩ cd4 (by decide)) (Ne.symm d.ne) q⟩
  · obtain ⟨n, ⟨o, es, ep, tt, q, hex, r⟩, z⟩ := d3.s3
    have q4 := (b4.2 _ (ne_cls d3.cc d3.cb (by decide))).trans q
    exact ⟨n, ⟨o, es, ep, tt, keep _ _ (ne_cls (h := h4) ⟨_, q4, hex.1⟩ cd4 (by decide)) (ne_cls (h := h4) ⟨_, q4, hex.1⟩ ca4 (by decide)) q4, hex, r⟩, z⟩
  · refine k8.at fun o z => (b10.2 _ ?_).trans (e9 _ _ z)
    exact ne_cls cd4 ca4 (by decide)
  · rw [List.map_append, kk, xs_cons, nI_app]; rfl
  · rw [List.map_append, List.length_cons, List.range_succ, nI_app]
    exact ki.append (.cons _ tl .nil)
  · intro e he
    rcases List.mem_cons.mp he with rfl | he
    · exact ⟨keep _ _ (ne_cls (h := h4) ⟨_, mw4, rfl⟩ cd4 (by decide)) (ne_cls (h := h4) ⟨_, mw4, rfl⟩ ca4 (by decide)) mw4, keep _ _ (ne_cls (h := h4) ⟨_, li4, rfl⟩ cd4 (by decide)) (ne_cls (h := h4) ⟨_, li4, rfl⟩ ca4 (by decide)) li4, hy⟩
    · obtain ⟨q1, q2, q3⟩ := d3.en e he
      have r1 := (b4.2 _ (ne_cls (d3.cm he) d3.cb (by decide))).trans q1
      have r2 := (b4.2 _ (ne_cls (d3.ci he) d3.cb (by decide))).trans q2
      exact ⟨keep _ _ (ne_cls (h := h4) ⟨_, r1, rfl⟩ cd4 (by decide)) (ne_cls (h := h4) ⟨_, r1, rfl⟩ ca4 (by decide)) r1, keep _ _ (ne_cls (h := h4) ⟨_, r2, rfl⟩ cd4 (by decide)) (ne_cls (h := h4) ⟨_, r2, rfl⟩ ca4 (by decide)) r2, q3⟩
  · rw [List.map_cons, List.nodup_cons]
    refine ⟨fun q => ?_, d.nd⟩
    obtain ⟨e, he, q'⟩ := List.mem_map.mp q
    have := (d2.en e he).2.1
    rw [q', nit] at this; cases this
  · intro b hb
    cases hb with
    | a => exact d.ow _ .a
    | b => exact d.ow _ .b
    | c => exact d.ow _ .c
    | d => exact d.ow _ .d
    | m e he =>
      rcases List.mem_cons.mp he with rfl | he
      · exact off_new _ _ nm hm
      · exact d.ow _ (.m e he)
    | it e he =>
      rcases List.mem_cons.mp he with rfl | he
      · exact off_new _ _ nit hit
      · exact d.ow _ (.it e he)
  · intro z hz
    rw [xs_cons] at hz
    rcases List.mem_append.mp hz with q | q
    · exact List.mem_cons_of_mem _ (d.su z q)
    · rw [List.mem_singleton.mp q]; exact List.mem_cons_self
end
end Mine

end

section
open PySem PySem.W PyProof.Rows PySem.SeqAt
set_option Elab.async false
set_option linter.all false
set_option autoImplicit false
namespace Mine
section
variable {w : World} {G : List (Str × Value)} {k : Nat} {A : Around} {E : Value → Shared → Prop} {s : Shared} {g : Geo} {σ : Sta} {hE h0 h h' : Heap} {outer : List Env} {env : Env} {ρ : Locs} {D : Dd} {sn : List Nat} {T : List Ent4}
theorem Amb.but {x : Addr} (C : Cx w G g σ hE h0 outer env) (a : Amb w g σ hE h0 outer env h ρ) (b : Heap.ExtBut x h h') (hD : hE.get? x = none) (oD : Off env x) : Amb w g σ hE h0 outer env h' ρ := by
  have nm : ∀ y, Mem g σ y → y ≠ x := fun y m q => by obtain ⟨o, ho⟩ := C.SE.at m; rw [q, hD] at ho; cases ho
  refine ⟨a.fm.chgV (S := fun y => y = x) a.pin (fun y o n q => b y o n q) (fun y q => by rw [q]; exact oD) (fun y q => by rw [q]; exact C.h0E _ hD), a.srt.keep fun y o m q => b y o (nm y m) q, fun v hv => ?_, ⟨fun y o n1 n2 q => ?_, fun y o n1 q => ?_⟩, a.pin⟩
  · obtain ⟨q1, L, m, q2, q3⟩ := a.frs v hv
    refine ⟨q1, L, m, q2, q3.extBut b ?_⟩
    rcases List.mem_cons.mp hv with rfl | hv
    · rw [C.fr] at q2; cases q2; exact fun q => oD.l q.symm
    · obtain ⟨_, L', m', q4, o, es, ep, q5, _⟩ := C.FE v hv
      rw [q2] at q4; cases q4
      rintro rfl; rw [hD] at q5; cases q5
  · exact b y o (by rintro rfl; rw [hD] at q; cases q) (a.slt.out y o n1 n2 q)
  · obtain ⟨sl, z⟩ := a.slt.fr y o n1 q
    exact ⟨sl, b y _ (by rintro rfl; rw [hD] at q; cases q) z⟩
/-- xs[-1], the value itself -/
theorem ev_lastV {v sl : Expr} {pos : Pos} {L : Addr} {ys : Array Value} {y : Value} (hv : EvP pw w k env h v (IsV (.ref L))) (hi : EvD pw w k env h sl (.int (-1))) (hl : h.PlainList L (ys.push y))
    (hs : ∀ a u, subscripted sl false (.ref a) (.int (-1) u) = operate [.ref a, .int (-1) u] (getItem (.ref a) (.int (-1) u)) := by intro _ _; with_unfolding_all rfl) :
    EvP pw w k env h (.Subscript v sl pos) (IsV y) := fun A s E Q rm hx hq =>
  Subscript_ (hv A s E _ rm hx fun o h1 t1 e1 p1 => hi A _ E _ rm (hx.trans e1) fun iv h2 t2 e2 p2 => by
    obtain ⟨t, rfl⟩ := p2.inv_int
    cases (p1 : o = _)
    have hl2 : h2.IsList L (ys.push y) := isList_ext hl.isList (hx.trans (e1.trans e2))
    have hsz : (ys.push y).size = ys.size + 1 := by simp
    exact tail_any (s := { s with heap := h2, toks := t2 }) hl2.typeIs slot_list_getitem.lookup (wpAny_getItem_list_neg hl2 (by decide) (by rw [hsz]; omega) (by decide) (by
      have e : ((-1 : Int) + ((ys.push y).size : Int)).toNat = ys.size := by rw [hsz]; omega
      rw [e]; simp) (hq _ _ _ (e1.trans e2) rfl)) (hs _ _))
theorem callWith_mw {pos : Pos} {m it : Addr} {Q : Value → Shared → Prop} (hm : s.heap.get? m = some (mwObj it)) (h : wpAny (model pw w) A (call (.ref m) []) Q E s) : wpAny (model pw w) A (callWith pos (.ref m) [] [] []) Q E s := by
  unfold callWith
  refine wpAny_bind (wpAny_holding (PySem.evalArgs_none (wpAny_bind (wpAny_standAt ?_))))
  simp only [List.any_nil, Bool.or_false]
  refine wpAny_bind (m := keeperOf (.ref m)) ?_
  unfold keeperOf
  refine wpAny_bind (wpAny_load hm ?_)
  simp only [mwObj, show (Value.type "method-wrapper" != Value.type "method") = true by decide, show (Value.type "method-wrapper" == Value.type "builtin_function_or_method" || Value.type "method-wrapper" == Value.type "method-wrapper") = true by decide, if_true]
  refine wpAny_pure ?_
  exact wpAny_bind (wpAny_mono h (fun r s₂ hr => wpAny_bind (wpAny_holding (wpAny_point (wpAny_pure hr)))) fun _ _ x => x)
theorem without_last {kvs : List (Int × Value)} {i : Int} {v : Value} (h : ((kvs ++ [(i, v)]).map (·.1)).Nodup) : without (kvs ++ [(i, v)]) i = kvs := by
  unfold without
  rw [List.map_append, List.nodup_append] at h
  rw [List.filter_append]
  have : ([(i, v)].filter fun kv : Int × Value => decide (kv.1 ≠ i)) = [] := by simp
  rw [this, List.append_nil, List.filter_eq_self]
  intro a ha
  simp only [decide_eq_true_eq]
  exact h.2.2 a.1 (List.mem_map.mpr ⟨a, ha, rfl⟩) i (by simp)
theorem valueAt_last {kvs : List (Int × Value)} {i : Int} {v : Value} (h : ((kvs ++ [(i, v)]).map (·.1)).Nodup) : valueAt (kvs ++ [(i, v)]) i = some v :=
  valueAt_of_get (i := kvs.length) h (by simp)
theorem split_last {α : Type} {l : List α} {n : Nat} (h : l.length = n + 1) : ∃ r a, l = r ++ [a] ∧ r.length = n := by
  have hne : l ≠ [] := by intro q; rw [q] at h; simp at h
  exact ⟨l.dropLast, l.getLast hne, (List.dropLast_concat_getLast hne).symm, by simp [h]⟩
theorem nD_last {kvs : List (Int × Value)} {p : Int × Value} {l : List Nat} {x : Nat} (h : (kvs ++ [p]).map (·.1) = nI (l ++ [x])) : kvs.map (·.1) = nI l ∧ p.1 = (x : Int) := by
  rw [List.map_append, nI_app] at h
  have := List.append_inj' h (by simp [nI])
  exact ⟨this.1, by simpa [nI] using this.2⟩
/-- the inner loop -/
theorem inner_run {Q : Flow → Shared → Prop} {v : Value} (rm : Room k A) (C : Cx w G g σ hE h0 outer env) (hfr : A.frames = some (env :: outer)) (a : AmbN w g σ hE h0 outer env D s.heap v) (d : Dst w g σ hE env D s.heap sn T)
    (h1 : popS σ.su (qOf T) = none → ∀ h' tk v', AmbN w g σ hE h0 outer env D h' v' → Dst w g σ hE env D h' sn [] → Q .brk { s with heap := h', toks := tk })
    (h2 : ∀ y q', popS σ.su (qOf T) = some (y, q') → ∀ h' tk t T', AmbN w g σ hE h0 outer env D h' (.int (y : Nat) t) → Dst w g σ hE env D h' sn T' → qOf T' = q' → y < σ.n → Q .next { s with heap := h', toks := tk }) :
    wpAny (model pw w) A (execs inB env) Q E s := by
  have kd : ∀ x, env.kindOf x = (defScope (sortC.drop 8)).names.lookup x := fun x => by rw [Env.kindOf, C.sc]
  have n9 := C.n9
  refine wp_while (I := fun n h => ∃ T' v', T'.length = n ∧ AmbN w g σ hE h0 outer env D h v' ∧ Dst w g σ hE env D h sn T' ∧ popS σ.su (qOf T') = popS σ.su (qOf T)) T.length ⟨T, v, rfl, a, d, rfl⟩ ?_
  rintro n h tk E' Q' ⟨T', v', rfl, a, d, hp⟩ cont
  have dl := d.len
  obtain ⟨vs, hvs, hvi⟩ := d.l1
  have vlen : vs.size = T'.length := by have := hvi.length; rw [nI_len, xs_len] at this; simpa using this
  refine wpAny_isTrue_value (EvP.run (s := { s with heap := h, toks := tk }) (ev_pin a.fm (x := "stack") rfl) rm fun u h3 t3 e3 q3 => ?_) rfl
  cases (q3 : u = _)
  refine wpAny_truthy_list (s := { s with heap := h3, toks := t3 }) (isList_ext hvs.isList e3) (by rw [vlen]; omega) ?_
  have a3 := a.ext C e3
  have d3 := d.ext e3
  refine cont _ h3 (t3 + 1 + 1) (fun hb E'' Q'' cont2 => ?_) (fun hb E'' Q'' cont2 => ?_)
  · -- the stack holds something
    cases T' with
    | nil => simp at vlen; simp [vlen] at hb
    | cons e T1 =>
    obtain ⟨hem, hei, hex⟩ := d3.en e List.mem_cons_self
    obtain ⟨ws, hws, hwi⟩ := a3.srt.suc e.x hex
    have l2 := d3.l2
    have l2e : ((((e :: T1).map fun e => Value.ref e.m).reverse).toArray) = ((T1.map fun e => Value.ref e.m).reverse).toArray.push (.ref e.m) := by simp
    rw [l2e] at l2
    refine wp_try hfr C.fr fun EX hEX => ?_
    refine wpAny_execs_cons (wpAny_Assign_Name (Call_ (EvP.run (s := { s with heap := h3, toks := t3 + 1 + 1 }) (ev_lastV (ev_pin a3.fm rfl) (ev_neg ev_int) l2) rm fun u h4 t4 e4 q4 => ?_)))
    cases (q4 : u = _)
    have hem4 := e4 _ _ hem
    refine callWith_mw (s := { s with heap := h4, toks := t4 }) hem4 (wpAny_call (mw_run (s := { s with heap := h4, toks := t4 }) hem4 ?_))
    have a4 := a3.ext C e4
    have d4 := d3.ext e4
    have hei4 := e4 _ _ hei
    have hws4 := isList_ext hws.isList e4
    have oi := d.ow _ (.it e List.mem_cons_self)
    cases hk : (σ.su e.x)[e.k]? with
    | some y =>
      have hyn : y < σ.n := (C.sb e.x hex).2 y (List.mem_of_getElem? hk)
      have wk : ∃ ty, ws[e.k]? = some (.int (y : Nat) ty) := by
        have hlt : e.k < ws.size := by
          have l1 := hwi.length
          rw [nI_len] at l1
          have := (List.getElem?_eq_some_iff.mp hk).1
          simp at l1; omega
        have q1 : ws.toList[e.k]? = some ws[e.k] := by simp [hlt]
        obtain ⟨i, ty, q2, q3⟩ := ints_get hwi q1
        obtain ⟨n', q4, q5⟩ := nI_get q2
        rw [hk] at q4; cases q4
        exact ⟨ty, by simp [hlt, q3, q5]⟩
      obtain ⟨ty, wk⟩ := wk
      refine li_item (s := { s with heap := h4, toks := t4 }) hei4 hws4 wk fun h5 i5 b5 => ?_
      have a5 := a4.same C b5 oi.1 oi.2
      refine Fm.store (s := { s with heap := h5, toks := t4 }) (p := prV (.int (y : Nat) ty)) (Amb.drop a5 rfl).fm (.inl (kd _)) rfl fun h6 t6 F6 pr6 of6 => ?_
      have a6 := (Amb.drop a5 rfl).put C F6 of6
      have d6 : Dst w g σ hE env D h6 sn ({ e with k := e.k + 1 } :: T1) := by
        have kp : ∀ b o, b ≠ e.it → DOwn D (e :: T1) b → h4.get? b = some o → h6.get? b = some o := fun b o nb m q => of6 b o (d.ow b m).2.l (d.ow b m).2.c ((b5.2 b nb).trans q)
        have ci := d4.ci (List.mem_cons_self (a := e) (l := T1))
        refine ⟨?_, ?_, ?_, ?_, ?_, d4.nd, d4.ne, ?_, d4.sm, d4.su, d4.sl⟩
        · obtain ⟨vs, ⟨n, q⟩, r⟩ := d4.l1; exact ⟨vs, ⟨n, kp _ _ (ne_cls d4.ca ci (by decide)) .a q⟩, r⟩
        · obtain ⟨n, q⟩ := d4.l2; exact ⟨n, kp _ _ (ne_cls d4.cb ci (by decide)) .b q⟩
        · obtain ⟨n, ⟨o, es, ep, tt, q, r⟩, z⟩ := d4.s3; exact ⟨n, ⟨o, es, ep, tt, kp _ _ (ne_cls d4.cc ci (by decide)) .c q, r⟩, z⟩
        · obtain ⟨kvs, q, r⟩ := d4.d4; exact ⟨kvs, q.at fun o z => kp _ _ (ne_cls d4.cd ci (by decide)) .d z, r⟩
        · intro e' he'
          rcases List.mem_cons.mp he' with rfl | he'
          · exact ⟨kp _ _ (ne_cls (d4.cm (e := e) List.mem_cons_self) ci (by decide)) (.m e List.mem_cons_self) hem4, of6 _ _ oi.2.l oi.2.c i5, hex⟩
          · obtain ⟨q1, q2, q3⟩ := d4.en e' (List.mem_cons_of_mem _ he')
            refine ⟨kp _ _ (ne_cls (d4.cm (List.mem_cons_of_mem _ he')) ci (by decide)) (.m e' (List.mem_cons_of_mem _ he')) q1, kp _ _ (fun q => ?_) (.it e' (List.mem_cons_of_mem _ he')) q2, q3⟩
            have := d4.nd
            rw [List.map_cons, List.nodup_cons] at this
            exact this.1 (List.mem_map.mpr ⟨e', he', q⟩)
        · intro b hb
          refine d.ow b ?_
          cases hb with
          | a => exact .a
          | b => exact .b
          | c => exact .c
          | d => exact .d
          | m e' he' =>
            rcases List.mem_cons.mp he' with rfl | he'
            · exact DOwn.m e List.mem_cons_self
            · exact .m e' (List.mem_cons_of_mem _ he')
          | it e' he' =>
            rcases List.mem_cons.mp he' with rfl | he'
            · exact DOwn.it e List.mem_cons_self
            · exact .it e' (List.mem_cons_of_mem _ he')
      refine wpAny_execs_cons (wpAny_Break ?_)
      refine cont2 _ _ _ (fun q => by rcases q with q | q <;> cases q) (fun _ => wp_nil ?_) (fun v q => by cases q)
      refine h2 y ((e.x, e.k + 1) :: qOf T1) ?_ h6 t6 ty _ a6 d6 rfl hyn
      rw [← hp]
      simp only [qOf, List.map_cons, popS, hk]
    | none =>
      have wk : ws[e.k]? = none := by
        have l1 := hwi.length
        rw [nI_len] at l1
        have := List.getElem?_eq_none_iff.mp hk
        simp at l1 ⊢; omega
      refine li_stop (s := { s with heap := h4, toks := t4 }) rm.handled hei4 hws4 wk fun ea t0 wws h5 x5 he5 ne5 => ?_
      have a5 := a4.but C x5 oi.1 oi.2
      have neE : hE.get? ea = none := by
        cases z : hE.get? ea with
        | none => rfl
        | some o =>
          by_cases f : isFr outer ea
          · obtain ⟨sl, z'⟩ := a4.slt.fr ea o f z; rw [ne5] at z'; cases z'
          · have := a4.slt.out ea o f (by simp) z; rw [ne5] at this; cases this
      refine hEX _ _ ⟨ea, t0, wws, rfl, he5, a5.frs, fun h6 S6 => ?_⟩
      have a6 := a5.note C S6 he5 neE
      refine ⟨has_b (C.BH.glo.ext a6.fm.base) (by decide) (by kernel_rfl) a6.fm.kind (kd _) C.gl C.bu, fun E3 => ?_⟩
      have kp : ∀ b o, b ≠ e.it → DOwn D (e :: T1) b → h4.get? b = some o → h6.get? b = some o := fun b o nb m q => by
        refine S6.out b o (fun z => ?_) (fun z => ?_) (x5 b o nb q)
        · rcases (isFr_cons C.fr).mp z with z | z
          · exact (d.ow b m).2.l z
          · obtain ⟨mm, oo, es, ep, q1, _⟩ := isFr_at C.FE z
            rw [(d.ow b m).1] at q1; cases q1
        · cases z; rw [ne5] at q; cases q
      have ci := d4.ci (List.mem_cons_self (a := e) (l := T1))
      -- pieces
      obtain ⟨vs4, ⟨nv, qv⟩, rv⟩ := d4.l1
      rw [xs_cons, nI_app] at rv
      obtain ⟨us, tx, vse, usi⟩ := ints_split rv
      have v6 : h6.PlainList D.a (us.toArray.push (.int (e.x : Nat) tx)) := by
        have : vs4 = us.toArray.push (.int (e.x : Nat) tx) := by apply Array.ext'; rw [vse]; simp
        rw [← this]; exact ⟨nv, kp _ _ (ne_cls d4.ca ci (by decide)) .a qv⟩
      obtain ⟨kvs, qk, kk, ki⟩ := d4.d4
      have klen : kvs.length = T1.length + 1 := by have := congrArg List.length kk; rw [List.length_map, nI_len, xs_len] at this; exact this
      obtain ⟨kr, pl, rfl, krl⟩ := split_last klen
      rw [xs_cons] at kk
      obtain ⟨kk1, kk2⟩ := nD_last kk
      obtain ⟨p1, p2⟩ := pl
      simp only at kk2
      subst kk2
      have knd' : ((kr ++ [((e.x : Int), p2)]).map (·.1)).Nodup := by obtain ⟨o, es, ep, _, _, _, _, _, hn⟩ := qk; exact hn
      have k6 : h6.DictOf (knd w) D.d (kr ++ [((e.x : Int), p2)]) := qk.at fun o z => kp _ _ (ne_cls d4.cd ci (by decide)) .d z
      obtain ⟨vst, hst, rfl⟩ := a6.fm.has (prog := pw) (w := w) (x := "stack") (p := prV (.ref D.a)) rfl
      obtain ⟨vdi, hdi, rfl⟩ := a6.fm.has (prog := pw) (w := w) (x := "node2stacki") (p := prV (.ref D.d)) rfl
      have usl : us.length = T1.length := by have := usi.length; rw [nI_len, xs_len] at this; exact this
      have dlx : T1.length + 1 ≤ σ.n := by have := dl.2; simpa using this
      refine del_run (s := { s with heap := h6, toks := t4 }) hst hdi v6 (by simp [sizeLine]; omega) k6 (by simp [sizeLine]; omega) (by rw [valueAt_last knd']; rfl) fun h7 h8 t8 l7 b7 k8 b8 => ?_
      rw [without_last knd'] at k8
      have a7 := a6.same C b7 (d.ow _ .a).1 (d.ow _ .a).2
      have a8 := a7.same C b8 (d.ow _ .d).1 (d.ow _ .d).2
      obtain ⟨n2, q2⟩ := l2
      have r6 := kp _ _ (ne_cls d4.cb ci (by decide)) .b (e4 _ _ q2)
      have ca6 : ClsAt' h6 D.a "list" := let ⟨n, q⟩ := v6; ⟨_, q, rfl⟩
      have cd6 : ClsAt' h6 D.d "dict" := let ⟨o, es, ep, q, hex, _⟩ := k6; ⟨_, q, hex.1⟩
      have kp8 : ∀ b o, b ≠ D.a → b ≠ D.d → h6.get? b = some o → h8.get? b = some o := fun b o n1 n2 q => (b8.2 b n2).trans ((b7.2 b n1).trans q)
      have r8 := kp8 _ _ (Ne.symm d.ne) (ne_cls (h := h6) ⟨_, r6, rfl⟩ cd6 (by decide)) r6
      obtain ⟨vit, hit, rfl⟩ := a8.fm.has (prog := pw) (w := w) (x := "itstack") (p := prV (.ref D.b)) rfl
      refine drop_run (s := { s with heap := h8, toks := t8 }) a8.fm.kind hit ⟨n2, r8⟩ (by simp [sizeLine]; omega) fun h9 l9 b9 => wp_nil (wp_nil ?_)
      have a9 := a8.same C b9 (d.ow _ .b).1 (d.ow _ .b).2
      have cb8 : ClsAt' h8 D.b "list" := ⟨_, r8, rfl⟩
      have kp9 : ∀ b o, b ≠ D.a → b ≠ D.d → b ≠ D.b → h6.get? b = some o → h9.get? b = some o := fun b o n1 n2 n3 q => (b9.2 b n3).trans (kp8 b o n1 n2 q)
      have cb6 : ClsAt' h6 D.b "list" := ⟨_, r6, rfl⟩
      have d9 : Dst w g σ hE env D h9 sn T1 := by
        refine ⟨⟨us.toArray, ?_, by simpa using usi⟩, l9, ?_, ⟨kr, ?_, kk1, ?_⟩, ?_, ?_, d.ne, ?_, d.sm, ?_, d.sl⟩
        · obtain ⟨n, q⟩ := l7
          have ca7 : ClsAt' h7 D.a "list" := ⟨_, q, rfl⟩
          have cd7 : ClsAt' h7 D.d "dict" := let ⟨o, q1, q2⟩ := cd6; ⟨o, (b7.2 _ (ne_cls cd6 ca6 (by decide))).trans q1, q2⟩
          exact ⟨n, (b9.2 _ d.ne).trans ((b8.2 _ (ne_cls ca7 cd7 (by decide))).trans q)⟩
        · obtain ⟨n, ⟨o, es, ep, tt, q, hex, r⟩, z⟩ := d4.s3
          have q6 := kp _ _ (ne_cls d4.cc ci (by decide)) .c q
          have c6 : ClsAt' h6 D.c "set" := ⟨_, q6, hex.1⟩
          exact ⟨n, ⟨o, es, ep, tt, kp9 _ _ (ne_cls c6 ca6 (by decide)) (ne_cls c6 cd6 (by decide)) (ne_cls c6 cb6 (by decide)) q6, hex, r⟩, z⟩
        · exact k8.at fun o z => (b9.2 _ (ne_cls cd6 cb6 (by decide))).trans z
        · rw [List.map_append, List.length_cons, List.range_succ, nI_app] at ki
          obtain ⟨us', t', e1, i1⟩ := ints_split ki
          have := List.append_inj' e1 (by simp)
          rw [this.1]; exact i1
        · intro e' he'
          obtain ⟨q1, q2, q3⟩ := d4.en e' (List.mem_cons_of_mem _ he')
          have r1 := kp _ _ (ne_cls (d4.cm (List.mem_cons_of_mem _ he')) ci (by decide)) (.m e' (List.mem_cons_of_mem _ he')) q1
          have r2 := kp _ _ (fun q => by
            have := d4.nd
            rw [List.map_cons, List.nodup_cons] at this
            exact this.1 (List.mem_map.mpr ⟨e', he', q⟩)) (.it e' (List.mem_cons_of_mem _ he')) q2
          have c1 : ClsAt' h6 e'.m "method-wrapper" := ⟨_, r1, rfl⟩
          have c2 : ClsAt' h6 e'.it "list_iterator" := ⟨_, r2, rfl⟩
          exact ⟨kp9 _ _ (ne_cls c1 ca6 (by decide)) (ne_cls c1 cd6 (by decide)) (ne_cls c1 cb6 (by decide)) r1, kp9 _ _ (ne_cls c2 ca6 (by decide)) (ne_cls c2 cd6 (by decide)) (ne_cls c2 cb6 (by decide)) r2, q3⟩
        · have := d4.nd
          rw [List.map_cons, List.nodup_cons] at this
          exact this.2
        · intro b hb
          refine d.ow b ?_
          cases hb with
          | a => exact .a
          | b => exact .b
          | c => exact .c
          | d => exact .d
          | m e' he' => exact .m e' (List.mem_cons_of_mem _ he')
          | it e' he' => exact .it e' (List.mem_cons_of_mem _ he')
        · intro z hz
          exact d.su z (by rw [xs_cons]; exact List.mem_append_left _ hz)
      refine cont2 _ _ _ (fun _ => ⟨T1.length, by simp, T1, v', rfl, a9, d9, ?_⟩) (fun q => by cases q) (fun v q => by cases q)
      rw [← hp]
      simp only [qOf, List.map_cons, popS, hk]
  · cases T' with
    | cons e T1 =>
      have : vs ≠ #[] := by intro q; rw [q] at vlen; simp at vlen
      simp [this] at hb
    | nil =>
      refine wpAny_execs_cons (wpAny_Break (cont2 _ _ ?_))
      refine h1 (by rw [← hp]; rfl) h3 (t3 + 1 + 1) v' a3 d3
end
end Mine

end

section
open PySem PySem.W PyProof.Rows PySem.SeqAt
set_option Elab.async false
set_option linter.all false
set_option autoImplicit false
namespace Mine
section
variable {w : World} {G : List (Str × Value)} {k : Nat} {A : Around} {E : Value → Shared → Prop} {s : Shared} {g : Geo} {σ : Sta} {hE h0 h h' : Heap} {outer : List Env} {env : Env} {ρ : Locs} {D : Dd} {sn : List Nat} {T : List Ent4}
/-- d[e] of a dict told by its pairs -/
theorem ev_at {o e : Expr} {pos : Pos} {d : Addr} {i : Int} {v : Value} {kvs : List (Int × Value)} (hD : h.DictOf (knd w) d kvs) (hv : valueAt kvs i = some v) (ho : EvP pw w k env h o (IsV (.ref d))) (he : EvD pw w k env h e (.int i))
    (hs : ∀ u, subscripted e false (.ref d) (.int i u) = operate [.ref d, .int i u] (getItem (.ref d) (.int i u)) := by intro _; with_unfolding_all rfl) :
    EvP pw w k env h (.Subscript o e pos) (IsV v) := fun A s E Q rm hx hq =>
  Subscript_ (ho A s E _ rm hx fun u h1 t1 e1 p1 => he A _ E _ rm (hx.trans e1) fun iv h2 t2 e2 p2 => by
    cases (p1 : u = _)
    obtain ⟨t, rfl⟩ := p2.inv_int
    have D2 : h2.DictOf (knd w) d kvs := hD.at fun o q => e2 _ _ (e1 _ _ (hx _ _ q))
    refine tail_any (s := { s with heap := h2, toks := t2 }) D2.typeIs slot_dict_getitem.lookup ?_ (hs _)
    exact wpAny_getItem_of (knd := knd w) (k := i) (intKind_is _ _ _ _) D2.mapOf hv (hq _ _ _ (e1.trans e2) rfl))
theorem nD_app (a b : List Nat) : nD (a ++ b) = nD a ++ nD b := by simp [nD]
theorem nD_drop (l : List Nat) (n : Nat) : nD (l.drop n) = (nD l).drop n := by simp [nD, List.map_drop]
theorem Dst.stackD (d : Dst w g σ hE env D h sn T) : Rd h (.ref D.a) (.list (nD (xs T))) := by
  obtain ⟨vs, q, r⟩ := d.l1
  rw [← nD_eq]; exact Rd.list q.isList (of_ints r)
theorem Dst.idx (d : Dst w g σ hE env D h sn T) {y : Nat} : ∃ kvs, h.DictOf (knd w) D.d kvs ∧ (valueAt kvs (y : Int)).isSome = decide (y ∈ xs T) ∧ (y ∈ xs T → ∃ t, valueAt kvs (y : Int) = some (.int ((xs T).idxOf y : Nat) t)) := by
  obtain ⟨kvs, q, kk, ki⟩ := d.d4
  have hn : (kvs.map (·.1)).Nodup := by obtain ⟨o, es, ep, _, _, _, _, _, hn⟩ := q; exact hn
  have hit : y ∈ xs T → ∃ t, valueAt kvs (y : Int) = some (.int ((xs T).idxOf y : Nat) t) := fun hy => by
    have hlt := List.idxOf_lt_length_iff.mpr hy
    have klen : kvs.length = (xs T).length := by have := congrArg List.length kk; rw [List.length_map, nI_len] at this; exact this
    have e1 : kvs[(xs T).idxOf y]? = some kvs[(xs T).idxOf y] := by simp [klen, hlt]
    have e2 : (kvs.map (·.1))[(xs T).idxOf y]? = some (y : Int) := by rw [kk, nI, List.getElem?_map, idxOf_get hy]; rfl
    have e3 : (kvs[(xs T).idxOf y]).1 = (y : Int) := by
      rw [List.getElem?_map, e1] at e2; exact Option.some.inj e2
    have e4 : (kvs.map (·.2))[(xs T).idxOf y]? = some (kvs[(xs T).idxOf y]).2 := by rw [List.getElem?_map, e1]; rfl
    obtain ⟨i, t, q1, q2⟩ := ints_get ki e4
    obtain ⟨n, q3, q4⟩ := nI_get q1
    rw [xs_len] at hlt
    rw [List.getElem?_range hlt] at q3
    cases q3
    refine ⟨t, valueAt_of_get (i := (xs T).idxOf y) hn ?_⟩
    rw [e1, ← e3, ← q4, ← q2]
  refine ⟨kvs, q, ?_, hit⟩
  by_cases hy : y ∈ xs T
  · obtain ⟨t, z⟩ := hit hy
    simp [z, hy]
  · have : valueAt kvs (y : Int) = none := by
      unfold valueAt
      rw [Option.map_eq_none_iff, List.find?_eq_none]
      intro p hp
      simp only [decide_eq_true_eq]
      intro z
      have : p.1 ∈ nI (xs T) := by rw [← kk]; exact List.mem_map.mpr ⟨p, hp, rfl⟩
      rw [z, nI_mem] at this
      exact hy this
    simp [this, hy]
/-- while True -/
theorem vis_run {Q : Flow → Shared → Prop} {y f : Nat} {t : Tok} {res : Option (List Nat) × List Nat} (rm : Room k A) (C : Cx w G g σ hE h0 outer env) (hfr : A.frames = some (env :: outer)) (a : AmbN w g σ hE h0 outer env D s.heap (.int (y : Nat) t)) (d : Dst w g σ hE env D s.heap sn T) (hy : y < σ.n)
    (hv : visD σ.su f sn (qOf T) y = some res)
    (h1 : ∀ r, res.1 = some r → ∀ h' tk v v', AmbN w g σ hE h0 outer env D h' v' → Rd h' v (.list (nD r)) → Q (.ret v) { s with heap := h', toks := tk })
    (h2 : res.1 = none → ∀ h' tk v', AmbN w g σ hE h0 outer env D h' v' → Dst w g σ hE env D h' res.2 [] → Q .next { s with heap := h', toks := tk }) :
    wpAny (model pw w) A (execs (forB.drop 1) env) Q E s := by
  have kd : ∀ x, env.kindOf x = (defScope (sortC.drop 8)).names.lookup x := fun x => by rw [Env.kindOf, C.sc]
  have n9 := C.n9
  refine wp_while (I := fun n h => ∃ sn T y t, AmbN w g σ hE h0 outer env D h (.int (y : Nat) t) ∧ Dst w g σ hE env D h sn T ∧ y < σ.n ∧ visD σ.su n sn (qOf T) y = some res) f ⟨sn, T, y, t, a, d, hy, hv⟩ ?_
  clear a d hy hv
  rintro n h tk E' Q' ⟨sn, T, y, t, a, d, hy, hv⟩ cont
  refine Ts.run (s := { s with heap := h, toks := tk }) (ts_bool (b := true) ev_true) rm fun h3 t3 e3 => ?_
  have a3 := a.ext C e3
  have d3 := d.ext e3
  refine cont _ h3 t3 (fun _ E'' Q'' cont2 => ?_) (fun q => by cases q)
  cases n with
  | zero => simp [visD] at hv
  | succ n =>
  rw [visD] at hv
  obtain ⟨n3, hS, hl⟩ := d3.s3
  -- behind the parting
  have tail : ∀ (sn' : List Nat) (T' : List Ent4) (hh : Heap) (tt : Nat), AmbN w g σ hE h0 outer env D hh (.int (y : Nat) t) → Dst w g σ hE env D hh sn' T' → (match popS σ.su (qOf T') with | none => some (none, sn') | some (z, q'') => visD σ.su n sn' q'' z) = some res →
      wpAny (model pw w) A (execs inB env) Q'' E'' { s with heap := hh, toks := tt } := fun sn' T' hh tt a' d' hr => by
    refine inner_run (s := { s with heap := hh, toks := tt }) rm C hfr a' d' (fun hp h' tk' v' a'' d'' => ?_) (fun z q' hp h' tk' t' T'' a'' d'' hq hz => ?_)
    · rw [hp] at hr
      have hr := Option.some.inj hr
      refine cont2 _ _ _ (fun q => by rcases q with q | q <;> cases q) (fun _ => wp_nil (h2 (by rw [← hr]) h' tk' v' a'' (by rw [← hr]; exact d''))) (fun v q => by cases q)
    · rw [hp] at hr
      refine cont2 _ _ _ (fun _ => ⟨n, Nat.lt_succ_self n, sn', T'', z, t', a'', d'', hz, by rw [hq]; exact hr⟩) (fun q => by cases q) (fun v q => by cases q)
  have xq : ∀ z, z ∈ (qOf T).map (·.1) ↔ z ∈ xs T := fun z => by rw [xs_q]; simp
  refine wp_if (s := { s with heap := h3, toks := t3 }) rm (ts_cmp (ev_pinI a3.fm (x := "node") rfl) (ev_pin a3.fm (x := "seen") rfl) isD_mono (cmp_inSet hS)) (fun hb h4 t4 e4 => ?_) (fun hb h4 t4 e4 => ?_)
  · -- seen
    have hys : y ∈ sn := nI_mem.mp (of_decide_eq_true hb)
    have a4 := a3.ext C e4
    have d4 := d3.ext e4
    obtain ⟨kvs, hk, hkb, hki⟩ := d4.idx (y := y)
    refine wp_if (s := { s with heap := h4, toks := t4 }) rm (ts_cmp (ev_pinI a4.fm (x := "node") rfl) (ev_pin a4.fm (x := "node2stacki") rfl) isD_mono (cmp_inDict hk d.sm)) (fun hb2 h5 t5 e5 => ?_) (fun hb2 h5 t5 e5 => wp_nil (wp_nil ?_))
    · rw [hkb] at hb2
      have hyx : y ∈ xs T := of_decide_eq_true hb2
      rw [if_pos ⟨hys, (xq y).mpr hyx⟩] at hv
      have hr := Option.some.inj hv
      obtain ⟨ti, hvi⟩ := hki hyx
      have a5 := a4.ext C e5
      have d5 := d4.ext e5
      have hk5 : h5.DictOf (knd w) D.d kvs := hk.at fun o q => e5 _ _ q
      have dl := d.len
      have hxl := xs_len T
      have hidx := List.idxOf_lt_length_iff.mpr hyx
      refine wp_ret (s := { s with heap := h5, toks := t5 }) (P := IsD (.list (nD (ringQ (qOf T) y)))) rm ?_ fun v h6 t6 e6 p6 => ?_
      · have e : nD (ringQ (qOf T) y) = (nD (xs T)).drop ((xs T).idxOf y) ++ [.int (y : Nat)] := by
          rw [ringQ, nD_app, ← xs_q, nD_drop]; rfl
        rw [e]
        refine ev_addL (ev_from (a := (xs T).idxOf y) ((ev_pin a5.fm rfl).mono fun v h' e (q : v = _) => by rw [q]; exact d5.stackD.ext e) ((ev_at hk5 hvi (ev_pin a5.fm rfl) (ev_pinI a5.fm rfl)).mono fun v h' e (q : v = _) => by rw [q]; exact Rd.int) ?_ ?_) (ev_list (eva_cons (ev_pinI a5.fm rfl) eva_nil)) ?_
        · simp [nD, sizeLine]; omega
        · simp [nD]; omega
        · simp [nD, sizeLine]; omega
      · refine cont2 _ _ _ (fun q => by rcases q with q | q <;> cases q) (fun q => by cases q) (fun v' q => ?_)
        cases q
        exact h1 _ (by rw [← hr]) h6 t6 v (.int (y : Nat) t) (a5.ext C e6) p6
    · rw [hkb] at hb2
      have hyx : y ∉ xs T := of_decide_eq_false hb2
      rw [if_neg (fun z => hyx ((xq y).mp z.2))] at hv
      simp only [hys, if_true] at hv
      exact tail sn T h5 t5 (a4.ext C e5) (d4.ext e5) hv
  · have hys : y ∉ sn := fun q => of_decide_eq_false hb (nI_mem.mpr q)
    rw [if_neg (fun z => hys z.1)] at hv
    simp only [hys, if_false] at hv
    refine push_run (s := { s with heap := h4, toks := t4 }) rm C (a3.ext C e4) (d3.ext e4) hy hys fun h5 t5 e a5 d5 ex ek => ?_
    refine tail (y :: sn) (e :: T) h5 t5 a5 d5 ?_
    have : qOf (e :: T) = (y, 0) :: qOf T := by simp [qOf, ex, ek]
    rw [this]; exact hv
end
end Mine

end

section
open PySem PySem.W PyProof.Rows PySem.SeqAt
set_option Elab.async false
set_option linter.all false
set_option autoImplicit false
namespace Mine
noncomputable def hX (hE h : Heap) (It : Addr) : Heap := hideS (fun b => hE.get? b = none ∧ b ≠ It) h
noncomputable def resD (r : Option (List Nat)) : PyData := match r with | none => .none | some l => .list (nD l)
section
variable {w : World} {G : List (Str × Value)} {k : Nat} {A : Around} {E : Value → Shared → Prop} {s : Shared} {g : Geo} {σ : Sta} {hE h0 h h' : Heap} {outer : List Env} {env : Env} {ρ : Locs} {D : Dd} {sn : List Nat} {T : List Ent4} {It : Addr}
theorem hX_in {b : Addr} (h1 : hE.get? b ≠ none ∨ b = It) : (hX hE h It).get? b = h.get? b := (hideS_get _ _ _).1 fun z => h1.elim (fun q => q z.1) z.2
theorem hX_some {b : Addr} {o : Obj} (q : (hX hE h It).get? b = some o) : h.get? b = some o ∧ (hE.get? b ≠ none ∨ b = It) := by
  by_cases z : hE.get? b = none ∧ b ≠ It
  · rw [hX, (hideS_get _ _ _).2 z] at q; cases q
  · rw [hX, (hideS_get _ _ _).1 z] at q
    refine ⟨q, ?_⟩
    by_cases z1 : hE.get? b = none
    · exact .inr (Classical.byContradiction fun z2 => z ⟨z1, z2⟩)
    · exact .inl z1
theorem mem_in (C : Cx w G g σ hE h0 outer env) {b : Addr} (m : Mem g σ b) : hE.get? b ≠ none := by obtain ⟨o, ho⟩ := C.SE.at m; rw [ho]; simp
theorem Cx.more (C : Cx w G g σ hE h0 outer env) (a : Amb w g σ hE h0 outer env h ρ) (oI : Off env It) : Cx w G g σ (hX hE h It) h0 outer env where
  fr := C.fr
  sc := C.sc
  gl := C.gl
  bu := C.bu
  h0E := fun b q => by
    cases z : h0.get? b with
    | none => rfl
    | some o =>
      have h1 : hE.get? b ≠ none := fun z' => by rw [C.h0E b z'] at z; cases z
      rw [hX_in (.inl h1), a.fm.base _ _ z] at q; cases q
  h0F := C.h0F
  SE := a.srt.keep fun b o m q => by rw [hX_in (.inl (mem_in C m))]; exact q
  FE := fun v hv => by
    obtain ⟨q1, L, m, q2, o, es, ep, q3, r⟩ := a.frs v (List.mem_cons_of_mem _ hv)
    obtain ⟨_, L', m', q4, o', es', ep', q5, _⟩ := C.FE v hv
    rw [q2] at q4; cases q4
    exact ⟨q1, L, m, q2, o, es, ep, by rw [hX_in (.inl (by rw [q5]; simp))]; exact q3, r⟩
  off := fun b o q => by
    obtain ⟨_, z⟩ := hX_some q
    rcases z with z | z
    · obtain ⟨o', ho'⟩ := Option.ne_none_iff_exists'.mp z
      exact C.off _ _ ho'
    · rw [z]; exact oI
  mf := C.mf
  BH := C.BH
  n9 := C.n9
  sb := C.sb
theorem Amb.more (a : Amb w g σ hE h0 outer env h ρ) : Amb w g σ (hX hE h It) h0 outer env h ρ :=
  ⟨a.fm, a.srt, a.frs, ⟨fun b o _ _ q => (hX_some q).1, fun b o _ q => ⟨o.slots, (hX_some q).1⟩⟩, a.pin⟩
theorem Amb.back (a : Amb w g σ hE h0 outer env h ρ) {ρ' : Locs} (a' : Amb w g σ (hX hE h It) h0 outer env h' ρ') : Amb w g σ hE h0 outer env h' ρ' := by
  refine ⟨a'.fm, a'.srt, a'.frs, ⟨fun b o n1 n2 q => a'.slt.out b o n1 n2 ?_, fun b o n1 q => ?_⟩, a'.pin⟩
  · rw [hX_in (.inl (by rw [q]; simp))]; exact a.slt.out b o n1 n2 q
  · obtain ⟨sl, z⟩ := a.slt.fr b o n1 q
    obtain ⟨sl2, z2⟩ := a'.slt.fr b _ n1 (by rw [hX_in (.inl (by rw [q]; simp))]; exact z)
    exact ⟨sl2, z2⟩
theorem Dst.more (d : Dst w g σ hE env D h sn T) (hI : ∀ b, DOwn D T b → b ≠ It) : Dst w g σ (hX hE h It) env D h sn T :=
  { d with ow := fun b m => ⟨(hideS_get _ _ _).2 ⟨(d.ow b m).1, hI b m⟩, (d.ow b m).2⟩ }
theorem Dst.back (d0 : Dst w g σ hE env D h sn []) {sn' : List Nat} (d : Dst w g σ (hX hE h It) env D h' sn' []) : Dst w g σ hE env D h' sn' [] :=
  { d with ow := fun b m => d0.ow b (by
      cases m with
      | a => exact .a
      | b => exact .b
      | c => exact .c
      | d => exact .d
      | m e he => cases he
      | it e he => cases he) }
theorem fc_ok {R : Result → Shared → Prop} {hB : Heap} {f : Nat} {res : Option (List Nat)} (rm : Room (k + 1) A) (B : Bse w G hB) (eB : Ext hB s.heap) (S : Srt w s.heap g σ) (hn : σ.n ≤ 50) (sb : ∀ i, i < σ.n → (σ.su i).length ≤ 100 ∧ ∀ j ∈ σ.su i, j < σ.n)
    (hfr : A.frames = some outer) (FE : Frms s.heap outer) (HF : ∀ b, isFr outer b → hB.get? b = none) (mf : ∀ b, Mem g σ b → ¬ isFr outer b) (hout : outD σ.su f (List.range σ.n) [] = some res)
    (h : ∀ v h' tk, Slt none (isFr outer) s.heap h' → Srt w h' g σ → Rd h' v (resD res) → R (.ok (.ret v)) { s with heap := h', toks := tk }) : codeAny (model pw w) A (.call (.ref 134) ⟨[.ref g.x], []⟩) R s := by
  have B1 := B.ext eB
  refine run_fn (k := k) rm (B1.K 134 _ (kf_134 _)) B1.glo.lim (codeRec_K _ B1.K).2.2.2.2.2.2.2.2 (bind_pure (binds := [("self", .ref g.x)]) rfl) (.refl _) (show ([Str.ofString "self"] : List Str).Nodup by decide)
    (by intro b hb; rw [List.mem_singleton.mp hb]; exact .inl rfl) rfl rfl rfl fun env h2 tk henv hs hg hb F0 off rm' => ?_
  have kd : ∀ x, env.kindOf x = (defScope (sortC.drop 8)).names.lookup x := fun x => by rw [Env.kindOf, hs]
  have F := F0.hide (S := isFr outer) (.refl s.heap)
  have BH := B.ext (hide_base (S := isFr outer) eB HF)
  have hfr' : (A.deeper env).frames = some (env :: outer) := by simp [Around.deeper, hfr]
  have C : Cx w G g σ s.heap (hideS (isFr outer) s.heap) outer env := ⟨by rw [henv]; rfl, hs, hg, hb, fun b q => hideS_none q, fun b q => (hideS_get _ _ _).2 q, S, FE, off, mf, BH, hn, sb⟩
  generalize hideS (isFr outer) s.heap = h0 at F BH C
  have a2 : Amb w g σ s.heap h0 outer env h2 (pinR [("self", .ref g.x)]) := ⟨F, S.ext F0.base, fun v hv => by
      rcases List.mem_cons.mp hv with rfl | hv
      · obtain ⟨m, hm, _⟩ := F0.ns
        exact ⟨F0.kind, _, m, C.fr, hm⟩
      · exact FE.ext F0.base v hv, F0.base.slt, pinsP⟩
  -- n2i = self._node2info
  obtain ⟨t1, u1, I⟩ := a2.srt.ins
  refine wp_assign (s := { s with heap := h2, toks := tk }) (p := prV (.ref g.d)) rm' a2.fm (ev_attr (KIn.ext BH.K a2.fm.base) I (ev_pin a2.fm rfl) (name := "_node2info") (by decide) rfl rfl) (.inl (kd _)) fun h3 t3 F3 pr3 of3 => ?_
  have a3 := a2.put C F3 of3
  -- stack = []
  refine wp_assign_new (s := { s with heap := h3, toks := t3 }) (ps := []) rm' a3.fm evp_pnil (.inl (kd _)) fun Da ysa h4 t4 F4 la pa na pr4 of4 => ?_
  have a4 := a3.put C F4 of4
  have ysa0 : ysa = #[] := by have := pa.length; simpa using this
  subst ysa0
  have fresh : ∀ {h : Heap} {ρ : Locs} {b : Addr}, Amb w g σ s.heap h0 outer env h ρ → h.get? b = none → s.heap.get? b = none ∧ Off env b := fun {h ρ b} a q => by
    refine ⟨?_, a.fm.off_new q⟩
    cases z : s.heap.get? b with
    | none => rfl
    | some o =>
      by_cases f : isFr outer b
      · obtain ⟨sl, z'⟩ := a.slt.fr b o f z; rw [q] at z'; cases z'
      · have := a.slt.out b o f (by simp) z; rw [q] at this; cases this
  have wa := fresh a3 na
  -- itstack = []
  refine wp_assign_new (s := { s with heap := h4, toks := t4 }) (ps := []) rm' a4.fm evp_pnil (.inl (kd _)) fun Db ysb h5 t5 F5 lb pb nb pr5 of5 => ?_
  have a5 := a4.put C F5 of5
  have ysb0 : ysb = #[] := by have := pb.length; simpa using this
  subst ysb0
  have wb := fresh a4 nb
  have hab : Da ≠ Db := fun q => by obtain ⟨n, z⟩ := la; rw [q] at z; rw [nb] at z; cases z
  have la5 : h5.PlainList Da #[] := let ⟨n, q⟩ := la; ⟨n, pr5 _ _ rfl q⟩
  -- seen = set()
  refine wpAny_execs_cons (wpAny_Assign_Name (EvP.run (s := { s with heap := h5, toks := t5 }) (ev_set0 (has_b (BH.glo.ext a5.fm.base) (by decide) (by kernel_rfl) a5.fm.kind (kd _) hg hb)) rm' fun v h6 t6 e6 q6 => ?_))
  obtain ⟨Dc, rfl, sc6, nc⟩ := q6
  have wc := fresh a5 nc
  have a6 := a5.ext C e6
  refine Fm.store (s := { s with heap := h6, toks := t6 }) (p := prV (.ref Dc)) a6.fm (.inl (kd _)) rfl fun h7 t7 F7 pr7 of7 => ?_
  have a7 := a6.put C F7 of7
  have sc7 : h7.SetOf (knd w) Dc (fun _ => false) 0 := let ⟨o, es, ep, tt, q, r⟩ := sc6; ⟨o, es, ep, tt, of7 _ _ wc.2.l wc.2.c q, r⟩
  -- node2stacki = {}
  refine wpAny_execs_cons (wpAny_Assign_Name (EvP.run (s := { s with heap := h7, toks := t7 }) (ev_dict1 (KIn.ext BH.K a7.fm.base)) rm' fun v h8 t8 e8 q8 => ?_))
  obtain ⟨Dd', rfl, dd8, nd, smd⟩ := q8
  have wd := fresh a7 nd
  have a8 := a7.ext C e8
  refine Fm.store (s := { s with heap := h8, toks := t8 }) (p := prV (.ref Dd')) a8.fm (.inl (kd _)) rfl fun h9 t9 F9 pr9 of9 => ?_
  have a9 := a8.put C F9 of9
  have d9 : Dst w g σ s.heap env ⟨Da, Db, Dc, Dd'⟩ h9 [] [] := by
    refine ⟨⟨#[], ?_, .nil⟩, ?_, ⟨0, ?_, Nat.le_refl _⟩, ⟨[], ?_, rfl, .nil⟩, (fun e he => by cases he), (by simp), hab, fun b m => ?_, smd, (fun y hy => by simp [xs] at hy), (by simp)⟩
    · obtain ⟨n, q⟩ := la5; exact ⟨n, pr9 _ _ rfl (e8 _ _ (pr7 _ _ rfl (e6 _ _ q)))⟩
    · obtain ⟨n, q⟩ := lb; exact ⟨n, pr9 _ _ rfl (e8 _ _ (pr7 _ _ rfl (e6 _ _ q)))⟩
    · have : (fun i : Int => decide (i ∈ nI [])) = fun _ => false := by funext i; simp [nI]
      rw [this]
      obtain ⟨o, es, ep, tt, q, r⟩ := sc7
      exact ⟨o, es, ep, tt, of9 _ _ wc.2.l wc.2.c (e8 _ _ q), r⟩
    · exact dd8.at fun o q => of9 _ _ wd.2.l wd.2.c q
    · cases m with
      | a => exact wa
      | b => exact wb
      | c => exact wc
      | d => exact wd
      | m e he => cases he
      | it e he => cases he
  have a9' : Amb w g σ s.heap h0 outer env h9 (rho5 ⟨Da, Db, Dc, Dd'⟩ g) := a9
  generalize (⟨Da, Db, Dc, Dd'⟩ : Dd) = D at a9' d9
  clear a9
  -- for node in n2i
  have dlen : (dictN g σ.n).length = σ.n := dictN_len g σ.n
  refine wp_for (s := { s with heap := h9, toks := t9 }) (k := k) (n := (dictN g σ.n).length) (PI := IsV (.ref g.d)) (I := fun i v => ∃ kk x t, (dictN g σ.n)[i]? = some (kk, x) ∧ v = .int kk t) (Z := fun b => b = g.d) rm' (ev_pin a9'.fm rfl) (hit_keys rm' a9'.srt.dct a9'.srt.sm)
    (fun It j h => ∃ sn, Amb w g σ s.heap h0 outer env h (rho5 D g) ∧ Dst w g σ s.heap env D h sn [] ∧ outD σ.su f ((List.range σ.n).drop j) sn = some res ∧ s.heap.get? It = none ∧ Off env It ∧ (∀ b, DOwn D [] b → b ≠ It))
    (fun It h10 e10 n10 => ⟨[], a9'.ext C e10, d9.ext e10, by rw [List.drop_zero]; exact hout, (fresh a9' n10).1, (fresh a9' n10).2, fun b m q => by obtain ⟨o, z, _⟩ := d9.at m; rw [q] at z; rw [n10] at z; cases z⟩)
    ?_ ?_ ?_
  · rintro It j h10 h11 ⟨sn, a10, d10, ho, nI', oI, dI⟩ kp
    exact ⟨sn, a10.but C (fun b o nb q => kp b o nb q) nI' oI, d10.keep fun b o m q => kp b o (dI b m) q, ho, nI', oI, dI⟩
  · rintro It j v h10 t10 E' Q' hj ⟨sn, a10, d10, ho, nI', oI, dI⟩ ⟨kk, x, tv, hk, rfl⟩ _ ⟨oI', hIt, _⟩ hQ'
    rw [dlen] at hj
    have hk' : kk = (j : Int) := by
      have : (dictN g σ.n)[j]? = some ((j : Int), .ref (g.inf j)) := by simp [dictN, hj]
      rw [this] at hk; cases hk; rfl
    subst hk'
    have hdrop : (List.range σ.n).drop j = j :: (List.range σ.n).drop (j + 1) := by
      rw [List.drop_eq_getElem_cons (by simpa using hj)]; simp
    rw [hdrop, outD] at ho
    -- the heap with the iterator
    have CX := C.more a10 oI
    have aX := a10.more (It := It)
    have dX := d10.more dI
    have hgd : (hX s.heap h10 It).get? g.d = h10.get? g.d := hX_in (.inl (mem_in C .d))
    have hIX : (hX s.heap h10 It).get? It = h10.get? It := hX_in (.inr rfl)
    have nfr : ¬ isFr outer It := fun z => by obtain ⟨m, o, es, ep, q1, _⟩ := isFr_at FE z; rw [nI'] at q1; cases q1
    have kept : ∀ h' ρ', Amb w g σ (hX s.heap h10 It) h0 outer env h' ρ' → ∀ b o, (b = It ∨ b = g.d) → h10.get? b = some o → h'.get? b = some o := fun h' ρ' a' b o hb q => by
      rcases hb with rfl | rfl
      · exact a'.slt.out _ o nfr (by simp) (by rw [hIX]; exact q)
      · exact a'.slt.out _ o (mf _ .d) (by simp) (by rw [hgd]; exact q)
    refine wpAny_assign_Name (Fm.store (s := { s with heap := h10, toks := t10 }) (p := prV (.int (j : Nat) tv)) aX.fm (.inl (kd _)) rfl fun h11 t11 F11 pr11 of11 => ?_)
    have a11 := aX.put CX F11 of11
    have d11 := dX.put of11
    obtain ⟨n3, hS, hl⟩ := d11.s3
    refine wp_if (s := { s with heap := h11, toks := t11 }) rm' (ts_cmp (ev_pinI a11.fm (x := "node") rfl) (ev_pin a11.fm (x := "seen") rfl) isD_mono (cmp_inSet hS)) (fun hb h12 t12 e12 => ?_) (fun hb h12 t12 e12 => wp_nil ?_)
    · have hjs : j ∈ sn := nI_mem.mp (of_decide_eq_true hb)
      rw [if_pos hjs] at ho
      refine wpAny_execs_cons (wpAny_Continue ?_)
      have a12 := a11.ext CX e12
      exact hQ' _ _ _ (fun _ => ⟨⟨sn, a10.back (Amb.drop a12 rfl), d10.back (d11.ext e12), ho, nI', oI, dI⟩, kept _ _ a12⟩) (fun q => by cases q) (fun v q => by cases q)
    · have hjs : j ∉ sn := fun q => of_decide_eq_false hb (nI_mem.mpr q)
      rw [if_neg hjs] at ho
      cases hv : visD σ.su f sn [] j with
      | none => rw [hv] at ho; cases ho
      | some rr =>
        rw [hv] at ho
        refine vis_run (s := { s with heap := h12, toks := t12 }) rm' CX hfr' (a11.ext CX e12) (d11.ext e12) hj hv (fun r hr h13 t13 v v' a13 p13 => ?_) (fun hr h13 t13 v' a13 d13 => ?_)
        · obtain ⟨r1, r2⟩ := rr
          simp only at hr
          subst hr
          have hres : some r = res := Option.some.inj ho
          refine hQ' _ _ _ (fun q => by rcases q with q | q <;> cases q) (fun q => by cases q) (fun u q => ?_)
          cases q
          have a13' := a10.back a13
          exact h v h13 t13 a13'.slt a13'.srt (by rw [← hres]; exact p13)
        · obtain ⟨r1, r2⟩ := rr
          simp only at hr
          subst hr
          exact hQ' _ _ _ (fun _ => ⟨⟨r2, a10.back (Amb.drop a13 rfl), d10.back d13, ho, nI', oI, dI⟩, kept _ _ a13⟩) (fun q => by cases q) (fun v q => by cases q)
  · rintro It h10 t10 ⟨sn, a10, d10, ho, _⟩ _
    rw [dlen] at ho
    have : (List.range σ.n).drop σ.n = [] := by simp
    rw [this, outD] at ho
    have hres : none = res := Option.some.inj ho
    refine wp_ret (s := { s with heap := h10, toks := t10 }) rm' ev_none fun v h11 t11 e11 p11 => ?_
    have a11 := a10.ext C e11
    exact h v h11 t11 a11.slt a11.srt (by rw [← hres]; exact p11)
end
end Mine

end

section
open PySem PySem.W PyProof.Rows PySem.SeqAt
set_option Elab.async false
set_option linter.all false
set_option autoImplicit false
namespace Mine
section
variable {w : World} {G : List (Str × Value)} {k : Nat} {A : Around} {E : Value → Shared → Prop} {s : Shared} {g : Geo} {σ : Sta} {hE h0 h h' : Heap} {outer : List Env} {env : Env} {ρ : Locs}
/-- a list comprehension; the list is new -/
theorem ev_compF {elt iter : Expr} {x : Str} {px : Pos} {ifs : List Expr} {scope : Scope} {pos : Pos} {α : Type} (xs : List α) (sp : α → Pr) (q : α → Bool) (g : α → Pr) {PI : Value → Heap → Prop}
    (hi : EvP pw w k env h iter PI) (hit : Src pw w k h PI (xs.map sp)) (S : Safe fun i => fun v h => ∃ a, xs[i]? = some a ∧ (g a).P v h) (hsz : xs.length ≤ sizeLine)
    (hfree : ∀ y, (y, NameKind.free) ∈ scope.names → (env.cells.lookup y).isSome = true) (hkind : scope.kind = .function) (hnames : ∀ y ∈ scope.names, y.2 = .local → scope.names.lookup y.1 = some .local)
    (hx : scope.names.lookup x = some .local ∨ scope.names.lookup x = some .cell)
    (htest : ∀ a ∈ xs, ∀ v C c0 h2, Ext h h2 → (sp a).P v h2 → Has pw w h2 (cEnv scope (capL scope env) C c0 env) x v → ((cEnv scope (capL scope env) C c0 env).kindOf x = some .cell → ∃ c, (cEnv scope (capL scope env) C c0 env).cells.lookup x = some c ∧ h2.IsCell c (some v)) → TsAll pw w k (cEnv scope (capL scope env) C c0 env) h2 ifs (q a))
    (helt : ∀ a ∈ xs, ∀ v C c0 h2, q a = true → Ext h h2 → (sp a).P v h2 → Has pw w h2 (cEnv scope (capL scope env) C c0 env) x v → ((cEnv scope (capL scope env) C c0 env).kindOf x = some .cell → ∃ c, (cEnv scope (capL scope env) C c0 env).cells.lookup x = some c ∧ h2.IsCell c (some v)) → EvP pw w k (cEnv scope (capL scope env) C c0 env) h2 elt (g a).P)
    (hs : ∀ x, foldedSetIterable iter env x = pure x := by intro _; rfl) :
    EvP pw w k env h (.ListComp elt [⟨.Name x px, iter, ifs, 0⟩] scope pos) (fun v h' => ∃ D ys, v = .ref D ∧ h'.PlainList D ys ∧ PAll ((xs.filter q).map g) ys.toList h' ∧ h.get? D = none) := fun A s E Q rm hx' hq => by
  show wpAny _ A (comprehension _ scope env _ (newList []) false (eval iter env)) Q E s
  refine comp_rule xs sp q g rm (hi.ext hx') (fun A s xv E Q r e => hit A s xv E Q r (hx'.trans e)) S hsz hfree hkind hnames hx (fun a ha v C c0 h2 e => htest a ha v C c0 h2 (hx'.trans e)) (fun a ha v C c0 h2 hqa e => helt a ha v C c0 h2 hqa (hx'.trans e)) hs ?_
  intro D ys C m h' tk e hD hP hn hC hDC hDn
  refine ⟨m, hn, fun h'' hs'' => hq _ _ _ ?_ ⟨D, ys, rfl, hD.at fun o e => (hs''.2 D hDC).trans e, hP.st (sameBut_pres hn hs''), ?_⟩⟩
  · exact fun b o e' => (hs''.2 b fun q => by rw [q, hC] at e'; cases e').trans (e b o e')
  · cases z : h.get? D with
    | none => rfl
    | some o => rw [hx' _ _ z] at hDn; cases hDn
theorem pall_ints {ns : List Nat} {vs : List Value} {h : Heap} (x : PAll (ns.map fun i : Nat => prD (.int (i : Int))) vs h) : IntsAre vs (nI ns) := by
  induction ns generalizing vs with
  | nil => cases vs with
    | nil => exact .nil
    | cons _ _ => exact x.elim
  | cons n r ih => cases vs with
    | nil => exact x.elim
    | cons v vs =>
      obtain ⟨t, rfl⟩ := Rd.inv_int x.1
      exact .cons _ t (ih x.2)
/-- d.values() -/
noncomputable def ValsOf (d : Addr) : Value → Heap → Prop := fun v h => ∃ a, v = .ref a ∧ h.IsValuesView a d
theorem ev_values {o : Expr} {apos pos : Pos} {d : Addr} {kvs : List (Int × Value)} (hd : h.DictOf (knd w) d kvs) (hsm : (d == sysModules) = false) (ho : EvP pw w k env h o (IsV (.ref d)))
    (hbase : attributeBase o "values" env (eval o env) = eval o env := by rfl) (hline : (apos.endLine == pos.line) = true := by rfl) :
    EvP pw w k env h (.Call (.Attribute o "values" apos) [] [] pos) (ValsOf d) := fun A s E Q rm hx hq => by
  refine wpAny_Call_method hbase rfl hline PySem.F.plainAttrs_dict PySem.F.slot_dict_values PySem.F.type_dict_values (ho A s E _ rm hx fun v h1 t1 e1 q1 => ?_)
  cases (q1 : v = _)
  have D1 : h1.DictOf (knd w) d kvs := hd.at fun o q => e1 _ _ (hx _ _ q)
  refine ⟨D1.typeIs (s := { s with heap := h1, toks := t1 }), fun a e => ?_, callWith_method0 ?_⟩
  · cases e
    obtain ⟨ob, es, ep, q, hex, r⟩ := D1
    exact ⟨ob, q, hex.2.1⟩
  · exact call_meetsIn (s := { s with heap := h1, toks := t1 }) PySem.F.slot_dict_values D1.typeIs PySem.F.entry_dict_values (PySem.F.args_dict_values_1 _) (meets_dict_values (knd w) d hsm) ⟨⟨kvs, D1⟩, hq _ _ _ (e1.trans (Ext.push _ _)) ⟨_, rfl, _, Heap.get?_push_size _ rfl, rfl, rfl⟩⟩
theorem src_vals {d : Addr} {n : Nat} (hd : h.DictOf (knd w) d (dictN g n)) : Src pw w k h (ValsOf d) ((List.range n).map fun i => prV (.ref (g.inf i))) := fun A s xv E Q rm hx pi hq => by
  obtain ⟨a, rfl, hv⟩ := pi
  have d1 : s.heap.DictOf (knd w) d (dictN g n) := hd.at fun o q => hx _ _ q
  obtain ⟨ep, da⟩ := d1.dictAt
  have hlt : d < s.heap.objs.size := by obtain ⟨_, _, q, _⟩ := da; exact Heap.lt_size q
  have W := Walks.dictValues (prog := pw) (w := w) (knd := knd w) (A := A) rm.handled s.heap.objs.size d (Nat.ne_of_lt hlt) (dictN g n) ep
  rw [show (dictN g n).length = ((List.range n).map fun i => prV (.ref (g.inf i))).length by simp [dictN]] at W
  refine wpAny_pyIter_values hv da ?_
  rw [show (dictN g n).length = ((List.range n).map fun i => prV (.ref (g.inf i))).length by simp [dictN]]
  refine hq s.heap.objs.size _ _ _ _ _ s.toks W ⟨⟨_, Heap.get?_push_size _ rfl, rfl, rfl⟩, da.at' fun o q => Heap.get?_push_of_some _ q⟩ (fun b hb => ?_) (fun b hb => ?_) (fun i h' st b hb => ?_) (Ext.push _ _) (fun i v h' hi hP e => ?_)
  · rw [Heap.size_push]
    rcases List.mem_cons.mp hb with rfl | hb
    · exact Nat.lt_succ_self _
    · rw [List.mem_singleton.mp hb]; exact Nat.lt_succ_of_lt hlt
  · rw [List.mem_singleton.mp hb]; exact get_size_none _
  · rw [List.mem_singleton.mp hb]
    obtain ⟨⟨o, q1, q2, q3⟩, _⟩ := st
    exact ⟨o, q1, by simp [keptObj, q3]⟩
  · obtain ⟨kk, q⟩ := hP
    simp at hi
    have : (dictN g n)[i]? = some ((i : Int), .ref (g.inf i)) := by simp [dictN, hi]
    rw [this] at q; cases q
    exact ⟨prV (.ref (g.inf i)), by simp [hi], rfl⟩
noncomputable def readyL (σ : Sta) : List Nat := (List.range σ.n).filter fun i => decide (σ.np i = 0)
noncomputable def prepS (σ : Sta) (a : Addr) : Sta := { σ with rd := some (a, readyL σ) }
theorem kf_62 (P : Params) : (KF P).lookup 62 = some (excClassObj "CycleError" "CycleError" 62 61 [.type "ValueError"] [.type "ValueError", .type "Exception", .type "BaseException", .type "object"] true [] [] false none none (some (.ref 53)) none (some (.str "CycleError" 259)) (some (.str "CycleError" 267)) (some (.bool true)) "ValueError.__new__") := by kernel_rfl
theorem kf_61 (P : Params) : ∃ es ep, (KF P).lookup 61 = some { cls := .type "dict", data := .dict es ep } ∧ StrKeys es ∧ nsFind es "__init__" = none := by
  refine ⟨_, _, rfl, ?_, ?_⟩
  · intro e he
    simp only [List.mem_toArray, Array.mem_def, List.mem_cons, List.not_mem_nil, or_false] at he
    rcases he with rfl | rfl | rfl | rfl | rfl <;> exact ⟨_, _, rfl⟩
  · kernel_rfl
end
end Mine

end

section
open PySem PySem.W PyProof.Rows PySem.SeqAt
set_option Elab.async false
set_option linter.all false
set_option autoImplicit false
namespace Mine
noncomputable def FrK (outer : List Env) (h h' : Heap) : Prop := ∀ b o, isFr outer b → h.get? b = some o → ∃ sl, h'.get? b = some { o with slots := sl }
section
variable {w : World} {G : List (Str × Value)} {k : Nat} {A : Around} {E : Value → Shared → Prop} {s : Shared} {g : Geo} {σ : Sta} {hE h0 h h' : Heap} {outer : List Env} {env : Env} {ρ : Locs}
theorem Slt.out' {S : Addr → Prop} {h h' : Heap} (x : Slt none S h h') {b : Addr} {o : Obj} (n : ¬ S b) (q : h.get? b = some o) : h'.get? b = some o := x.out b o n (by simp) q
theorem prep_ok {R : Result → Shared → Prop} {hB : Heap} {f : Nat} {res : Option (List Nat)} (rm : Room (k + 2) A) (B : Bse w G hB) (eB : Ext hB s.heap) (S : Srt w s.heap g σ) (hrd : σ.rd = none) (hn : σ.n ≤ 50) (sb : ∀ i, i < σ.n → (σ.su i).length ≤ 100 ∧ ∀ j ∈ σ.su i, j < σ.n)
    (hfr : A.frames = some outer) (FE : Frms s.heap outer) (HF : ∀ b, isFr outer b → hB.get? b = none) (HB : ∀ b, OwnR g σ b → hB.get? b = none) (mf : ∀ b, Mem g σ b → ¬ isFr outer b) (hout : outD σ.su f (List.range σ.n) [] = some res) (hne : ∀ r, res = some r → r ≠ [] ∧ r.length ≤ 1000)
    (h1 : res = none → ∀ a h' tk, Chg (fun b => OwnR g σ b ∨ isFr outer b) s.heap h' → FrK outer s.heap h' → Srt w h' g (prepS σ a) → s.heap.get? a = none → R (.ok (.ret .none)) { s with heap := h', toks := tk })
    (h2 : ∀ r, res = some r → ∀ a e t base h' tk, Heap.FlyingW base outer e (.ref 62) (.ref t) h' → Chg (fun b => OwnR g σ b ∨ isFr outer b) s.heap base → FrK outer s.heap h' → Srt w base g (prepS σ a) → s.heap.get? a = none → R (.error (.ref e)) { s with heap := h', toks := tk }) :
    codeAny (model pw w) A (.call (.ref 99) ⟨[.ref g.x], []⟩) R s := by
  have B1 := B.ext eB
  refine run_fn (k := k + 1) rm (B1.K 99 _ (kf_99 _)) B1.glo.lim (codeRec_K _ B1.K).2.2.2.2.1 (bind_pure (binds := [("self", .ref g.x)]) rfl) (.refl _) (show ([Str.ofString "self"] : List Str).Nodup by decide)
    (by intro b hb; rw [List.mem_singleton.mp hb]; exact .inl rfl) rfl rfl rfl fun env h2' tk henv hs hg hb F0 off rm' => ?_
  have kd : ∀ x, env.kindOf x = (defScope (sortC.drop 3)).names.lookup x := fun x => by rw [Env.kindOf, hs]
  have efr : env.frame = some env.locals := by rw [henv]; rfl
  have F := F0.hide (S := fun b => OwnR g σ b ∨ isFr outer b) (.refl s.heap)
  have BH := B.ext (hide_base (S := fun b => OwnR g σ b ∨ isFr outer b) eB fun b q => q.elim (HB b) (HF b))
  have H0 : ∀ b, OwnR g σ b ∨ isFr outer b → (hideS (fun b => OwnR g σ b ∨ isFr outer b) s.heap).get? b = none := fun b q => (hideS_get _ _ _).2 q
  have H1 : ∀ b, s.heap.get? b = none → (hideS (fun b => OwnR g σ b ∨ isFr outer b) s.heap).get? b = none := fun b q => hideS_none q
  have hback : ∀ h', Ext (hideS (fun b => OwnR g σ b ∨ isFr outer b) s.heap) h' → Chg (fun b => OwnR g σ b ∨ isFr outer b) s.heap h' := fun h' e => chg_of_hide e
  generalize hideS (fun b => OwnR g σ b ∨ isFr outer b) s.heap = h0 at F BH H0 H1 hback
  have S2 := S.ext F0.base
  have offM : ∀ b, Mem g σ b → Off env b := fun b m => by obtain ⟨o, ho⟩ := S.at m; exact off _ _ ho
  have e02 : Ext s.heap h2' := F0.base
  have offF : ∀ b, isFr outer b → Off env b := fun b q => by obtain ⟨m, o, es, ep, q1, _⟩ := isFr_at FE q; exact off _ _ q1
  have frc : ∀ b, isFr (env :: outer) b ↔ b = env.locals ∨ isFr outer b := fun b => isFr_cons efr
  have mf' : ∀ b, Mem g σ b → ¬ isFr (env :: outer) b := fun b m q => ((frc b).mp q).elim (offM b m).l (mf b m)
  obtain ⟨t1, u1, I⟩ := S2.ins
  rw [hrd] at I
  refine wp_if (s := { s with heap := h2', toks := tk }) rm' (notNone (ev_attr (KIn.ext BH.K F.base) I (ev_pin F rfl) (name := "_ready_nodes") (by decide) rfl rfl) rfl) (fun q => by cases q) fun _ h3 t3 e3 => wp_nil ?_
  have F3 := F.ext e3
  have S3 := S2.ext e3
  -- self._ready_nodes = [..]
  refine wp_setT (s := { s with heap := h3, toks := t3 }) rm' F3 BH.K (I.ext e3) (offM _ .dx) (H0 _ (.inl .dx)) (name := "_ready_nodes") (by decide) (by simp [kvOf]) (ev_pin F3 rfl)
    (ev_compF (xs := List.range σ.n) (sp := fun i => prV (.ref (g.inf i))) (q := fun i => decide (σ.np i = 0)) (g := fun i : Nat => prD (.int (i : Int)))
      (ev_values S3.dct S3.sm (ev_attr (KIn.ext BH.K F3.base) (I.ext e3) (ev_pin F3 rfl) (name := "_node2info") (by decide) rfl rfl)) (src_vals S3.dct) (safeX fun _ => rfl) (by simp [sizeLine]; omega) (nofree rfl) rfl (by decide) (.inl rfl)
      (fun i hi v C c0 h4 e4 (p : v = _) hv hcv => ts_one ?_) (fun i hi v C c0 h4 _ e4 (p : v = _) hv hcv => ?_)) fun v h4 h5 t5 e4 q4 F5 I5 B5 pr5 => ?_
  · subst p
    obtain ⟨ta, ua, In⟩ := (S3.ext e4).inf i (List.mem_range.mp hi)
    exact ts_cmp ((ev_slot (KIn.ext BH.K (F3.base.trans e4)) In (ev_name hv (fun _ _ => rfl)) (name := "npredecessors") (p := 49) (i := 1) (by decide) rfl rfl).mono fun v h' _ (q : v = _) => by rw [q]; exact Rd.int) ev_int isD_mono cmp_eqI
  · subst p
    obtain ⟨ta, ua, In⟩ := (S3.ext e4).inf i (List.mem_range.mp hi)
    exact (ev_slot (KIn.ext BH.K (F3.base.trans e4)) In (ev_name hv (fun _ _ => rfl)) (name := "node") (p := 48) (i := 0) (by decide) rfl rfl).mono fun v h' _ (q : v = _) => by rw [q]; exact Rd.int
  obtain ⟨a, ys, rfl, la, pa, na⟩ := q4
  have nas : s.heap.get? a = none := by
    cases z : s.heap.get? a with
    | none => rfl
    | some o => rw [e3 _ _ (e02 _ _ z)] at na; cases na
  have S5 : Srt w h5 g (prepS σ a) := (S3.ext e4).setT (σ' := prepS σ a) (L := env.locals) rfl rfl rfl I5 B5 (fun b m => (offM b m).l) fun a' l' e' => by
    cases e'
    obtain ⟨n, q⟩ := la
    refine ⟨⟨ys, ⟨n, pr5 _ _ rfl q⟩, pall_ints pa⟩, fun i hi z => ?_⟩
    obtain ⟨vs, ⟨n, q⟩, _⟩ := S3.suc i hi
    rw [z, na] at q; cases q
  have S5m : ∀ b, Mem g (prepS σ a) b → Mem g σ b ∨ b = a := fun b m => by
    cases m with
    | x => exact .inl .x
    | dx => exact .inl .dx
    | d => exact .inl .d
    | inf i hi => exact .inl (.inf i hi)
    | din i hi => exact .inl (.din i hi)
    | suc i hi => exact .inl (.suc i hi)
    | rd _ l e => cases e; exact .inr rfl
  have oa : Off env a := (F3.ext (Ext.refl _)).off_new na
  have naf : ¬ isFr (env :: outer) a := fun q => ((frc a).mp q).elim oa.l fun z => by
    obtain ⟨m, o, es, ep, q1, _⟩ := isFr_at FE z; rw [nas] at q1; cases q1
  have mf5 : ∀ b, Mem g (prepS σ a) b → ¬ isFr (env :: outer) b := fun b m => (S5m b m).elim (mf' b) fun z => by rw [z]; exact naf
  have frs5 : Frms h5 (env :: outer) := fun v hv => by
    rcases List.mem_cons.mp hv with rfl | hv
    · obtain ⟨m, hm, _⟩ := F5.ns
      exact ⟨F5.kind, _, m, efr, hm⟩
    · obtain ⟨q1, L, m, q2, o, es, ep, q3, r⟩ := FE v hv
      have hL : isFr outer L := List.mem_filterMap.mpr ⟨v, hv, q2⟩
      exact ⟨q1, L, m, q2, o, es, ep, B5 _ _ (fun z => mf _ .dx (z ▸ hL)) (offF _ hL).l (e4 _ _ (e3 _ _ (e02 _ _ q3))), r⟩
  have frk5 : FrK outer s.heap h5 := fun b o q z => ⟨o.slots, B5 _ _ (fun y => mf _ .dx (y ▸ q)) (offF _ q).l (e4 _ _ (e3 _ _ (e02 _ _ z)))⟩
  -- cycle = self._find_cycle()
  obtain ⟨t6, u6, I6⟩ := S5.ins
  have hfr' : (A.deeper env).frames = some (env :: outer) := by simp [Around.deeper, hfr]
  refine wpAny_execs_cons (wpAny_Assign_Name (meth0 (s := { s with heap := h5, toks := t5 }) (f := 134) rm' (KIn.ext BH.K F5.base) I6 (ev_pin F5 rfl) (by decide) rfl fun h6 t6' e6 => ?_))
  refine fc_ok (s := { s with heap := h6, toks := t6' }) (σ := prepS σ a) (outer := env :: outer) rm' BH (F5.base.trans e6) (S5.ext e6) hn sb hfr' (frs5.ext e6) (fun b q => ((frc b).mp q).elim (fun z => by rw [z]; exact F5.freshL) fun z => H0 _ (.inr z)) mf5 hout fun v h7 t7 x7 S7 p7 => ?_
  obtain ⟨F7, pr7⟩ := (F5.ext e6).slt x7 (frs5.ext e6) (fun b q => ((frc b).mp q).elim (fun z => by rw [z]; exact F5.freshL) fun z => H0 _ (.inr z)) (fun _ q => by cases q)
  have frk7 : FrK outer s.heap h7 := fun b o q z => by
    obtain ⟨sl, y⟩ := frk5 b o q z
    obtain ⟨sl2, y2⟩ := x7.fr b _ ((frc b).mpr (.inr q)) (e6 _ _ y)
    exact ⟨sl2, y2⟩
  refine Fm.store (s := { s with heap := h7, toks := t7 }) (p := prD (resD res)) F7 (.inl (kd _)) p7 fun h8 t8 F8 pr8 of8 => ?_
  have offM5 : ∀ b, Mem g (prepS σ a) b → Off env b := fun b m => (S5m b m).elim (offM b) fun z => by rw [z]; exact oa
  have S8 : Srt w h8 g (prepS σ a) := S7.keep fun b o m q => of8 b o (offM5 b m).l (offM5 b m).c q
  have frk8 : FrK outer s.heap h8 := fun b o q z => by
    obtain ⟨sl, y⟩ := frk7 b o q z
    exact ⟨sl, of8 _ _ (offF b q).l (offF b q).c y⟩
  -- if cycle
  cases res with
  | none =>
    have tst : ∀ p, Ts pw w (k + 1) env h8 (.Name "cycle" p) false := fun p A s' E Q rm e hq => by
      refine wpAny_isTrue_value (ev_varD (d := .none) F8 rfl (by decide) _ _ _ _ rm e fun v h9 t9 e9 p9 => ?_) rfl
      rw [Rd.inv_none p9]
      exact wpAny_pure (hq _ _ e9)
    refine wp_if (s := { s with heap := h8, toks := t8 }) rm' (tst _) (fun q => by cases q) fun _ h9 t9 e9 => wp_nil (wp_nil ?_)
    refine h1 rfl a h9 t9 (hback _ (F8.base.trans e9)) (fun b o q z => ?_) (S8.ext e9) nas
    obtain ⟨sl, y⟩ := frk8 b o q z
    exact ⟨sl, e9 _ _ y⟩
  | some r =>
    obtain ⟨hr, hrl⟩ := hne r rfl
    have tst : ∀ p, Ts pw w (k + 1) env h8 (.Name "cycle" p) true := fun p A s' E Q rm e hq => by
      refine wpAny_isTrue_value (ev_varD (d := .list (nD r)) F8 rfl (by decide) _ _ _ _ rm e fun v h9 t9 e9 p9 => ?_) rfl
      obtain ⟨l, vs, rfl, hl, hra⟩ := Rd.inv_list p9
      have hsz : vs.size = r.length := by have := hra.length; simpa [nD] using this
      have hvs : vs ≠ #[] := fun q => by rw [q] at hsz; exact hr (List.length_eq_zero_iff.mp (by simpa using hsz.symm))
      have hb : (!vs.isEmpty) = true := by simp [hvs]
      refine wpAny_truthy_list (s := { s' with heap := h9, toks := t9 }) hl (by rw [hsz]; omega) ?_
      rw [hb]
      exact hq _ _ e9
    refine wp_if (s := { s with heap := h8, toks := t8 }) rm' (tst _) (fun _ h9 t9 e9 => ?_) (fun q => by cases q)
    have F9 := F8.ext e9
    obtain ⟨es61, ep61, k61, sk61, nf61⟩ := kf_61 w.params
    refine wpAny_execs_cons (wpAny_Raise_call_sub (nm := "CycleError") (q := "CycleError") (C := 62) (N := 61) (bs := [.type "ValueError"]) (hdct := true) (sn := []) (sub := []) (ab := false) (col := none) (dd := none) (k0 := some (.ref 53)) (k1 := none) (k2 := some (.str "CycleError" 259)) (k3 := some (.str "CycleError" 267)) (k5 := some (.bool true)) (mN := nsFind es61) PySem.F.excBase_ValueError rm'.handled rfl nf61 (wpAny_Name (has_g (BH.glo.ext F9.base) BH.gC F9.kind (kd _) hg _ { s with heap := h9, toks := t9 } _ _ (.refl _) ⟨rfl, ?_⟩) (by decide)))
    refine Calls.evalArgs_plain (args_cons (JoinedStr_one (wpAny_Constant_str (args_cons (ev_varD (x := "cycle") (d := .list (nD r)) F9 rfl (by decide) _ _ _ _ rm' (.refl _) fun v h10 t10 e10 p10 => args_nil ?_)))))
    have X10 := KIn.ext BH.K (F9.base.trans e10)
    refine ⟨rfl, by simp [sizeLine], X10 62 _ (kf_62 _), ⟨_, es61, ep61, X10 61 _ k61, rfl, sk61, fun _ => rfl⟩, fun h11 e mx => ?_⟩
    have f7 : Frms h7 (env :: outer) := (frs5.ext e6).slt x7 (fun _ q => by cases q)
    have frs10 : Frms h10 (env :: outer) := fun v hv => by
      obtain ⟨q1, L, m, q2, o, es, ep, q3, r3⟩ := f7 v hv
      rcases List.mem_cons.mp hv with rfl | hv
      · obtain ⟨m', n', _⟩ := (F9.ext e10).ns
        exact ⟨q1, _, m', efr, n'⟩
      · have hL : isFr outer L := List.mem_filterMap.mpr ⟨v, hv, q2⟩
        exact ⟨q1, L, m, q2, o, es, ep, e10 _ _ (e9 _ _ (of8 _ _ (offF _ hL).l (offF _ hL).c q3)), r3⟩
    have fb : ∀ b, isFr (env :: outer) b → (hideS (isFr (env :: outer)) h10).get? b = none := fun b q => (hideS_get _ _ _).2 q
    refine wpAny_leaves_madeW (base := hideS (isFr (env :: outer)) h10) hfr' efr (fun b o q => ?_) (frs10.fun fb) mx fun h12 t12 fl tt nt up => ?_
    · by_cases z : isFr (env :: outer) b
      · rw [fb b z] at q; cases q
      · rw [(hideS_get _ _ _).1 z] at q; exact q
    · refine h2 r rfl a e t12 _ h12 _ fl (fun b o nb q => ?_) (fun b o q z => ?_) (S8.keep fun b o m q => ?_) nas
      · have nf : ¬ isFr (env :: outer) b := fun z => ((frc b).mp z).elim (off _ _ q).l fun z => nb (.inr z)
        rw [(hideS_get _ _ _).1 nf]
        exact hback _ (F9.base.trans e10) b o nb q
      · obtain ⟨sl, y⟩ := frk8 b o q z
        obtain ⟨m, o', es, ep, q1, q2, _⟩ := isFr_at FE q
        rw [z] at q1; cases q1
        have y11 := mx.keeps _ _ (e10 _ _ (e9 _ _ y))
        obtain ⟨sl2, y2⟩ := up b _ y11 (fun vs q => by rw [show ({ o with slots := sl } : Obj).data = o.data from rfl, q2] at q; cases q)
        exact ⟨sl2, y2⟩
      · rw [(hideS_get _ _ _).1 (mf5 b m)]
        exact e10 _ _ (e9 _ _ q)
end
end Mine

end

section
open PySem PySem.W PyProof.Rows PySem.SeqAt
set_option Elab.async false
set_option linter.all false
set_option autoImplicit false
namespace Mine
section
variable {w : World} {G : List (Str × Value)} {k : Nat} {A : Around} {E : Value → Shared → Prop} {s : Shared} {g : Geo} {σ : Sta} {hE h0 h h' : Heap} {env : Env} {ρ : Locs}
noncomputable def ItemsOf (d : Addr) : Value → Heap → Prop := fun v h => ∃ a, v = .ref a ∧ h.IsItemsView a d
theorem ev_items {o : Expr} {apos pos : Pos} {d : Addr} {kvs : List (Int × Value)} (hd : h.DictOf (knd w) d kvs) (hsm : (d == sysModules) = false) (ho : EvP pw w k env h o (IsV (.ref d)))
    (hbase : attributeBase o "items" env (eval o env) = eval o env := by rfl) (hline : (apos.endLine == pos.line) = true := by rfl) :
    EvP pw w k env h (.Call (.Attribute o "items" apos) [] [] pos) (ItemsOf d) := fun A s E Q rm hx hq => by
  refine wpAny_Call_method hbase rfl hline PySem.F.plainAttrs_dict PySem.F.slot_dict_items PySem.F.type_dict_items (ho A s E _ rm hx fun v h1 t1 e1 q1 => ?_)
  cases (q1 : v = _)
  have D1 : h1.DictOf (knd w) d kvs := hd.at fun o q => e1 _ _ (hx _ _ q)
  refine ⟨D1.typeIs (s := { s with heap := h1, toks := t1 }), fun a e => ?_, callWith_method0 ?_⟩
  · cases e
    obtain ⟨ob, es, ep, q, hex, r⟩ := D1
    exact ⟨ob, q, hex.2.1⟩
  · exact call_meetsIn (s := { s with heap := h1, toks := t1 }) PySem.F.slot_dict_items D1.typeIs PySem.F.entry_dict_items (PySem.F.args_dict_items_1 _) (meets_dict_items (knd w) d hsm) ⟨⟨kvs, D1⟩, hq _ _ _ (e1.trans (Ext.push _ _)) ⟨_, rfl, _, Heap.get?_push_size _ rfl, rfl, rfl⟩⟩
theorem putK_len (nm : Str) (v : Value) (m : Nat) : ∀ kv : List (Str × Value), kv.length ≤ m → (putK nm v kv).length ≤ m + 1
  | [], _ => by simp [putK]
  | p :: r, hm => by
    unfold putK
    split
    · simp at hm ⊢; omega
    · simp only [List.length_cons] at hm ⊢
      have := putK_len nm v (m - 1) r (by omega)
      omega
/-- what is told in the loop of __init__ -/
structure Ini (w : World) (hh h : Heap) (env : Env) (x dx d D : Addr) (It : Addr) (j : Nat) (g : Geo) : Prop where
  gx : g.x = x ∧ g.dx = dx ∧ g.d = d
  fm : Fm hh h env (pinR [("self", .ref x), ("graph", .ref D)])
  srt : Srt w h g (freshS j)
  new : ∀ b, Mem g (freshS j) b → hh.get? b = none ∧ Off env b ∧ b ≠ It
theorem freshS_add (j : Nat) (h : Heap) (g : Geo) (S : Srt w h g (addS (freshS j).push j [])) : Srt w h g (freshS (j + 1)) := by
  refine S.congr rfl rfl rfl rfl fun i hi => ?_
  simp only [addS, freshS, Sta.push, upd, suAdd]
  constructor
  · by_cases q : i = j <;> simp [q]
  · by_cases q : i = j <;> simp [q]
theorem Own.push_mem {y dy sl : Addr} {b : Addr} (m : Mem (g.push σ.n y dy sl) σ.push b) : Mem g σ b ∨ b = y ∨ b = dy ∨ b = sl := by
  cases m with
  | x => exact .inl .x
  | dx => exact .inl .dx
  | d => exact .inl .d
  | inf i hi =>
    by_cases z : i = σ.n
    · subst z; simp only [Geo.push, upd_same]; simp
    · simp only [Geo.push, upd_ne _ _ z]; exact .inl (.inf i (by have : i < σ.n + 1 := hi; omega))
  | din i hi =>
    by_cases z : i = σ.n
    · subst z; simp only [Geo.push, upd_same]; simp
    · simp only [Geo.push, upd_ne _ _ z]; exact .inl (.din i (by have : i < σ.n + 1 := hi; omega))
  | suc i hi =>
    by_cases z : i = σ.n
    · subst z; simp only [Geo.push, upd_same]; simp
    · simp only [Geo.push, upd_ne _ _ z]; exact .inl (.suc i (by have : i < σ.n + 1 := hi; omega))
  | rd _ l e => exact .inl (.rd _ l e)
set_option maxHeartbeats 1000000 in
theorem sorter_ok {R : Result → Shared → Prop} {hB : Heap} {D : Addr} {ls : Nat → Addr} {n : Nat} (rm : Room (k + 6) A) (B : Bse w G hB) (eB : Ext hB s.heap) (hD : s.heap.DictOf (knd w) D (dictL ls n)) (hDs : (D == sysModules) = false) (hls : ∀ i, i < n → s.heap.PlainList (ls i) #[]) (hn : n ≤ 50)
    (h : ∀ g h' tk, Ext s.heap h' → Srt w h' g (freshS n) → (∀ b, Mem g (freshS n) b → s.heap.get? b = none) → R (.ok (.ret (.ref g.x))) { s with heap := h', toks := tk }) : codeAny (model pw w) A (.call (.ref 144) ⟨[.ref D], []⟩) R s := by
  obtain ⟨hh, gg, d, t, os⟩ := s
  have B1 := B.ext eB
  have hf := List.all_eq_true.mp (kT_meth w.params) ("__init__", 80) (by decide)
  simp only [Bool.and_eq_true, beq_iff_eq] at hf
  refine make_core (makes_of B1.K (kT_makes _)) (looks_findIn B1.K hf.1) (fun self => bind_fn B1.K self hf.2) (.inl rfl) ?_
  have ex : Ext hh ((hh.push emptyDict).push (instObj 144 hh.objs.size)) := (Ext.push _ _).trans (Ext.push _ _)
  have gy : ((hh.push emptyDict).push (instObj 144 hh.objs.size)).get? (hh.objs.size + 1) = some (instObj 144 hh.objs.size) := by
    have := Heap.get?_push_size (hh.push emptyDict) (o := instObj 144 hh.objs.size) rfl
    rwa [Heap.size_push] at this
  have gd : ((hh.push emptyDict).push (instObj 144 hh.objs.size)).get? hh.objs.size = some emptyDict := Heap.get?_push_of_some _ (Heap.get?_push_size _ rfl)
  have ny : hh.get? (hh.objs.size + 1) = none := by
    cases q : hh.get? (hh.objs.size + 1) with
    | none => rfl
    | some o => exact absurd (Heap.lt_size q) (Nat.not_lt.mpr (Nat.le_succ _))
  have nd := get_size_none hh
  generalize ((hh.push emptyDict).push (instObj 144 hh.objs.size)) = h1 at *
  generalize hh.objs.size + 1 = x at *
  generalize hh.objs.size = dx at *
  have X1 := KIn.ext B1.K ex
  refine run_fn (s := ⟨h1, gg, d, t, os⟩) (k := k + 4) rm.under (X1 80 _ (kf_80 _)) (B1.glo.lim.keeps ex) (codeRec_K _ X1).2.1 (bind_init (X1 73 _ (by kernel_rfl))) (.refl _) (show ([Str.ofString "self", Str.ofString "graph"] : List Str).Nodup by decide) (by intro b hb; rcases List.mem_cons.mp hb with rfl | hb; exact .inl rfl; rw [List.mem_singleton.mp hb]; exact .inl rfl) rfl rfl rfl fun env h2 tk henv hs hg hb F off rm' => ?_
  have kd : ∀ x, env.kindOf x = (defScope sortC).names.lookup x := fun x => by rw [Env.kindOf, hs]
  have F1 : Fm hh h2 env (pinR [("self", .ref x), ("graph", .ref D)]) := F.rebase (ex.trans F.base) fun b q => by
    cases z : hh.get? b with
    | none => rfl
    | some o => rw [ex _ _ z] at q; cases q
  have oy : Off env x := off _ _ gy
  have od : Off env dx := off _ _ gd
  have BK := B1.K
  have I1 : Ins h2 x dx [] := ⟨F.base _ _ gy, [], 0, F.base _ _ gd, trivial⟩
  -- the four fields
  refine wp_setT (s := { heap := h2, gens := gg, drawn := d, toks := tk, os := os }) rm' F1 BK I1 od nd (name := "_node2info") (by decide) (by simp) (ev_pin F1 rfl) (ev_dict1 (KIn.ext BK F1.base)) fun v h3 h4 t4 e3 q3 F4 I4 B4 pr4 => ?_
  obtain ⟨d4, rfl, dd3, nd3, sm4⟩ := q3
  have dd4' : d4 ≠ dx := fun q => by rw [q, F.base _ _ gd] at nd3; cases nd3
  have od4 : Off env d4 := F1.off_new nd3
  have dd4 : h4.DictOf (knd w) d4 [] := dd3.at fun o q => B4 _ _ dd4' od4.l q
  have nd4 : hh.get? d4 = none := by
    cases z : hh.get? d4 with
    | none => rfl
    | some o => rw [F1.base _ _ z] at nd3; cases nd3
  refine wp_setT (s := { heap := h4, gens := gg, drawn := d, toks := t4, os := os }) rm' F4 BK I4 od nd (name := "_ready_nodes") (by decide) (Nat.le_trans (putK_len _ _ 0 _ (by simp)) (by omega)) (ev_pin F4 rfl) ev_none fun v h5 h6 t6 e5 q5 F6 I6 B6 pr6 => ?_
  have v5 := Rd.inv_none q5
  subst v5
  have dd6 : h6.DictOf (knd w) d4 [] := dd4.at fun o q => B6 _ _ dd4' od4.l (e5 _ _ q)
  refine wp_setT (s := { heap := h6, gens := gg, drawn := d, toks := t6, os := os }) rm' F6 BK I6 od nd (name := "_npassedout") (by decide) (Nat.le_trans (putK_len _ _ 1 _ (putK_len _ _ 0 _ (by simp))) (by omega)) (ev_pin F6 rfl) ev_int fun v h7 h8 t8 e7 q7 F8 I8 B8 pr8 => ?_
  obtain ⟨tp, rfl⟩ := q7.inv_int
  have dd8 : h8.DictOf (knd w) d4 [] := dd6.at fun o q => B8 _ _ dd4' od4.l (e7 _ _ q)
  refine wp_setT (s := { heap := h8, gens := gg, drawn := d, toks := t8, os := os }) rm' F8 BK I8 od nd (name := "_nfinished") (by decide) (Nat.le_trans (putK_len _ _ 2 _ (putK_len _ _ 1 _ (putK_len _ _ 0 _ (by simp)))) (by omega)) (ev_pin F8 rfl) ev_int fun v h9 h10 t10 e9 q9 F10 I10 B10 pr10 => ?_
  obtain ⟨tf, rfl⟩ := q9.inv_int
  have dd10 : h10.DictOf (knd w) d4 [] := dd8.at fun o q => B10 _ _ dd4' od4.l (e9 _ _ q)
  -- if graph is not None
  refine wp_if (s := { heap := h10, gens := gg, drawn := d, toks := t10, os := os }) rm' (notNone (ev_pin F10 (x := "graph") rfl) (b := true) rfl) (fun _ h11 t11 e11 => ?_) (fun q => by cases q)
  have F11 := F10.ext e11
  have S11 : Srt w h11 ⟨x, dx, d4, fun _ => 0, fun _ => 0, fun _ => 0⟩ (freshS 0) := by
    refine ⟨⟨tp, tf, I10.ext e11⟩, dd10.at fun o q => e11 _ _ q, ?_, ?_, ?_, ?_, ?_, ?_, fun q => dd4' q.symm, ?_, sm4⟩
    · intro i hi; cases hi
    · intro i hi; cases hi
    · intro a l e; cases e
    · intro i j hi; cases hi
    · intro i j hi; cases hi
    · intro a l i e; cases e
    · intro i hi; cases hi
  have M11 : ∀ b, Mem ⟨x, dx, d4, fun _ => 0, fun _ => 0, fun _ => 0⟩ (freshS 0) b → hh.get? b = none ∧ Off env b := fun b m => by
    cases m with
    | x => exact ⟨ny, oy⟩
    | dx => exact ⟨nd, od⟩
    | d => exact ⟨nd4, od4⟩
    | inf i hi => cases hi
    | din i hi => cases hi
    | suc i hi => cases hi
    | rd _ l e => cases e
  have D11 : h11.DictOf (knd w) D (dictL ls n) := hD.at fun o q => F11.base _ _ q
  refine wpAny_execs_cons (wpAny_For (EvP.run (s := { heap := h11, gens := gg, drawn := d, toks := t11, os := os }) (ev_items D11 hDs (ev_pin F11 rfl)) rm' fun v h12 t12 e12 q12 => ?_))
  obtain ⟨vw, rfl, hvw⟩ := q12
  have D12 : h12.DictOf (knd w) D (dictL ls n) := D11.at fun o q => e12 _ _ q
  obtain ⟨ep, da⟩ := D12.dictAt
  have dll : (dictL ls n).length = n := by simp [dictL]
  refine wpAny_pyIter_items (s := { heap := h12, gens := gg, drawn := d, toks := t12, os := os }) hvw da ?_
  have hItN : h12.get? h12.objs.size = none := get_size_none _
  have eP : Ext h12 (h12.push { cls := .type "dict_itemiterator", data := .fields #[.none, .bool false, .ref D, .int 0 0, .int (dictL ls n).length 0, .int ep 0, .none, .none] }) := Ext.push _ _
  have it0 : IsItemIter (h12.push { cls := .type "dict_itemiterator", data := .fields #[.none, .bool false, .ref D, .int 0 0, .int (dictL ls n).length 0, .int ep 0, .none, .none] }) h12.objs.size D 0 (dictL ls n).length ep .none .none := Heap.get?_push_size _ rfl
  generalize (h12.push { cls := .type "dict_itemiterator", data := .fields #[.none, .bool false, .ref D, .int 0 0, .int (dictL ls n).length 0, .int ep 0, .none, .none] }) = h13 at *
  generalize h12.objs.size = It at *
  have F13 := (F11.ext e12).ext eP
  have oIt : Off env It := (F11.ext e12).off_new hItN
  have nIt : hh.get? It = none := by
    cases z : hh.get? It with
    | none => rfl
    | some o => rw [(F11.ext e12).base _ _ z] at hItN; cases hItN
  have i0 : Ini w hh h13 env x dx d4 D It 0 ⟨x, dx, d4, fun _ => 0, fun _ => 0, fun _ => 0⟩ := ⟨⟨rfl, rfl, rfl⟩, F13, (S11.ext e12).ext eP, fun b m => ⟨(M11 b m).1, (M11 b m).2, fun q => by
    obtain ⟨o, ho⟩ := (S11.ext e12).at m
    rw [q, hItN] at ho; cases ho⟩⟩
  have DI : D ≠ It := fun q => by obtain ⟨_, _, z, _⟩ := da; rw [q, hItN] at z; cases z
  have offh : ∀ b o, hh.get? b = some o → Off env b := fun b o q => off _ _ (ex _ _ q)
  obtain ⟨oD, hoD⟩ : ∃ o, hh.get? D = some o := let ⟨o, _, _, q, _⟩ := hD; ⟨o, q⟩
  refine codeAny_forLoop_any (fun m s' => ∃ h tk j g ok ov, s' = { heap := h, gens := gg, drawn := d, toks := tk, os := os } ∧ j ≤ n ∧ m = n + 1 - j ∧ IsItemIter h It D j (dictL ls n).length ep ok ov ∧ h.DictAt (knd w) D (dictL ls n) ep ∧ Ini w hh h env x dx d4 D It j g) ?_ (n + 1)
    ⟨h13, t12, 0, _, .none, .none, rfl, Nat.zero_le _, rfl, it0, da.at' fun o q => eP _ _ q, i0⟩
  rintro m s' ⟨h14, t14, j, g, ok, ov, rfl, hjn, rfl, it14, da14, i14⟩
  rcases Nat.lt_or_ge j n with hlt | hge
  · have hx : (dictL ls n)[j]? = some ((j : Int), .ref (ls j)) := dictL_get hlt
    refine wpAny_pyNext_items_item (knd := knd w) (s := { heap := h14, gens := gg, drawn := d, toks := t14, os := os }) it14 da14 hx fun key h15 hkey io15 tu15 sz15 kp15 => ?_
    obtain ⟨tk0, rfl⟩ := intKey (w := w) hkey
    dsimp only at io15 tu15 sz15 kp15 ⊢
    refine wpAny_letOwnedTupleGo_items (s := { heap := h15, gens := gg, drawn := d, toks := t14, os := os }) io15 fun h16 it16 b16 => ?_
    have Tne : h14.objs.size ≠ It := Nat.ne_of_gt (Heap.lt_size it14)
    have tu16 : h16.IsTuple h14.objs.size #[.int (j : Int) tk0, .ref (ls j)] := ⟨_, (b16.2 _ Tne).trans tu15, rfl, _, rfl⟩
    refine wpAny_assign_Tuple (s := { heap := h16, gens := gg, drawn := d, toks := t14, os := os }) rm'.handled tu16 rfl rfl fun h17 x17 => ?_
    have kp16 : ∀ b o, b ≠ It → h14.get? b = some o → h16.get? b = some o := fun b o nb q => (b16.2 _ nb).trans (kp15 b o nb q)
    have N17 : h16.get? h16.objs.size = none := get_size_none _
    have kp17 : ∀ b o, b ≠ It → h14.get? b = some o → h17.get? b = some o := fun b o nb q => x17 b o (fun z => by have := kp16 b o nb q; rw [z, N17] at this; cases this) (kp16 b o nb q)
    have it17 : IsItemIter h17 It D (j + 1) (dictL ls n).length ep (.int (j : Int) tk0) (.ref (ls j)) := x17 It _ (fun z => by have := it16; rw [IsItemIter, z, N17] at this; cases this) it16
    -- the frame behind
    have F17 : Fm hh h17 env (pinR [("self", .ref x), ("graph", .ref D)]) := i14.fm.chgV (S := fun b => b = It) pinsP (fun b o nb q => kp17 b o nb q) (fun b q => by rw [q]; exact oIt) (fun b q => by rw [q]; exact nIt)
    show wpAny _ _ (holding [.ref (ls j)] (assign (.Name "node" _) env (.int (j : Int) tk0)) >>= fun _ => (holding [] (assign (.Name "predecessors" _) env (.ref (ls j))) >>= fun _ => pure ())) _ _ _
    refine wpAny_bind (wpAny_holding (wpAny_assign_Name (Fm.store (s := { heap := h17, gens := gg, drawn := d, toks := t14, os := os }) (p := prV (.int (j : Int) tk0)) F17 (.inl (kd _)) rfl fun h18 t18 F18 pr18 of18 => ?_)))
    refine wpAny_bind (wpAny_holding (wpAny_assign_Name (Fm.store (s := { heap := h18, gens := gg, drawn := d, toks := t18, os := os }) (p := prV (.ref (ls j))) F18 (.inl (kd _)) rfl fun h19 t19 F19 pr19 of19 => wpAny_pure ?_)))
    have kp19 : ∀ b o, Off env b → h17.get? b = some o → h19.get? b = some o := fun b o ob q => of19 _ _ ob.l ob.c (of18 _ _ ob.l ob.c q)
    have S19 : Srt w h19 g (freshS j) := i14.srt.keep fun b o m q => kp19 b o (i14.new b m).2.1 (kp17 b o (i14.new b m).2.2 q)
    obtain ⟨t20, u20, I19⟩ := S19.ins
    obtain ⟨gx, gdx, gd'⟩ := i14.gx
    have ls19 : h19.PlainList (ls j) #[] := let ⟨n', q⟩ := hls j hlt; ⟨n', F19.base _ _ q⟩
    have it19 := kp19 _ _ oIt it17
    have da19 : h19.DictAt (knd w) D (dictL ls n) ep := da14.at' fun o q => kp19 _ _ (offh _ _ hoD) (kp17 _ _ DI q)
    -- self.add(node, *predecessors)
    refine wpAny_execs_cons (wpAny_Expr (methS2 (s := { heap := h19, gens := gg, drawn := d, toks := t19, os := os }) (f := 94) (P := IsV (.int (j : Int) tk0)) rm' (KIn.ext BK F19.base) I19 (ev_pin F19 (by rw [gx]; rfl)) (by decide) rfl (ev_pin F19 rfl) (fun v h h' _ q => q) (fun vs => vs = []) (fun vs q => by rw [q]; simp [sizeLine])
      ((ev_pin F19 (x := "predecessors") rfl).mono fun v h' e (q : v = _) => by obtain ⟨n', z⟩ := ls19; exact ⟨[], rfl, ls j, _, n', q, e _ _ z, .inl rfl, rfl⟩) fun u vs h20 t20' e20 pu pv => ?_) (by unfold interactive; rw [F19.kind]; rfl) rfl)
    cases (pu : u = _)
    cases (pv : vs = _)
    refine add_new (s := { heap := h20, gens := gg, drawn := d, toks := t20', os := os }) (σ := freshS j) (k := k) rm' B1 (F19.base.trans e20) (S19.ext e20) rfl (by show j ≤ 50; omega) (fun i hi => by simp [freshS]) (fun b m => (i14.new b m.mem).1) fun y dy sl h21 t21 c21 S21 n1 n2 n3 => ?_
    have nn : ∀ b, h20.get? b = none → hh.get? b = none ∧ Off env b ∧ b ≠ It := fun b q => by
      refine ⟨?_, (F19.ext e20).off_new q, fun z => ?_⟩
      · cases z : hh.get? b with
        | none => rfl
        | some o => rw [(F19.base.trans e20) _ _ z] at q; cases q
      · have := e20 _ _ it19; rw [← z, q] at this; cases this
    have ownI : ¬ Own g (freshS j) It := fun m => (i14.new _ m.mem).2.2 rfl
    have ownD : ¬ Own g (freshS j) D := fun m => by have := (i14.new _ m.mem).1; rw [hoD] at this; cases this
    have F21 : Fm hh h21 env (pinR [("self", .ref x), ("graph", .ref D)]) := (((F19.drop rfl).drop rfl).ext e20).chgV (S := Own g (freshS j)) pinsP c21 (fun b m => (i14.new b m.mem).2.1) (fun b m => (i14.new b m.mem).1)
    refine wp_nil ⟨n + 1 - (j + 1), by omega, h21, t21, j + 1, g.push j y dy sl, .int (j : Int) tk0, .ref (ls j), rfl, hlt, rfl, c21 _ _ ownI (e20 _ _ it19), da19.at' fun o q => c21 _ _ ownD (e20 _ _ q), ?_⟩
    refine ⟨⟨gx, gdx, gd'⟩, F21, freshS_add j h21 _ S21, fun b m => ?_⟩
    have m' : Mem (g.push (freshS j).n y dy sl) (freshS j).push b := m.cast rfl rfl
    rcases Own.push_mem m' with q | q | q | q
    · exact i14.new b q
    · rw [q]; exact nn _ n1
    · rw [q]; exact nn _ n2
    · rw [q]; exact nn _ n3
  · have : j = n := Nat.le_antisymm hjn hge
    subst this
    refine wpAny_pyNext_items_end (knd := knd w) (s := { heap := h14, gens := gg, drawn := d, toks := t14, os := os }) rm'.handled it14 da14 (by simp [dictL]) fun h15 x15 => ?_
    have F15 : Fm hh h15 env (pinR [("self", .ref x), ("graph", .ref D)]) := i14.fm.chgV (S := fun b => b = It) pinsP (fun b o nb q => x15 b o nb q) (fun b q => by rw [q]; exact oIt) (fun b q => by rw [q]; exact nIt)
    refine wp_nil (wp_nil (wp_nil ⟨rfl, ?_⟩))
    have := h g h15 t14 F15.base (i14.srt.keep fun b o m q => x15 b o (i14.new b m).2.2 q) (fun b m => (i14.new b m).1)
    rw [i14.gx.1] at this
    exact this
end
end Mine

end

section
open PySem PySem.W PyProof.Rows PySem.SeqAt
set_option Elab.async false
set_option linter.all false
set_option autoImplicit false
namespace Mine
/-- the wheel, by places -/
noncomputable def cor : Nat → Pt
  | 0 => (2, 0) | 1 => (1, 1) | 2 => (-1, 1) | 3 => (-2, 0) | 4 => (-1, -1) | 5 => (1, -1) | _ => (2, 0)
noncomputable def Qt (t : Nat) : Pt := ((840 - (t % 840 : Nat)) * (cor (t / 840)).1 + (t % 840 : Nat) * (cor (t / 840 + 1)).1, (840 - (t % 840 : Nat)) * (cor (t / 840)).2 + (t % 840 : Nat) * (cor (t / 840 + 1)).2)
noncomputable def plP (p : Pt) : Int := plc p.1 p.2
noncomputable def okCol (r g b : Nat) : Bool :=
  let p := ptOf ((r : Int), (g : Int), (b : Int))
  if r = g ∧ g = b then decide (p = zP) else decide (0 ≤ plP p) && decide (plP p < 5040) && decide (Qt (plP p).toNat = p)
theorem okCol_all : ∀ r g b : Fin 9, okCol r g b = true := by decide +kernel
theorem plP_z : plP zP = -1 := by decide +kernel
/-- a point of the wheel, or grey -/
noncomputable def OnW (p : Pt) : Prop := p = zP ∨ ∃ t : Nat, t < 5040 ∧ p = Qt t ∧ plP p = (t : Int)
theorem onW_col {c : Col} (h : InCol c) : OnW (ptOf c) := by
  obtain ⟨r, g, b⟩ := c
  obtain ⟨⟨h1, h2⟩, ⟨h3, h4⟩, h5, h6⟩ := h
  simp only at h1 h2 h3 h4 h5 h6
  have := okCol_all ⟨r.toNat, by omega⟩ ⟨g.toNat, by omega⟩ ⟨b.toNat, by omega⟩
  simp only [okCol] at this
  rw [Int.toNat_of_nonneg h1, Int.toNat_of_nonneg h3, Int.toNat_of_nonneg h5] at this
  by_cases q : r.toNat = g.toNat ∧ g.toNat = b.toNat
  · rw [if_pos q] at this
    exact .inl (of_decide_eq_true this)
  · rw [if_neg q] at this
    simp only [Bool.and_eq_true, decide_eq_true_eq] at this
    obtain ⟨⟨q1, q2⟩, q3⟩ := this
    exact .inr ⟨(plP (ptOf (r, g, b))).toNat, by omega, q3.symm, by omega⟩
noncomputable def kk : Nat → Int
  | 0 => 0 | 1 => 2 | 2 => 2 | 3 => 0 | 4 => -2 | _ => -2
theorem kk_all : ∀ i j : Fin 7, lft (cor i) (cor j) = kk ((j.val + 6 - i.val) % 6) := by decide +kernel
theorem kk_of {i j : Nat} (hi : i < 7) (hj : j < 7) : lft (cor i) (cor j) = kk ((j + 6 - i) % 6) := kk_all ⟨i, hi⟩ ⟨j, hj⟩
theorem lft_mix (a b c d : Pt) (u v : Int) : lft ((840 - u) * a.1 + u * b.1, (840 - u) * a.2 + u * b.2) ((840 - v) * c.1 + v * d.1, (840 - v) * c.2 + v * d.2) =
    (840 - u) * (840 - v) * lft a c + (840 - u) * v * lft a d + u * (840 - v) * lft b c + u * v * lft b d := by
  simp only [lft, Int.sub_mul, Int.mul_sub, Int.add_mul, Int.mul_add]
  simp only [Int.mul_assoc, Int.mul_comm, Int.mul_left_comm]
  omega
noncomputable def okIJ (i j : Nat) : Bool := decide ((j + 1 + 6 - i) % 6 = ((j + 6 - i) % 6 + 1) % 6) && decide ((j + 6 - (i + 1)) % 6 = ((j + 6 - i) % 6 + 5) % 6) && decide ((j + 1 + 6 - (i + 1)) % 6 = (j + 6 - i) % 6) &&
  decide ((((j + 6 - i) % 6 : Nat) : Int) = (j : Int) - i ∨ (((j + 6 - i) % 6 : Nat) : Int) = (j : Int) - i + 6)
theorem okIJ_all : ∀ i j : Fin 6, okIJ i j = true := by decide +kernel
theorem lft_ij {i j u v : Nat} (hi : i < 6) (hj : j < 6) (hu : u < 840) (hv : v < 840) : ∃ (m : Nat) (u' v' w : Int), m < 6 ∧ 0 ≤ u' ∧ u' < 840 ∧ 0 ≤ v' ∧ v' < 840 ∧ 0 ≤ w ∧ (u' = 0 → w = 0) ∧ (v' = 0 → w = 0) ∧ ((840 * (j : Int) + v) - (840 * (i : Int) + u)).fmod 5040 = (840 * (m : Int) + v' - u').fmod 5040 ∧
    lft ((840 - (u : Int)) * (cor i).1 + (u : Int) * (cor (i + 1)).1, (840 - (u : Int)) * (cor i).2 + (u : Int) * (cor (i + 1)).2) ((840 - (v : Int)) * (cor j).1 + (v : Int) * (cor (j + 1)).1, (840 - (v : Int)) * (cor j).2 + (v : Int) * (cor (j + 1)).2) =
      (705600 - 840 * u' - 840 * v' + w) * kk m + (840 * v' - w) * kk ((m + 1) % 6) + (840 * u' - w) * kk ((m + 5) % 6) + w * kk m := by
  have ok := okIJ_all ⟨i, hi⟩ ⟨j, hj⟩
  obtain ⟨ok, o4⟩ := Bool.and_eq_true_iff.mp ok
  obtain ⟨ok, o3⟩ := Bool.and_eq_true_iff.mp ok
  obtain ⟨o1, o2⟩ := Bool.and_eq_true_iff.mp ok
  have e1 : (j + 1 + 6 - i) % 6 = ((j + 6 - i) % 6 + 1) % 6 := of_decide_eq_true o1
  have e2 : (j + 6 - (i + 1)) % 6 = ((j + 6 - i) % 6 + 5) % 6 := of_decide_eq_true o2
  have e3 : (j + 1 + 6 - (i + 1)) % 6 = (j + 6 - i) % 6 := of_decide_eq_true o3
  have e4 : (((j + 6 - i) % 6 : Nat) : Int) = (j : Int) - i ∨ (((j + 6 - i) % 6 : Nat) : Int) = (j : Int) - i + 6 := of_decide_eq_true o4
  refine ⟨(j + 6 - i) % 6, u, v, (u : Int) * v, Nat.mod_lt _ (by decide), Int.natCast_nonneg _, Int.ofNat_lt.mpr hu, Int.natCast_nonneg _, Int.ofNat_lt.mpr hv, Int.mul_nonneg (Int.natCast_nonneg _) (Int.natCast_nonneg _), fun q => by rw [q, Int.zero_mul], fun q => by rw [q, Int.mul_zero], ?_, ?_⟩
  · rcases e4 with q | q
    · rw [q, show 840 * ((j : Int) - i) + v - u = (840 * (j : Int) + v) - (840 * (i : Int) + u) by clear q e1 e2 e3; omega]
    · rw [q, show 840 * ((j : Int) - i + 6) + v - u = ((840 * (j : Int) + v) - (840 * (i : Int) + u)) + 5040 by clear q e1 e2 e3; omega, Int.fmod_eq_emod_of_nonneg _ (by decide), Int.fmod_eq_emod_of_nonneg _ (by decide), Int.add_emod_right]
  · rw [lft_mix, kk_of (Nat.lt_succ_of_lt hi) (Nat.lt_succ_of_lt hj), kk_of (Nat.lt_succ_of_lt hi) (Nat.succ_lt_succ hj), kk_of (Nat.succ_lt_succ hi) (Nat.lt_succ_of_lt hj), kk_of (Nat.succ_lt_succ hi) (Nat.succ_lt_succ hj), e1, e2, e3]
    clear e1 e2 e3 e4 o1 o2 o3 o4 hu hv
    generalize kk ((j + 6 - i) % 6) = k0
    generalize kk (((j + 6 - i) % 6 + 1) % 6) = k1
    generalize kk (((j + 6 - i) % 6 + 5) % 6) = k2
    generalize (u : Int) = u
    generalize (v : Int) = v
    have f1 : (840 - u) * (840 - v) = 705600 - 840 * u - 840 * v + u * v := by
      rw [Int.sub_mul, Int.mul_sub, Int.mul_sub, Int.mul_comm u 840]; omega
    have f2 : (840 - u) * v = 840 * v - u * v := by rw [Int.sub_mul]
    have f3 : u * (840 - v) = 840 * u - u * v := by rw [Int.mul_sub, Int.mul_comm u 840]
    rw [f1, f2, f3]
theorem lft_Qt (a b : Nat) (ha : a < 5040) (hb : b < 5040) : ∃ (m : Nat) (u v w : Int), m < 6 ∧ 0 ≤ u ∧ u < 840 ∧ 0 ≤ v ∧ v < 840 ∧ 0 ≤ w ∧ (u = 0 → w = 0) ∧ (v = 0 → w = 0) ∧ ((b : Int) - a).fmod 5040 = (840 * (m : Int) + v - u).fmod 5040 ∧
    lft (Qt a) (Qt b) = (705600 - 840 * u - 840 * v + w) * kk m + (840 * v - w) * kk ((m + 1) % 6) + (840 * u - w) * kk ((m + 5) % 6) + w * kk m := by
  have da : ∀ a : Nat, (a : Int) = 840 * ((a / 840 : Nat) : Int) + ((a % 840 : Nat) : Int) := fun a => (congrArg Int.ofNat (Nat.div_add_mod a 840)).symm.trans (Int.natCast_add _ _)
  rw [da a, da b]
  exact lft_ij (Nat.div_lt_of_lt_mul (show a < 840 * 6 from ha)) (Nat.div_lt_of_lt_mul (show b < 840 * 6 from hb)) (Nat.mod_lt _ (by decide)) (Nat.mod_lt _ (by decide))
noncomputable def CR (L D : Int) : Prop := (0 < L ↔ 0 < D ∧ D < 2520) ∧ (L = 0 ↔ D = 0 ∨ D = 2520)
theorem cr_pos {L D : Int} (h1 : 0 < L) (h2 : 0 < D) (h3 : D < 2520) : CR L D := ⟨⟨fun _ => ⟨h2, h3⟩, fun _ => h1⟩, ⟨fun q => absurd h1 (by rw [q]; decide), fun q => q.elim (fun q => absurd h2 (by rw [q]; decide)) (fun q => absurd h3 (by rw [q]; decide))⟩⟩
theorem cr_neg {L D : Int} (h1 : L < 0) (h2 : 2520 < D) : CR L D := ⟨⟨fun q => absurd (Int.lt_trans q h1) (by decide), fun q => absurd (Int.lt_trans h2 q.2) (by decide)⟩, ⟨fun q => absurd h1 (by rw [q]; decide), fun q => q.elim (fun q => absurd h2 (by rw [q]; decide)) (fun q => absurd h2 (by rw [q]; decide))⟩⟩
theorem cr_zero {L D : Int} (h1 : L = 0) (h2 : D = 0 ∨ D = 2520) : CR L D := ⟨⟨fun q => absurd q (by rw [h1]; decide), fun q => h2.elim (fun z => absurd q.1 (by rw [z]; decide)) (fun z => absurd q.2 (by rw [z]; decide))⟩, ⟨fun _ => h2, fun _ => h1⟩⟩
theorem cross_at {m : Nat} {u v w : Int} (hm : m < 6) (u1 : 0 ≤ u) (u2 : u < 840) (v1 : 0 ≤ v) (v2 : v < 840) (w0 : 0 ≤ w) :
    CR ((705600 - 840 * u - 840 * v + w) * kk m + (840 * v - w) * kk ((m + 1) % 6) + (840 * u - w) * kk ((m + 5) % 6) + w * kk m) ((840 * (m : Int) + v - u) % 5040) := by
  match m, hm with
  | 0, _ =>
    show CR ((705600 - 840 * u - 840 * v + w) * (0) + (840 * v - w) * (2) + (840 * u - w) * (-2) + w * (0)) ((0 + v - u) % 5040)
    rcases Int.lt_trichotomy u v with q | q | q
    · rw [Int.emod_eq_of_lt (by omega) (by omega)]; exact cr_pos (by omega) (by omega) (by omega)
    · subst q; exact cr_zero (by omega) (.inl (by rw [Int.zero_add, Int.sub_self]; rfl))
    · rw [← Int.add_emod_right, Int.emod_eq_of_lt (by omega) (by omega)]; exact cr_neg (by omega) (by omega)
  | 1, _ =>
    show CR ((705600 - 840 * u - 840 * v + w) * (2) + (840 * v - w) * (2) + (840 * u - w) * (0) + w * (2)) ((840 + v - u) % 5040)
    rw [Int.emod_eq_of_lt (by omega) (by omega)]; exact cr_pos (by omega) (by omega) (by omega)
  | 2, _ =>
    show CR ((705600 - 840 * u - 840 * v + w) * (2) + (840 * v - w) * (0) + (840 * u - w) * (2) + w * (2)) ((1680 + v - u) % 5040)
    rw [Int.emod_eq_of_lt (by omega) (by omega)]; exact cr_pos (by omega) (by omega) (by omega)
  | 3, _ =>
    show CR ((705600 - 840 * u - 840 * v + w) * (0) + (840 * v - w) * (-2) + (840 * u - w) * (2) + w * (0)) ((2520 + v - u) % 5040)
    rw [Int.emod_eq_of_lt (by omega) (by omega)]
    rcases Int.lt_trichotomy v u with q | q | q
    · exact cr_pos (by omega) (by omega) (by omega)
    · exact cr_zero (by omega) (.inr (by omega))
    · exact cr_neg (by omega) (by omega)
  | 4, _ =>
    show CR ((705600 - 840 * u - 840 * v + w) * (-2) + (840 * v - w) * (-2) + (840 * u - w) * (0) + w * (-2)) ((3360 + v - u) % 5040)
    rw [Int.emod_eq_of_lt (by omega) (by omega)]; exact cr_neg (by omega) (by omega)
  | 5, _ =>
    show CR ((705600 - 840 * u - 840 * v + w) * (-2) + (840 * v - w) * (0) + (840 * u - w) * (-2) + w * (-2)) ((4200 + v - u) % 5040)
    rw [Int.emod_eq_of_lt (by omega) (by omega)]; exact cr_neg (by omega) (by omega)
theorem cross {a b : Nat} (ha : a < 5040) (hb : b < 5040) : (0 < lft (Qt a) (Qt b) ↔ 0 < ((b : Int) - a).fmod 5040 ∧ ((b : Int) - a).fmod 5040 < 2520) ∧ (lft (Qt a) (Qt b) = 0 ↔ ((b : Int) - a).fmod 5040 = 0 ∨ ((b : Int) - a).fmod 5040 = 2520) := by
  obtain ⟨m, u, v, w, hm, u1, u2, v1, v2, w0, wu, wv, e1, e2⟩ := lft_Qt a b ha hb
  rw [e1, e2, Int.fmod_eq_emod_of_nonneg _ (by decide)]
  exact cross_at hm u1 u2 v1 v2 w0
end Mine

end

section
open PySem PySem.W PyProof.Rows PySem.SeqAt
set_option Elab.async false
set_option linter.all false
set_option autoImplicit false
namespace Mine
/-- done, plainly -/
theorem decs_np (a : Addr) : ∀ (L : List Nat) (σ : Sta) (j : Nat), L.Nodup → (L.foldl (decS a) σ).np j = if j ∈ L then σ.np j - 1 else σ.np j
  | [], σ, j, _ => by simp
  | x :: L, σ, j, hn => by
    rw [List.nodup_cons] at hn
    rw [List.foldl_cons, decs_np a L _ j hn.2]
    have e : (decS a σ x).np j = if j = x then σ.np x - 1 else σ.np j := rfl
    rw [e]
    by_cases q : j = x
    · subst q; simp [hn.1]
    · simp [q]
theorem decs_rl (a : Addr) : ∀ (L : List Nat) (σ : Sta), L.Nodup → rl (L.foldl (decS a) σ) = rl σ ++ L.filter fun j => decide (σ.np j = 1)
  | [], σ, _ => by simp
  | x :: L, σ, hn => by
    rw [List.nodup_cons] at hn
    rw [List.foldl_cons, decs_rl a L _ hn.2]
    have e1 : rl (decS a σ x) = if σ.np x - 1 = 0 then rl σ ++ [x] else rl σ := rfl
    have e2 : (L.filter fun j => decide ((decS a σ x).np j = 1)) = L.filter fun j => decide (σ.np j = 1) := by
      refine List.filter_congr fun j hj => ?_
      have : (decS a σ x).np j = σ.np j := by
        show (if j = x then _ else _) = _
        rw [if_neg (fun q : j = x => hn.1 (by rw [← q]; exact hj))]
      rw [this]
    rw [e1, e2, List.filter_cons]
    by_cases q : σ.np x = 1
    · rw [if_pos (by omega), if_pos (by simpa using q)]; simp
    · rw [if_neg (by omega), if_neg (by simpa using q)]
theorem done_np {a : Addr} {σ : Sta} {x : Nat} (hn : (σ.su x).Nodup) (hx : x ∉ σ.su x) (j : Nat) : (doneS a σ x).np j = if j ∈ σ.su x then σ.np j - 1 else if j = x then -2 else σ.np j := by
  show (fin1 a σ x).np j = _
  unfold fin1
  rw [decs_np a _ _ j hn]
  by_cases q : j ∈ σ.su x
  · have hne : j ≠ x := fun z => hx (z ▸ q)
    simp [q, upd_ne _ _ hne]
  · by_cases z : j = x
    · subst z; simp [q, upd_same]
    · simp [q, z, upd_ne _ _ z]
theorem done_rl {a : Addr} {σ : Sta} {x : Nat} (hn : (σ.su x).Nodup) (hx : x ∉ σ.su x) : rl (doneS a σ x) = rl σ ++ (σ.su x).filter fun j => decide (σ.np j = 1) := by
  have e : rl (doneS a σ x) = rl (fin1 a σ x) := rfl
  rw [e]
  unfold fin1
  rw [decs_rl a _ _ hn]
  have : rl { σ with np := upd σ.np x (-2) } = rl σ := rfl
  rw [this]
  congr 1
  refine List.filter_congr fun j hj => ?_
  show decide (upd σ.np x (-2) j = 1) = _
  rw [upd_ne _ _ (fun z : j = x => hx (by rw [z] at hj; exact hj))]
theorem done_su (a : Addr) (σ : Sta) (x : Nat) : (doneS a σ x).su = σ.su := (dones_same a [x] σ).2.1
theorem done_nf (a : Addr) (σ : Sta) (x : Nat) : (doneS a σ x).nf = σ.nf + 1 := by
  show (fin1 a σ x).nf + 1 = _
  rw [show (fin1 a σ x).nf = σ.nf from (decs_same a (σ.su x) { σ with np := upd σ.np x (-2) }).2.2.2]
theorem dones_np (a : Addr) : ∀ (ls : List Nat) (σ : Sta), ls.Nodup → (∀ x ∈ ls, (σ.su x).Nodup) → (∀ x ∈ ls, ∀ y ∈ ls, y ∉ σ.su x) → ∀ j, (ls.foldl (doneS a) σ).np j = if j ∈ ls then -2 else σ.np j - ((ls.countP fun x => decide (j ∈ σ.su x) : Nat) : Int)
  | [], σ, _, _, _, j => by simp
  | x :: ls, σ, hn, hs, hd, j => by
    rw [List.nodup_cons] at hn
    have e := done_su a σ x
    rw [List.foldl_cons, dones_np a ls _ hn.2 (fun y hy => by rw [e]; exact hs y (List.mem_cons_of_mem _ hy)) (fun y hy z hz => by rw [e]; exact hd y (List.mem_cons_of_mem _ hy) z (List.mem_cons_of_mem _ hz)) j,
      done_np (hs x List.mem_cons_self) (hd x List.mem_cons_self x List.mem_cons_self), e, List.countP_cons]
    by_cases q1 : j ∈ ls
    · simp [q1]
    · by_cases q2 : j = x
      · subst q2
        have z : j ∉ σ.su j := hd j List.mem_cons_self j List.mem_cons_self
        have c0 : (ls.countP fun x => decide (j ∈ σ.su x)) = 0 := by
          rw [List.countP_eq_zero]
          intro y hy
          simpa using hd y (List.mem_cons_of_mem _ hy) j List.mem_cons_self
        simp [q1, z, c0]
      · by_cases q3 : j ∈ σ.su x
        · simp [q1, q2, q3]; omega
        · simp [q1, q2, q3]
theorem dones_nf (a : Addr) : ∀ (ls : List Nat) (σ : Sta), (ls.foldl (doneS a) σ).nf = σ.nf + (ls.length : Nat)
  | [], σ => by simp
  | x :: ls, σ => by
    rw [List.foldl_cons, dones_nf a ls, done_nf, List.length_cons]; omega
noncomputable def liv (l : List Nat) : Bool := match l with | [] => false | _ => true
theorem liv_iff {l : List Nat} : liv l = true ↔ l ≠ [] := by cases l <;> simp [liv]
theorem liv_nil {l : List Nat} (h : l = []) : liv l = false := by rw [h]; rfl
theorem liv_ne {l : List Nat} (h : l ≠ []) : liv l = true := liv_iff.mpr h
theorem dones_rl (a : Addr) (L : List Nat) (hL : L.Nodup) (ex : Nat → Nat) : ∀ (ls : List Nat) (σ : Sta), ls.Nodup → (∀ x ∈ ls, σ.su x ≠ [] → σ.su x = L) → (∀ x ∈ ls, x ∉ L) →
    (∀ j ∈ L, σ.np j = ((ls.countP fun x => liv (σ.su x) : Nat) : Int) + (ex j : Nat)) →
    rl (ls.foldl (doneS a) σ) = rl σ ++ if (ls.countP fun x => liv (σ.su x)) = 0 then [] else L.filter fun j => decide (ex j = 0)
  | [], σ, _, _, _, _ => by simp
  | x :: ls, σ, hn, hs, hd, hp => by
    rw [List.nodup_cons] at hn
    have e := done_su a σ x
    have hxx : x ∉ σ.su x := fun q => by
      by_cases z : σ.su x = []
      · rw [z] at q; cases q
      · rw [hs x List.mem_cons_self z] at q; exact hd x List.mem_cons_self q
    have hnx : (σ.su x).Nodup := by
      by_cases z : σ.su x = []
      · rw [z]; exact List.nodup_nil
      · rw [hs x List.mem_cons_self z]; exact hL
    rw [List.countP_cons] at hp ⊢
    have ih := dones_rl a L hL ex ls (doneS a σ x) hn.2 (fun y hy => by rw [e]; exact hs y (List.mem_cons_of_mem _ hy)) (fun y hy => hd y (List.mem_cons_of_mem _ hy)) (fun j hj => by
      rw [e, done_np hnx hxx]
      have hjx : j ≠ x := fun z => hd x List.mem_cons_self (z ▸ hj)
      have := hp j hj
      by_cases z : σ.su x = []
      · rw [liv_nil z, if_neg (by decide)] at this
        rw [z, if_neg (by simp), if_neg hjx]; omega
      · have z' := hs x List.mem_cons_self z
        rw [liv_ne z, if_pos rfl] at this
        rw [z', if_pos hj]
        omega)
    rw [List.foldl_cons, ih, done_rl hnx hxx, e]
    by_cases z : σ.su x = []
    · have z2 := liv_nil z
      rw [z2]
      simp only [Bool.false_eq_true, if_false, Nat.add_zero]
      rw [z, List.filter_nil, List.append_nil]
    · have z' := hs x List.mem_cons_self z
      rw [liv_ne z, if_pos rfl, z', if_neg (show ¬ ((ls.countP fun x => liv (σ.su x)) + 1 = 0) by omega)]
      have hp' : ∀ j ∈ L, σ.np j = ((ls.countP fun x => liv (σ.su x) : Nat) : Int) + 1 + (ex j : Nat) := fun j hj => by
        have := hp j hj
        rw [liv_ne z, if_pos rfl] at this; omega
      by_cases c : (ls.countP fun x => liv (σ.su x)) = 0
      · have f : (L.filter fun j => decide (σ.np j = 1)) = L.filter fun j => decide (ex j = 0) := by
          refine List.filter_congr fun j hj => ?_
          have := hp' j hj
          rw [decide_eq_decide]
          omega
        rw [f, if_pos c, List.append_nil]
      · have f : (L.filter fun j => decide (σ.np j = 1)) = [] := by
          rw [List.filter_eq_nil_iff]
          intro j hj
          have := hp' j hj
          simp only [decide_eq_true_eq]
          omega
        rw [f, if_neg c, List.append_nil]
end Mine

end

section
open PySem PySem.W PyProof.Rows PySem.SeqAt
set_option Elab.async false
set_option linter.all false
set_option autoImplicit false
namespace Mine
/-- a graph whose nodes have ranks -/
structure Rkd (n : Nat) (E : Nat → Nat → Bool) (rk : Nat → Nat) : Prop where
  inn : ∀ i j, E i j = true → i < n ∧ j < n
  up : ∀ i j, E i j = true → rk i < rk j
  pre : ∀ j, j < n → 0 < rk j → ∃ i, E i j = true ∧ rk i + 1 = rk j
  sam : ∀ i i' j, i < n → i' < n → rk i = rk i' → (∃ j', E i' j' = true) → E i j = true → E i' j = true
noncomputable def suG (n : Nat) (E : Nat → Nat → Bool) (i : Nat) : List Nat := (List.range n).filter (E i)
noncomputable def cntR (n : Nat) (E : Nat → Nat → Bool) (rk : Nat → Nat) (r j : Nat) : Nat := (List.range n).countP fun p => E p j && decide (r ≤ rk p)
noncomputable def Rnd (n : Nat) (rk : Nat → Nat) (r : Nat) : List Nat := (List.range n).filter fun i => decide (rk i = r)
noncomputable def below (n : Nat) (rk : Nat → Nat) (r : Nat) : Nat := (List.range n).countP fun i => decide (rk i < r)
noncomputable def stK (n : Nat) (E : Nat → Nat → Bool) (rk : Nat → Nat) (a : Addr) (r : Nat) : Sta :=
  { n := n, np := fun i => if rk i < r then -2 else (cntR n E rk r i : Nat), su := suG n E, rd := some (a, Rnd n rk r), po := (below n rk r : Nat), nf := (below n rk r : Nat) }
structure SEq (σ τ : Sta) : Prop where
  n : σ.n = τ.n
  rd : σ.rd = τ.rd
  po : σ.po = τ.po
  nf : σ.nf = τ.nf
  np : ∀ i, i < σ.n → σ.np i = τ.np i ∧ σ.su i = τ.su i
theorem countP_split {α : Type} (p q : α → Bool) (l : List α) : l.countP p = l.countP (fun x => p x && q x) + l.countP (fun x => p x && !q x) := by
  induction l with
  | nil => rfl
  | cons x l ih =>
    rw [List.countP_cons, List.countP_cons, List.countP_cons, ih]
    cases p x <;> cases q x <;> simp <;> omega
section
variable {n : Nat} {E : Nat → Nat → Bool} {rk : Nat → Nat} {a : Addr} {r : Nat}
theorem rnd_nodup : (Rnd n rk r).Nodup := List.nodup_range.sublist List.filter_sublist
theorem suG_nodup (i : Nat) : (suG n E i).Nodup := List.nodup_range.sublist List.filter_sublist
theorem mem_rnd {i : Nat} : i ∈ Rnd n rk r ↔ i < n ∧ rk i = r := by simp [Rnd]
theorem mem_suG {i j : Nat} (G : Rkd n E rk) : j ∈ suG n E i ↔ E i j = true := by
  simp only [suG, List.mem_filter, List.mem_range]
  exact ⟨fun h => h.2, fun h => ⟨(G.inn i j h).2, h⟩⟩
theorem outS_np (σ : Sta) (l : List Nat) : (outS σ a l).np = npOut σ.np l := rfl
/-- one round -/
theorem round_step (G : Rkd n E rk) : SEq ((Rnd n rk r).foldl (doneS a) (outS (stK n E rk a r) a (Rnd n rk r))) (stK n E rk a (r + 1)) := by
  have hsu : (outS (stK n E rk a r) a (Rnd n rk r)).su = suG n E := rfl
  have hnd : ∀ x ∈ Rnd n rk r, ((outS (stK n E rk a r) a (Rnd n rk r)).su x).Nodup := fun x _ => suG_nodup x
  have hds : ∀ x ∈ Rnd n rk r, ∀ y ∈ Rnd n rk r, y ∉ (outS (stK n E rk a r) a (Rnd n rk r)).su x := fun x hx y hy q => by
    rw [hsu, mem_suG G] at q
    have := G.up x y q
    have := (mem_rnd.mp hx).2
    have := (mem_rnd.mp hy).2
    omega
  obtain ⟨s1, s2, s3⟩ := dones_same a (Rnd n rk r) (outS (stK n E rk a r) a (Rnd n rk r))
  have bl : below n rk (r + 1) = below n rk r + (Rnd n rk r).length := by
    unfold below Rnd
    rw [countP_split _ (fun i => decide (rk i < r))]
    congr 1
    · refine List.countP_congr fun i _ => ?_
      simp only [Bool.and_eq_true, decide_eq_true_eq]; omega
    · rw [← List.countP_eq_length_filter]
      refine List.countP_congr fun i _ => ?_
      simp only [Bool.and_eq_true, decide_eq_true_eq, Bool.not_eq_true', decide_eq_false_iff_not]; omega
  refine ⟨s1, ?_, ?_, ?_, fun i hi => ⟨?_, by rw [s2]; rfl⟩⟩
  · -- the next round stands ready
    obtain ⟨l, hl⟩ := dones_rd a (Rnd n rk r) (outS (stK n E rk a r) a (Rnd n rk r)) ⟨[], rfl⟩
    rw [hl]
    show some (a, l) = some (a, Rnd n rk (r + 1))
    have hrl := rl_some hl
    rw [← hrl]
    congr 2
    by_cases hlv : ∃ x ∈ Rnd n rk r, suG n E x ≠ []
    · obtain ⟨x, hx, hxs⟩ := hlv
      obtain ⟨y0, hy0⟩ := List.exists_mem_of_ne_nil _ hxs
      have hE0 := (mem_suG G).mp hy0
      have hxr := mem_rnd.mp hx
      have same : ∀ z ∈ Rnd n rk r, suG n E z ≠ [] → suG n E z = suG n E x := fun z hz hzs => by
        obtain ⟨y1, hy1⟩ := List.exists_mem_of_ne_nil _ hzs
        have hE1 := (mem_suG G).mp hy1
        have hzr := mem_rnd.mp hz
        refine List.filter_congr fun j _ => ?_
        rw [Bool.eq_iff_iff]
        exact ⟨fun h => G.sam z x j hzr.1 hxr.1 (hzr.2.trans hxr.2.symm) ⟨y0, hE0⟩ h, fun h => G.sam x z j hxr.1 hzr.1 (hxr.2.trans hzr.2.symm) ⟨y1, hE1⟩ h⟩
      have key := dones_rl a (suG n E x) (suG_nodup x) (fun j => cntR n E rk (r + 1) j) (Rnd n rk r) (outS (stK n E rk a r) a (Rnd n rk r)) rnd_nodup (fun z hz => same z hz) (fun z hz q => by
        have h1 := G.up x z ((mem_suG G).mp q)
        have := (mem_rnd.mp hz).2
        have := hxr.2
        omega) (fun j hj => by
          have hxj := (mem_suG G).mp hj
          have hjr := G.up x j hxj
          have hjn := (G.inn x j hxj).2
          rw [outS_np, npOut, if_neg (fun q => by have := (mem_rnd.mp q).2; have := hxr.2; omega)]
          show (if rk j < r then (-2 : Int) else (cntR n E rk r j : Nat)) = _
          rw [if_neg (by have := hxr.2; omega)]
          have e : cntR n E rk r j = ((Rnd n rk r).countP fun x => liv ((outS (stK n E rk a r) a (Rnd n rk r)).su x)) + cntR n E rk (r + 1) j := by
            unfold cntR
            rw [countP_split _ (fun p => decide (rk p = r))]
            congr 1
            · simp only [hsu]
              rw [Rnd, List.countP_filter]
              refine List.countP_congr fun p hp => ?_
              have hpn := List.mem_range.mp hp
              simp only [Bool.and_eq_true, decide_eq_true_eq, liv_iff]
              constructor
              · rintro ⟨⟨h1, h2⟩, h3⟩
                exact ⟨(fun q => by have := (mem_suG G).mpr h1; rw [q] at this; cases this), h3⟩
              · rintro ⟨h1, h2⟩
                refine ⟨⟨?_, by omega⟩, h2⟩
                have := same p (mem_rnd.mpr ⟨hpn, h2⟩) h1
                exact (mem_suG G).mp (by rw [this]; exact hj)
            · refine List.countP_congr fun p _ => ?_
              simp only [Bool.and_eq_true, decide_eq_true_eq, Bool.not_eq_true', decide_eq_false_iff_not]
              constructor
              · rintro ⟨⟨h1, h2⟩, h3⟩; exact ⟨h1, by omega⟩
              · rintro ⟨h1, h2⟩; exact ⟨⟨h1, by omega⟩, by omega⟩
          rw [e]; omega)
      rw [key]
      have hc : ((Rnd n rk r).countP fun x => liv ((outS (stK n E rk a r) a (Rnd n rk r)).su x)) ≠ 0 := by
        intro q
        rw [List.countP_eq_zero] at q
        exact q x hx (liv_ne hxs)
      rw [if_neg hc]
      show [] ++ _ = _
      rw [List.nil_append]
      unfold suG Rnd
      rw [List.filter_filter]
      refine List.filter_congr fun j hj => ?_
      have hjn := List.mem_range.mp hj
      rw [Bool.eq_iff_iff]
      simp only [Bool.and_eq_true, decide_eq_true_eq]
      constructor
      · rintro ⟨h1, h2⟩
        have h3 := G.up x j h2
        have hxr2 := hxr.2
        by_cases q : rk j = r + 1
        · exact q
        · obtain ⟨i, h4, h5⟩ := G.pre j hjn (by omega)
          unfold cntR at h1
          rw [List.countP_eq_zero] at h1
          exact absurd (show (E i j && decide (r + 1 ≤ rk i)) = true by rw [h4]; simp; omega) (h1 i (List.mem_range.mpr (G.inn i j h4).1))
      · intro h1
        obtain ⟨i, h4, h5⟩ := G.pre j hjn (by omega)
        have hi := (G.inn i j h4).1
        have hir : i ∈ Rnd n rk r := mem_rnd.mpr ⟨hi, by omega⟩
        refine ⟨?_, ?_⟩
        · unfold cntR
          rw [List.countP_eq_zero]
          intro p _ q
          simp only [Bool.and_eq_true, decide_eq_true_eq] at q
          have := G.up p j q.1
          omega
        · have := same i hir (fun q => by have := (mem_suG G).mpr h4; rw [q] at this; cases this)
          exact (mem_suG G).mp (by rw [← this]; exact (mem_suG G).mpr h4)
    · have hno : ∀ x ∈ Rnd n rk r, suG n E x = [] := fun x hx => Classical.byContradiction fun q => hlv ⟨x, hx, q⟩
      have key := dones_rl a [] List.nodup_nil (fun _ => 0) (Rnd n rk r) (outS (stK n E rk a r) a (Rnd n rk r)) rnd_nodup (fun z hz q => absurd (hno z hz) q) (fun z _ => by simp) (fun j hj => by cases hj)
      rw [key]
      have : Rnd n rk (r + 1) = [] := by
        rw [Rnd, List.filter_eq_nil_iff]
        intro j hj q
        simp only [decide_eq_true_eq] at q
        obtain ⟨i, h4, h5⟩ := G.pre j (List.mem_range.mp hj) (by omega)
        have := (mem_suG G).mpr h4
        rw [hno i (mem_rnd.mpr ⟨(G.inn i j h4).1, by omega⟩)] at this
        cases this
      rw [this]
      show [] ++ _ = _
      split <;> simp
  · rw [s3]
    show (((below n rk r : Nat) : Int) + ((Rnd n rk r).length : Nat)) = ((below n rk (r + 1) : Nat) : Int)
    rw [bl]; omega
  · rw [dones_nf]
    show (((below n rk r : Nat) : Int) + ((Rnd n rk r).length : Nat)) = ((below n rk (r + 1) : Nat) : Int)
    rw [bl]; omega
  · rw [s1] at hi
    have hin : i < n := hi
    rw [dones_np a _ _ rnd_nodup hnd hds]
    show _ = if rk i < r + 1 then (-2 : Int) else (cntR n E rk (r + 1) i : Nat)
    by_cases q : i ∈ Rnd n rk r
    · rw [if_pos q, if_pos (by have := (mem_rnd.mp q).2; omega)]
    · rw [if_neg q, outS_np, npOut, if_neg q]
      have hne : rk i ≠ r := fun z => q (mem_rnd.mpr ⟨hin, z⟩)
      show (if rk i < r then (-2 : Int) else (cntR n E rk r i : Nat)) - _ = _
      by_cases z : rk i < r
      · rw [if_pos z, if_pos (by omega)]
        have : ((Rnd n rk r).countP fun x => decide (i ∈ (outS (stK n E rk a r) a (Rnd n rk r)).su x)) = 0 := by
          rw [List.countP_eq_zero]
          intro x hx y
          rw [decide_eq_true_eq, hsu, mem_suG G] at y
          have := G.up x i y
          have := (mem_rnd.mp hx).2
          omega
        rw [this]; rfl
      · rw [if_neg z, if_neg (by omega)]
        have e : cntR n E rk r i = ((Rnd n rk r).countP fun x => decide (i ∈ (outS (stK n E rk a r) a (Rnd n rk r)).su x)) + cntR n E rk (r + 1) i := by
          unfold cntR
          rw [countP_split _ (fun p => decide (rk p = r))]
          congr 1
          · simp only [hsu]
            rw [Rnd, List.countP_filter]
            refine List.countP_congr fun p hp => ?_
            simp only [Bool.and_eq_true, decide_eq_true_eq, mem_suG G]
            constructor
            · rintro ⟨⟨h1, h2⟩, h3⟩; exact ⟨h1, h3⟩
            · rintro ⟨h1, h2⟩; exact ⟨⟨h1, by omega⟩, h2⟩
          · refine List.countP_congr fun p _ => ?_
            simp only [Bool.and_eq_true, decide_eq_true_eq, Bool.not_eq_true', decide_eq_false_iff_not]
            constructor
            · rintro ⟨⟨h1, h2⟩, h3⟩; exact ⟨h1, by omega⟩
            · rintro ⟨h1, h2⟩; exact ⟨⟨h1, by omega⟩, by omega⟩
        rw [e]; omega
end
end Mine

end

section
open PySem PySem.W PyProof.Rows PySem.SeqAt
set_option Elab.async false
set_option linter.all false
set_option autoImplicit false
namespace Mine
noncomputable def remQ (su : Nat → List Nat) : List (Nat × Nat) → Nat
  | [] => 0
  | (x, k) :: q => ((su x).length - k) + remQ su q
noncomputable def potS (su : Nat → List Nat) (sn : List Nat) : List Nat → Nat
  | [] => 0
  | x :: xs => (if x ∈ sn then 0 else (su x).length + 1) + potS su sn xs
theorem potS_add {su : Nat → List Nat} {sn : List Nat} {y : Nat} : ∀ {xs : List Nat}, xs.Nodup → y ∉ sn → potS su sn xs = potS su (y :: sn) xs + if y ∈ xs then (su y).length + 1 else 0
  | [], _, _ => rfl
  | x :: xs, hn, hy => by
    rw [List.nodup_cons] at hn
    have ih := potS_add (su := su) (xs := xs) hn.2 hy
    unfold potS
    rw [ih]
    by_cases q : x = y
    · subst q
      simp [hy, hn.1]; omega
    · have q' : ¬ y = x := fun z => q z.symm
      by_cases z : x ∈ sn
      · simp [z, q']
      · simp [z, q, q']; omega
theorem potS_le {su : Nat → List Nat} {sn : List Nat} {b : Nat} : ∀ {xs : List Nat}, (∀ x ∈ xs, (su x).length ≤ b) → potS su sn xs ≤ xs.length * (b + 1)
  | [], _ => by simp [potS]
  | x :: xs, hb => by
    unfold potS
    have ih := potS_le (su := su) (sn := sn) (b := b) (xs := xs) fun y hy => hb y (List.mem_cons_of_mem _ hy)
    have := hb x List.mem_cons_self
    rw [List.length_cons, Nat.succ_mul]
    split <;> omega
theorem popS_some {su : Nat → List Nat} {z : Nat} {q'' : List (Nat × Nat)} : ∀ {q : List (Nat × Nat)}, popS su q = some (z, q'') → ∃ x k r, q'' = (x, k + 1) :: r ∧ (su x)[k]? = some z ∧ ((x, k) :: r).IsSuffix q ∧ remQ su q'' + 1 ≤ remQ su q
  | [], h => by simp [popS] at h
  | (x, k) :: q, h => by
    unfold popS at h
    cases hk : (su x)[k]? with
    | some y =>
      rw [hk] at h
      simp only [Option.some.injEq, Prod.mk.injEq] at h
      obtain ⟨rfl, rfl⟩ := h
      refine ⟨x, k, q, rfl, hk, List.suffix_refl _, ?_⟩
      have := (List.getElem?_eq_some_iff.mp hk).1
      simp only [remQ]; omega
    | none =>
      rw [hk] at h
      obtain ⟨x', k', r, h1, h2, h3, h4⟩ := popS_some (q := q) h
      refine ⟨x', k', r, h1, h2, h3.trans (List.suffix_cons _ _), ?_⟩
      simp only [remQ]; omega
/-- no cycle: no ring -/
theorem vis_none {n : Nat} {E : Nat → Nat → Bool} {rk : Nat → Nat} (hin : ∀ i j, E i j = true → i < n ∧ j < n) (up : ∀ i j, E i j = true → rk i < rk j) : ∀ (f : Nat) (sn : List Nat) (q : List (Nat × Nat)) (y : Nat), y < n →
    q.Pairwise (fun a b => rk b.1 < rk a.1) → (∀ e ∈ q, rk e.1 < rk y) → potS (suG n E) sn (List.range n) + remQ (suG n E) q + 1 ≤ f → ∃ sn', visD (suG n E) f sn q y = some (none, sn')
  | 0, sn, q, y, _, _, _, hf => by omega
  | f + 1, sn, q, y, hy, hp, hq, hf => by
    have hyq : y ∉ q.map (·.1) := fun z => by
      obtain ⟨e, he, rfl⟩ := List.mem_map.mp z
      exact Nat.lt_irrefl _ (hq e he)
    rw [visD, if_neg (fun z => hyq z.2)]
    have step : ∀ (sn' : List Nat) (q' : List (Nat × Nat)), q'.Pairwise (fun a b => rk b.1 < rk a.1) → potS (suG n E) sn' (List.range n) + remQ (suG n E) q' ≤ f → ∃ s', (match popS (suG n E) q' with | none => some (none, sn') | some (z, q'') => visD (suG n E) f sn' q'' z) = some ((none : Option (List Nat)), s') := fun sn' q' hp' hf' => by
      cases hpop : popS (suG n E) q' with
      | none => exact ⟨sn', rfl⟩
      | some zz =>
        obtain ⟨z, q''⟩ := zz
        obtain ⟨x, k, r, rfl, hk, hsuf, hrem⟩ := popS_some hpop
        have hzx : E x z = true := by
          have := List.mem_of_getElem? hk
          simp only [suG, List.mem_filter] at this
          exact this.2
        have hpr := hp'.sublist hsuf.sublist
        rw [List.pairwise_cons] at hpr
        exact vis_none hin up f sn' ((x, k + 1) :: r) z (hin x z hzx).2 (List.pairwise_cons.mpr ⟨hpr.1, hpr.2⟩) (fun e he => by
          rcases List.mem_cons.mp he with rfl | he
          · exact up x z hzx
          · exact Nat.lt_trans (hpr.1 e he) (up x z hzx)) (by omega)
    by_cases q1 : y ∈ sn
    · simp only [q1, if_true]
      exact step sn q hp (by omega)
    · simp only [q1, if_false]
      refine step (y :: sn) ((y, 0) :: q) (List.pairwise_cons.mpr ⟨fun e he => hq e he, hp⟩) ?_
      have := potS_add (su := suG n E) (xs := List.range n) List.nodup_range q1
      rw [if_pos (List.mem_range.mpr hy)] at this
      simp only [remQ, Nat.sub_zero]
      omega
theorem out_none {n : Nat} {E : Nat → Nat → Bool} {rk : Nat → Nat} (hin : ∀ i j, E i j = true → i < n ∧ j < n) (up : ∀ i j, E i j = true → rk i < rk j) (hn : n ≤ 9) : ∀ (xs : List Nat) (sn : List Nat), (∀ x ∈ xs, x < n) → outD (suG n E) 200 xs sn = some none
  | [], _, _ => rfl
  | x :: xs, sn, h => by
    rw [outD]
    by_cases q : x ∈ sn
    · rw [if_pos q]; exact out_none hin up hn xs sn fun y hy => h y (List.mem_cons_of_mem _ hy)
    · rw [if_neg q]
      have hb : potS (suG n E) sn (List.range n) ≤ (List.range n).length * (9 + 1) := potS_le fun y _ => by
        have : (suG n E y).length ≤ (List.range n).length := List.length_filter_le _ _
        rw [List.length_range] at this; omega
      rw [List.length_range] at hb
      obtain ⟨sn', hv⟩ := vis_none hin up 200 sn [] x (h x List.mem_cons_self) List.Pairwise.nil (fun e he => by cases he) (by simp only [remQ]; omega)
      rw [hv]
      exact out_none hin up hn xs sn' fun y hy => h y (List.mem_cons_of_mem _ hy)
/-- everyone goes on: the ring -/
theorem vis_ring {n : Nat} {su : Nat → List Nat} {nx : Nat → Nat} {live : Nat → Prop} (hl : ∀ x, live x → x < n ∧ (su x)[0]? = some (nx x) ∧ live (nx x)) : ∀ (f : Nat) (init : List Nat) (sn : List Nat) (q : List (Nat × Nat)) (y : Nat), (q.map (·.1)).reverse = init → (∀ z, live z → (z ∈ sn ↔ z ∈ init)) → live y →
    init.Nodup → (∀ z ∈ init, live z) → n < f + init.length → ∃ sn', visD su (f + 1) sn q y = some (some (ringW nx f init y), sn') := by
  intro f
  induction f with
  | zero =>
    intro init sn q y hq hs hy hn hi hf
    by_cases z : y ∈ init
    · refine ⟨sn, ?_⟩
      rw [visD, if_pos ⟨(hs y hy).mpr z, by rw [← hq] at z; simpa using z⟩, ringQ, hq]
      rfl
    · exfalso
      have hlen : init.length + 1 ≤ n := by
        have : (init ++ [y]).length ≤ n := nodup_bound (List.nodup_append.mpr ⟨hn, by simp, fun a ha b hb q => by rw [List.mem_singleton] at hb; rw [q, hb] at ha; exact z ha⟩) fun i hi' => by
          rcases List.mem_append.mp hi' with h | h
          · exact (hl i (hi i h)).1
          · rw [List.mem_singleton.mp h]; exact (hl y hy).1
        simpa using this
      omega
  | succ f ih =>
    intro init sn q y hq hs hy hn hi hf
    by_cases z : y ∈ init
    · refine ⟨sn, ?_⟩
      rw [visD, if_pos ⟨(hs y hy).mpr z, by rw [← hq] at z; simpa using z⟩, ringQ, hq, ringW, if_pos z]
    · have hys : y ∉ sn := fun q => z ((hs y hy).mp q)
      rw [visD, if_neg (fun w => hys w.1)]
      simp only [hys, if_false]
      have hp : popS su ((y, 0) :: q) = some (nx y, (y, 1) :: q) := by
        unfold popS
        rw [(hl y hy).2.1]
      rw [hp]
      obtain ⟨sn', h⟩ := ih (init ++ [y]) (y :: sn) ((y, 1) :: q) (nx y) (by simp [hq]) (fun w hw => by
        rw [List.mem_cons, List.mem_append, List.mem_singleton, hs w hw]; exact or_comm) (hl y hy).2.2 (List.nodup_append.mpr ⟨hn, by simp, fun a ha b hb q => by rw [List.mem_singleton] at hb; rw [q, hb] at ha; exact z ha⟩) (fun w hw => by
        rcases List.mem_append.mp hw with h | h
        · exact hi w h
        · rw [List.mem_singleton.mp h]; exact hy) (by simp; omega)
      refine ⟨sn', ?_⟩
      rw [ringW, if_neg z]
      exact h
theorem out_ring {n : Nat} {su : Nat → List Nat} {nx : Nat → Nat} {live : Nat → Prop} (hl : ∀ x, live x → x < n ∧ (su x)[0]? = some (nx x) ∧ live (nx x)) {y : Nat} (hy : live y) {post : List Nat} : ∀ (pre : List Nat) (sn : List Nat), (∀ x ∈ pre, su x = []) → (∀ z, live z → z ∉ sn) → (∀ x ∈ pre, ¬ live x) →
    outD su (n + 2) (pre ++ y :: post) sn = some (some (ringW nx (n + 1) [] y))
  | [], sn, _, hs, _ => by
    rw [List.nil_append, outD, if_neg (hs y hy)]
    obtain ⟨sn', h⟩ := vis_ring hl (n + 1) [] sn [] y rfl (fun z hz => by simp [hs z hz]) hy (by simp) (by simp) (by simp)
    rw [h]
  | x :: pre, sn, hp, hs, hd => by
    rw [List.cons_append, outD]
    by_cases q : x ∈ sn
    · rw [if_pos q]
      exact out_ring hl hy pre sn (fun z hz => hp z (List.mem_cons_of_mem _ hz)) hs fun z hz => hd z (List.mem_cons_of_mem _ hz)
    · rw [if_neg q]
      have : visD su (n + 2) sn [] x = some (none, x :: sn) := by
        rw [visD, if_neg (fun w => q w.1)]
        simp only [q, if_false]
        have : popS su [(x, 0)] = none := by simp [popS, hp x List.mem_cons_self]
        rw [this]
      rw [this]
      refine out_ring hl hy pre (x :: sn) (fun z hz => hp z (List.mem_cons_of_mem _ hz)) (fun z hz w => ?_) fun z hz => hd z (List.mem_cons_of_mem _ hz)
      rcases List.mem_cons.mp w with w | w
      · exact hd x List.mem_cons_self (w ▸ hz)
      · exact hs z hz w
theorem ringW_ne {nx : Nat → Nat} : ∀ (f : Nat) (init : List Nat) (y : Nat), ringW nx f init y ≠ [] ∧ (ringW nx f init y).length ≤ init.length + f + 1
  | 0, init, y => by simp [ringW]
  | f + 1, init, y => by
    rw [ringW]
    split
    · simp; omega
    · have := ringW_ne (nx := nx) f (init ++ [y]) (nx y)
      refine ⟨this.1, ?_⟩
      have h := this.2
      simp at h; omega
end Mine

end

section
open PySem PySem.W PyProof.Rows PySem.SeqAt
set_option Elab.async false
set_option linter.all false
set_option autoImplicit false
namespace Mine
noncomputable def edg (P : List Pt) (i j : Nat) : Bool := decide (0 < lft (at_ P i) (at_ P j))
theorem lft_zl (a : Pt) : lft zP a = 0 := by simp [lft, zP]
theorem lft_anti (a b : Pt) : lft b a = - lft a b := by simp only [lft]; rw [Int.mul_comm b.1, Int.mul_comm b.2]; omega
theorem lft_self (a : Pt) : lft a a = 0 := by have := lft_anti a a; omega
theorem at_out {P : List Pt} {i : Nat} (h : P.length ≤ i) : at_ P i = zP := by
  rw [at_, List.getD_eq_getElem?_getD, List.getElem?_eq_none h]; rfl
theorem at_lt {P : List Pt} {i : Nat} (h : at_ P i ≠ zP) : i < P.length := by
  rcases Nat.lt_or_ge i P.length with q | q
  · exact q
  · exact absurd (at_out q) h
theorem edg_ne {P : List Pt} {i j : Nat} (h : edg P i j = true) : at_ P i ≠ zP ∧ at_ P j ≠ zP := by
  have h := of_decide_eq_true h
  constructor
  · intro q; rw [q, lft_zl] at h; omega
  · intro q; rw [q, lft_zero] at h; omega
theorem edg_in {P : List Pt} (i j : Nat) (h : edg P i j = true) : i < P.length ∧ j < P.length := ⟨at_lt (edg_ne h).1, at_lt (edg_ne h).2⟩
theorem mem_at {P : List Pt} {p : Pt} (h : p ∈ P) : at_ P (P.idxOf p) = p := by
  have := idxOf_get h
  rw [at_, List.getD_eq_getElem?_getD, this]; rfl
theorem mem_kinds {P : List Pt} {p : Pt} : p ∈ kindsOf P ↔ p ∈ P ∧ p ≠ zP := by
  refine ⟨kinds_sub, fun ⟨h1, h2⟩ => ?_⟩
  refine List.mem_map.mpr ⟨P.idxOf p, List.mem_filter.mpr ⟨List.mem_range.mpr (List.idxOf_lt_length_iff.mpr h1), ?_⟩, mem_at h1⟩
  rw [mem_at h1]
  simp only [Bool.and_eq_true, decide_eq_true_eq, Bool.not_eq_true', decide_eq_false_iff_not]
  refine ⟨h2, fun q => ?_⟩
  obtain ⟨m, hm, hx⟩ := List.getElem_of_mem q
  have hm' : m < P.idxOf p := by simp at hm; omega
  have : P[m]? = some p := by
    rw [List.getElem_take] at hx
    rw [← hx]; simp at hm ⊢
  exact idxOf_first hm' this rfl
theorem mem_kinds_at {P : List Pt} {i : Nat} (h : at_ P i ≠ zP) : at_ P i ∈ kindsOf P := mem_kinds.mpr ⟨at_mem (at_lt h), h⟩
theorem kinds_nodup (P : List Pt) : (kindsOf P).Nodup := by
  unfold kindsOf
  rw [List.Nodup, List.pairwise_map]
  have : ((List.range P.length).filter fun i => decide (at_ P i ≠ zP) && !decide (at_ P i ∈ P.take i)).Pairwise (· < ·) := List.pairwise_lt_range.sublist List.filter_sublist
  refine List.Pairwise.imp_of_mem ?_ this
  intro i j hi hj hlt q
  rw [List.mem_filter, List.mem_range] at hi hj
  have hj2 := hj.2
  simp only [Bool.and_eq_true, decide_eq_true_eq, Bool.not_eq_true', decide_eq_false_iff_not] at hj2
  refine hj2.2 ?_
  rw [← q]
  have := at_get hi.1
  refine List.mem_of_getElem? (i := i) ?_
  rw [List.getElem?_take, if_pos hlt]; exact this
theorem mem_heads {P : List Pt} {p : Pt} : p ∈ headsOf P ↔ p ∈ kindsOf P ∧ ∀ o ∈ kindsOf P, 0 ≤ lft p o := by
  unfold headsOf
  rw [List.mem_filter, decide_eq_true_eq]
  refine and_congr_right fun hp => ?_
  have hne : (kindsOf P).map (lft p) ≠ [] := fun q => by
    have : lft p p ∈ (kindsOf P).map (lft p) := List.mem_map.mpr ⟨p, hp, rfl⟩
    rw [q] at this; cases this
  obtain ⟨h1, h2⟩ := min_spec hne
  have h0 : (0 : Int) ∈ (kindsOf P).map (lft p) := List.mem_map.mpr ⟨p, hp, lft_self p⟩
  constructor
  · intro q o ho
    rw [← q]; exact h2 _ (List.mem_map.mpr ⟨o, ho, rfl⟩)
  · intro q
    have := h2 0 h0
    obtain ⟨o, ho, e⟩ := List.mem_map.mp h1
    have := q o ho
    omega
/-- places -/
structure Whl (P : List Pt) : Prop where
  on : ∀ p ∈ P, OnW p
  k0 : kindsOf P ≠ []
  n9 : P.length ≤ 9
noncomputable def tm (p : Pt) : Int := plP p
section
variable {P : List Pt}
theorem Whl.pt (W : Whl P) {p : Pt} (h : p ∈ kindsOf P) : ∃ t : Nat, t < 5040 ∧ p = Qt t ∧ tm p = (t : Int) := by
  obtain ⟨h1, h2⟩ := mem_kinds.mp h
  exact (W.on p h1).resolve_left h2
theorem Whl.tm_bd (W : Whl P) {p : Pt} (h : p ∈ kindsOf P) : 0 ≤ tm p ∧ tm p < 5040 := by
  obtain ⟨t, h1, _, h2⟩ := W.pt h; omega
theorem Whl.pos (W : Whl P) {p o : Pt} (hp : p ∈ kindsOf P) (ho : o ∈ kindsOf P) : 0 < lft p o ↔ 0 < (tm o - tm p) % 5040 ∧ (tm o - tm p) % 5040 < 2520 := by
  obtain ⟨a, ha, rfl, ea⟩ := W.pt hp
  obtain ⟨b, hb, rfl, eb⟩ := W.pt ho
  rw [ea, eb, (cross ha hb).1, Int.fmod_eq_emod_of_nonneg _ (by decide)]
theorem Whl.nonneg (W : Whl P) {p o : Pt} (hp : p ∈ kindsOf P) (ho : o ∈ kindsOf P) : 0 ≤ lft p o ↔ (tm o - tm p) % 5040 ≤ 2520 := by
  have h1 := W.pos ho hp
  rw [lft_anti p o] at h1
  have b1 := W.tm_bd hp
  have b2 := W.tm_bd ho
  constructor
  · intro q
    have : ¬ (0 < - lft p o) := by omega
    rw [h1] at this
    omega
  · intro q
    have : ¬ (0 < (tm p - tm o) % 5040 ∧ (tm p - tm o) % 5040 < 2520) := by omega
    rw [← h1] at this
    omega
theorem Whl.inj (W : Whl P) {p o : Pt} (hp : p ∈ kindsOf P) (ho : o ∈ kindsOf P) (h : tm p = tm o) : p = o := by
  obtain ⟨a, ha, ea, qa⟩ := W.pt hp
  obtain ⟨b, hb, eb, qb⟩ := W.pt ho
  have : a = b := by omega
  rw [ea, eb, this]
theorem way {a b c : Int} (h : (a - b) % 5040 ≤ (a - c) % 5040) : (b - c) % 5040 = (a - c) % 5040 - (a - b) % 5040 := by
  have e : b - c = (a - c) - (a - b) := by omega
  rw [e, Int.sub_emod]
  exact Int.emod_eq_of_lt (Int.sub_nonneg_of_le h) (Int.lt_of_le_of_lt (Int.sub_le_self _ (Int.emod_nonneg _ (by decide))) (Int.emod_lt_of_pos _ (by decide)))
theorem back {a b : Int} (h : (a - b) % 5040 = 0) : (b - a) % 5040 = 0 := by
  have e : b - a = -(a - b) := (Int.neg_sub _ _).symm
  rw [e]
  exact Int.emod_eq_zero_of_dvd ((Int.dvd_neg).mpr (Int.dvd_of_emod_eq_zero h))
/-- no head: everyone has someone to the left -/
theorem Whl.succ (W : Whl P) (h : headsOf P = []) : ∀ i, i < P.length → at_ P i ≠ zP → ∃ j, j < P.length ∧ 0 < lft (at_ P i) (at_ P j) := by
  intro i hi hz
  have hik := mem_kinds_at hz
  -- everyone has someone to the right
  have pre : ∀ p ∈ kindsOf P, ∃ o ∈ kindsOf P, 0 < lft o p := fun p hp => by
    have : p ∉ headsOf P := by rw [h]; simp
    rw [mem_heads] at this
    have hx : ¬ ∀ o ∈ kindsOf P, 0 ≤ lft p o := fun q => this ⟨hp, q⟩
    obtain ⟨o, ho⟩ := Classical.not_forall.mp hx
    obtain ⟨ho1, ho2⟩ := Classical.not_imp.mp ho
    exact ⟨o, ho1, by rw [lft_anti p o]; omega⟩
  refine Classical.byContradiction fun hno => ?_
  have no : ∀ o ∈ kindsOf P, ¬ (0 < lft (at_ P i) o) := fun o ho q => hno ⟨P.idxOf o, List.idxOf_lt_length_iff.mpr (mem_kinds.mp ho).1, by rw [mem_at (mem_kinds.mp ho).1]; exact q⟩
  -- the least way
  have least : ∀ (m : Nat) (o : Pt), o ∈ kindsOf P → (tm o - tm (at_ P i)) % 5040 = (m : Int) → 0 < m → False := by
    intro m
    induction m using Nat.strongRecOn with
    | _ m ih =>
      intro o ho hm h0
      obtain ⟨x, hx, hxo⟩ := pre o ho
      rw [W.pos hx ho] at hxo
      have n1 := no o ho
      rw [W.pos hik ho] at n1
      rw [hm] at n1
      have lt : (tm o - tm x) % 5040 < (m : Int) := by generalize (tm o - tm x) % 5040 = B at hxo; omega
      have ew := way (a := tm o) (b := tm x) (c := tm (at_ P i)) (by rw [hm]; exact Int.le_of_lt lt)
      rw [hm] at ew
      have nn : 0 ≤ (tm x - tm (at_ P i)) % 5040 := Int.emod_nonneg _ (by decide)
      refine ih ((tm x - tm (at_ P i)) % 5040).toNat ?_ x hx (Int.toNat_of_nonneg nn).symm ?_
      · rw [ew]; generalize (tm o - tm x) % 5040 = B at hxo lt; omega
      · rw [ew]; generalize (tm o - tm x) % 5040 = B at hxo lt; omega
  obtain ⟨x, hx, hxi⟩ := pre _ hik
  rw [W.pos hx hik] at hxi
  have nn : 0 ≤ (tm x - tm (at_ P i)) % 5040 := Int.emod_nonneg _ (by decide)
  refine least ((tm x - tm (at_ P i)) % 5040).toNat x hx (Int.toNat_of_nonneg nn).symm ?_
  rcases Int.lt_or_eq_of_le nn with q | q
  · exact Int.lt_toNat.mpr q
  · exact absurd hxi.1 (by rw [back q.symm]; decide)
end
end Mine

end

section
open PySem PySem.W PyProof.Rows PySem.SeqAt
set_option Elab.async false
set_option linter.all false
set_option autoImplicit false
namespace Mine
theorem exists_max {α : Type} (f : α → Int) (p : α → Prop) : ∀ (l : List α), (∃ x ∈ l, p x) → ∃ x ∈ l, p x ∧ ∀ y ∈ l, p y → f y ≤ f x
  | [], h => by obtain ⟨x, hx, _⟩ := h; cases hx
  | a :: l, h => by
    by_cases q : ∃ x ∈ l, p x
    · obtain ⟨x, hx, hpx, hm⟩ := exists_max f p l q
      by_cases pa : p a ∧ f x < f a
      · exact ⟨a, List.mem_cons_self, pa.1, fun y hy py => by
          rcases List.mem_cons.mp hy with rfl | hy
          · exact Int.le_refl _
          · have := hm y hy py; omega⟩
      · exact ⟨x, List.mem_cons_of_mem _ hx, hpx, fun y hy py => by
          rcases List.mem_cons.mp hy with rfl | hy
          · have : ¬ (f x < f y) := fun z => pa ⟨py, z⟩
            omega
          · exact hm y hy py⟩
    · obtain ⟨x, hx, hpx⟩ := h
      rcases List.mem_cons.mp hx with rfl | hx
      · exact ⟨x, List.mem_cons_self, hpx, fun y hy py => by
          rcases List.mem_cons.mp hy with rfl | hy
          · exact Int.le_refl _
          · exact absurd ⟨y, hy, py⟩ q⟩
      · exact absurd ⟨x, hx, hpx⟩ q
theorem countP_lt {α : Type} {p r : α → Bool} : ∀ {l : List α}, (∀ x ∈ l, p x = true → r x = true) → (∃ x ∈ l, r x = true ∧ p x = false) → l.countP p < l.countP r
  | [], _, h => by obtain ⟨x, hx, _⟩ := h; cases hx
  | a :: l, hi, h => by
    rw [List.countP_cons, List.countP_cons]
    have hle : l.countP p ≤ l.countP r := List.countP_mono_left fun x hx => hi x (List.mem_cons_of_mem _ hx)
    obtain ⟨x, hx, h1, h2⟩ := h
    rcases List.mem_cons.mp hx with rfl | hx
    · simp [h1, h2]; omega
    · have := countP_lt (fun y hy => hi y (List.mem_cons_of_mem _ hy)) ⟨x, hx, h1, h2⟩
      have ha := hi a List.mem_cons_self
      cases pa : p a
      · simp; omega
      · rw [ha pa]; simp; omega
section
variable {P : List Pt}
noncomputable def rkP (P : List Pt) (j : Nat) : Nat := (rankOf P (at_ P j)).toNat
noncomputable def qv (h0 p : Pt) : Int := (tm p - tm h0) % 5040
theorem qv_bd (W : Whl P) {h0 p : Pt} (hh : h0 ∈ headsOf P) (hp : p ∈ kindsOf P) : 0 ≤ qv h0 p ∧ qv h0 p ≤ 2520 := by
  have hk := (mem_heads.mp hh).1
  have := (W.nonneg hk hp).mp ((mem_heads.mp hh).2 p hp)
  unfold qv; omega
theorem qv_pos (W : Whl P) {h0 p o : Pt} (hh : h0 ∈ headsOf P) (hp : p ∈ kindsOf P) (ho : o ∈ kindsOf P) : 0 < lft p o ↔ 0 < qv h0 o - qv h0 p ∧ qv h0 o - qv h0 p < 2520 := by
  have b1 := qv_bd W hh hp
  have b2 := qv_bd W hh ho
  rw [W.pos hp ho]
  unfold qv at *
  omega
theorem qv_inj (W : Whl P) {h0 p o : Pt} (hp : p ∈ kindsOf P) (ho : o ∈ kindsOf P) (h : qv h0 p = qv h0 o) : p = o := by
  have b1 := W.tm_bd hp
  have b2 := W.tm_bd ho
  unfold qv at h
  exact W.inj hp ho (by omega)
theorem qv_self (h0 : Pt) : qv h0 h0 = 0 := by unfold qv; omega
noncomputable def cntQ (P : List Pt) (h0 : Pt) (v : Int) : Nat := (kindsOf P).countP fun o => decide (qv h0 o < v)
theorem rank_B (W : Whl P) {h0 : Pt} (hh : h0 ∈ headsOf P) :
    ((∀ i j, edg P i j = false) ∧ ∀ p ∈ P, rankOf P p = 0) ∨ ((∃ m ∈ kindsOf P, 0 < qv h0 m ∧ qv h0 m < 2520) ∧ ∀ p ∈ kindsOf P, rankOf P p = (cntQ P h0 (qv h0 p) : Nat)) := by
  have hk := (mem_heads.mp hh).1
  by_cases mx : ∃ m ∈ kindsOf P, 0 < qv h0 m ∧ qv h0 m < 2520
  · right
    refine ⟨mx, fun p hp => ?_⟩
    obtain ⟨m, hm, m1, m2⟩ := mx
    have hd : ∀ o ∈ kindsOf P, (o ∈ headsOf P ↔ qv h0 o = 0) := fun o ho => by
      have bo := qv_bd W hh ho
      constructor
      · intro q
        refine Classical.byContradiction fun hne => ?_
        have hq := (mem_heads.mp q).2
        by_cases z : qv h0 o < 2520
        · have h1 := (qv_pos W hh hk ho).mpr (by rw [qv_self]; omega)
          have h2 := hq h0 hk
          rw [lft_anti h0 o] at h2; omega
        · have h1 := (qv_pos W hh hm ho).mpr (by omega)
          have h2 := hq m hm
          rw [lft_anti m o] at h2; omega
      · intro q
        refine mem_heads.mpr ⟨ho, fun x hx => ?_⟩
        have : o = h0 := qv_inj W ho hk (by rw [q, qv_self])
        rw [this]; exact (mem_heads.mp hh).2 x hx
    have bp := qv_bd W hh hp
    have hpz := (mem_kinds.mp hp).2
    unfold rankOf
    by_cases q0 : qv h0 p = 0
    · rw [if_pos (.inr ((hd p hp).mpr q0))]
      have : cntQ P h0 (qv h0 p) = 0 := by
        rw [cntQ, List.countP_eq_zero]
        intro o ho
        have := qv_bd W hh ho
        simp only [decide_eq_true_eq]; omega
      rw [this]; rfl
    · rw [if_neg (fun z => z.elim hpz fun z => q0 ((hd p hp).mp z)), if_neg (fun z => by rw [z] at hh; cases hh)]
      congr 1
      rw [cntQ, List.countP_eq_length_filter]
      congr 1
      refine List.filter_congr fun o ho => ?_
      have bo := qv_bd W hh ho
      rw [Bool.eq_iff_iff]
      simp only [Bool.or_eq_true, decide_eq_true_eq]
      rw [hd o ho, qv_pos W hh ho hp]
      omega
  · left
    have two : ∀ o ∈ kindsOf P, qv h0 o = 0 ∨ qv h0 o = 2520 := fun o ho => by
      have bo := qv_bd W hh ho
      have : ¬ (0 < qv h0 o ∧ qv h0 o < 2520) := fun q => mx ⟨o, ho, q⟩
      omega
    have noE : ∀ p ∈ kindsOf P, ∀ o ∈ kindsOf P, ¬ (0 < lft p o) := fun p hp o ho q => by
      rw [qv_pos W hh hp ho] at q
      have := two p hp
      have := two o ho
      omega
    refine ⟨fun i j => ?_, fun p hp => ?_⟩
    · refine Bool.eq_false_iff.mpr fun q => ?_
      have := edg_ne q
      exact noE _ (mem_kinds_at this.1) _ (mem_kinds_at this.2) (of_decide_eq_true q)
    · unfold rankOf
      by_cases z : p = zP
      · rw [if_pos (.inl z)]
      · have hpk := mem_kinds.mpr ⟨hp, z⟩
        refine if_pos (.inr (mem_heads.mpr ⟨hpk, fun o ho => ?_⟩))
        have := noE o ho p hpk
        rw [lft_anti p o] at this; omega
theorem rank_z (P : List Pt) : rankOf P zP = 0 := by unfold rankOf; rw [if_pos (.inl rfl)]
theorem rkd_B (W : Whl P) (hh : headsOf P ≠ []) : Rkd P.length (edg P) (rkP P) ∧ (∀ j, rankOf P (at_ P j) = (rkP P j : Nat)) ∧ ∀ j, rkP P j ≤ 8 := by
  obtain ⟨h0, hh0⟩ := List.exists_mem_of_ne_nil _ hh
  have hk := (mem_heads.mp hh0).1
  have kl : (kindsOf P).length ≤ 9 := by
    unfold kindsOf
    rw [List.length_map]
    have := List.length_filter_le (fun i => decide (at_ P i ≠ zP) && !decide (at_ P i ∈ P.take i)) (List.range P.length)
    rw [List.length_range] at this
    have := W.n9
    omega
  rcases rank_B W hh0 with ⟨h1, h2⟩ | ⟨⟨m, hm, m1, m2⟩, h2⟩
  · have hr : ∀ j, rankOf P (at_ P j) = 0 := fun j => by
      by_cases q : at_ P j = zP
      · rw [q]; exact rank_z P
      · exact h2 _ (at_mem (at_lt q))
    have hr' : ∀ j, rkP P j = 0 := fun j => by unfold rkP; rw [hr]; rfl
    refine ⟨⟨edg_in, fun i j q => ?_, fun j _ q => ?_, fun i i' j _ _ _ _ q => ?_⟩, fun j => ?_, fun j => ?_⟩
    · rw [h1] at q; cases q
    · rw [hr'] at q; omega
    · rw [h1] at q; cases q
    · rw [hr, hr']; rfl
    · rw [hr']; omega
  · have hrN : ∀ j, at_ P j ≠ zP → rkP P j = cntQ P h0 (qv h0 (at_ P j)) := fun j q => by unfold rkP; rw [h2 _ (mem_kinds_at q)]; exact Int.toNat_natCast _
    have hrZ : ∀ j, at_ P j = zP → rkP P j = 0 := fun j q => by unfold rkP; rw [q, rank_z]; rfl
    have mono : ∀ p ∈ kindsOf P, ∀ v, qv h0 p < v → cntQ P h0 (qv h0 p) < cntQ P h0 v := fun p hp v hv => by
      refine countP_lt (fun o _ ho => ?_) ⟨p, hp, ?_, ?_⟩
      · rw [decide_eq_true_eq] at ho ⊢; omega
      · rw [decide_eq_true_eq]; exact hv
      · rw [decide_eq_false_iff_not]; omega
    have edq : ∀ i j, edg P i j = true → at_ P i ≠ zP ∧ at_ P j ≠ zP ∧ 0 < qv h0 (at_ P j) - qv h0 (at_ P i) ∧ qv h0 (at_ P j) - qv h0 (at_ P i) < 2520 := fun i j q => by
      obtain ⟨q1, q2⟩ := edg_ne q
      exact ⟨q1, q2, (qv_pos W hh0 (mem_kinds_at q1) (mem_kinds_at q2)).mp (of_decide_eq_true q)⟩
    refine ⟨⟨edg_in, fun i j q => ?_, fun j hj q => ?_, fun i i' j _ _ hr ⟨j', hj'⟩ q => ?_⟩, fun j => ?_, fun j => ?_⟩
    · obtain ⟨q1, q2, q3, q4⟩ := edq i j q
      rw [hrN i q1, hrN j q2]
      exact mono _ (mem_kinds_at q1) _ (by omega)
    · have hjz : at_ P j ≠ zP := fun z => by rw [hrZ j z] at q; omega
      have hjk := mem_kinds_at hjz
      have bj := qv_bd W hh0 hjk
      rw [hrN j hjz] at q ⊢
      have ex : ∃ o ∈ kindsOf P, qv h0 o < qv h0 (at_ P j) := by
        unfold cntQ at q
        rw [List.countP_pos_iff] at q
        obtain ⟨o, ho, h⟩ := q
        exact ⟨o, ho, of_decide_eq_true h⟩
      obtain ⟨o, ho, o1, o2⟩ := exists_max (qv h0) (fun o => qv h0 o < qv h0 (at_ P j)) (kindsOf P) ex
      have bo := qv_bd W hh0 ho
      have hom := mem_kinds.mp ho
      have hat := mem_at hom.1
      refine ⟨P.idxOf o, ?_, ?_⟩
      · unfold edg
        rw [hat, decide_eq_true_eq, qv_pos W hh0 ho hjk]
        refine ⟨by omega, ?_⟩
        by_cases z : qv h0 m < qv h0 (at_ P j)
        · have := o2 m hm z; omega
        · omega
      · rw [hrN _ (by rw [hat]; exact hom.2), hat]
        unfold cntQ
        rw [countP_split (fun x => decide (qv h0 x < qv h0 (at_ P j))) (fun x => decide (qv h0 x < qv h0 o))]
        have e1 : ((kindsOf P).countP fun x => decide (qv h0 x < qv h0 (at_ P j)) && decide (qv h0 x < qv h0 o)) = (kindsOf P).countP fun x => decide (qv h0 x < qv h0 o) := by
          refine List.countP_congr fun x _ => ?_
          simp only [Bool.and_eq_true, decide_eq_true_eq]; omega
        have e2 : ((kindsOf P).countP fun x => decide (qv h0 x < qv h0 (at_ P j)) && !decide (qv h0 x < qv h0 o)) = (kindsOf P).count o := by
          rw [List.count]
          refine List.countP_congr fun x hx => ?_
          simp only [Bool.and_eq_true, decide_eq_true_eq, Bool.not_eq_true', decide_eq_false_iff_not, beq_iff_eq]
          constructor
          · rintro ⟨h3, h4⟩
            have := o2 x hx h3
            exact qv_inj (h0 := h0) W hx ho (by omega)
          · rintro rfl; exact ⟨o1, by omega⟩
        rw [e1, e2, List.Nodup.count (kinds_nodup P), if_pos ho]
    · obtain ⟨q1, q2, q3, q4⟩ := edq i j q
      obtain ⟨q5, _⟩ := edg_ne hj'
      rw [hrN i q1, hrN i' q5] at hr
      have : at_ P i = at_ P i' := by
        refine qv_inj (h0 := h0) W (mem_kinds_at q1) (mem_kinds_at q5) ?_
        rcases Int.lt_trichotomy (qv h0 (at_ P i)) (qv h0 (at_ P i')) with z | z | z
        · have := mono _ (mem_kinds_at q1) _ z; omega
        · exact z
        · have := mono _ (mem_kinds_at q5) _ z; omega
      unfold edg at q ⊢
      rw [← this]; exact q
    · by_cases z : at_ P j = zP
      · rw [hrZ j z, z, rank_z]; rfl
      · rw [hrN j z, h2 _ (mem_kinds_at z)]
    · by_cases z : at_ P j = zP
      · rw [hrZ j z]; omega
      · rw [hrN j z]
        have : cntQ P h0 (qv h0 (at_ P j)) < (kindsOf P).countP fun _ => true := countP_lt (fun _ _ _ => rfl) ⟨at_ P j, mem_kinds_at z, rfl, by rw [decide_eq_false_iff_not]; omega⟩
        have e : ((kindsOf P).countP fun _ => true) = (kindsOf P).length := by simp
        omega
end
end Mine

end

section
open PySem PySem.W PyProof.Rows PySem.SeqAt
set_option Elab.async false
set_option linter.all false
set_option autoImplicit false
namespace Mine
noncomputable def bldS (P : List Pt) : Sta := { n := P.length, np := fun j => ((List.range P.length).countP fun i => edg P i j : Nat), su := suG P.length (edg P), rd := none, po := 0, nf := 0 }
noncomputable def ringRes (P : List Pt) : Option (List Nat) := if headsOf P = [] then some (ringOf P) else none
structure Sched (n : Nat) (a : Addr) (N : Nat) (τ : Nat → Sta) (R : Nat → List Nat) : Prop where
  rd : ∀ r, r ≤ N → (τ r).rd = some (a, R r)
  nn : ∀ r, r ≤ N → (τ r).n = n
  pf : ∀ r, r ≤ N → (τ r).po = (τ r).nf
  ne : ∀ r, r < N → R r ≠ []
  fin : R N = []
  lt : ∀ r, r ≤ N → ∀ p ∈ R r, p < n
  le : ∀ r, r ≤ N → (R r).length ≤ n
  su : ∀ r, r ≤ N → (∀ i, ((τ r).su i).length ≤ n) ∧ ∀ i, i < n → ∀ j ∈ (τ r).su i, j < n
  out : ∀ r, r < N → ∀ m p, (R r)[m]? = some p → (((R r).take m).foldl (doneS a) (outS (τ r) a (R r))).np p = -1
  stp : ∀ r, r < N → SEq ((R r).foldl (doneS a) (outS (τ r) a (R r))) (τ (r + 1))
theorem out_ok {a : Addr} {σ : Sta} {ls : List Nat} (hn : ls.Nodup) (hs : ∀ x ∈ ls, (σ.su x).Nodup) (hd : ∀ x ∈ ls, ∀ y ∈ ls, y ∉ σ.su x) {m p : Nat} (hp : ls[m]? = some p) : ((ls.take m).foldl (doneS a) (outS σ a ls)).np p = -1 := by
  have hpm := List.mem_of_getElem? hp
  have sub : ∀ x ∈ ls.take m, x ∈ ls := fun x hx => List.mem_of_mem_take hx
  have hnp : p ∉ ls.take m := fun q => by
    obtain ⟨k, hk, e⟩ := List.getElem_of_mem q
    rw [List.length_take] at hk
    rw [List.getElem_take] at e
    have hm := (List.getElem?_eq_some_iff.mp hp)
    obtain ⟨hm1, hm2⟩ := hm
    exact List.pairwise_iff_getElem.mp hn k m (by omega) hm1 (by omega) (by rw [e, hm2])
  rw [dones_np a (ls.take m) (outS σ a ls) (hn.sublist (List.take_sublist _ _)) (fun x hx => hs x (sub x hx)) (fun x hx y hy => hd x (sub x hx) y (sub y hy)), if_neg hnp]
  have c0 : ((ls.take m).countP fun x => decide (p ∈ (outS σ a ls).su x)) = 0 := by
    rw [List.countP_eq_zero]
    intro x hx q
    exact hd x (sub x hx) p hpm (of_decide_eq_true q)
  rw [c0, outS_np, npOut, if_pos hpm]; rfl
section
variable {P : List Pt}
theorem suG_len (n : Nat) (E : Nat → Nat → Bool) (i : Nat) : (suG n E i).length ≤ n := by
  have := List.length_filter_le (E i) (List.range n)
  rwa [List.length_range] at this
theorem suG_lt (n : Nat) (E : Nat → Nat → Bool) (i : Nat) : ∀ j ∈ suG n E i, j < n := fun j hj => List.mem_range.mp (List.mem_filter.mp hj).1
theorem Whl.pne (W : Whl P) : P ≠ [] := fun q => W.k0 (by rw [q]; rfl)
theorem max_rank (W : Whl P) : maxI (P.map (rankOf P)) ∈ P.map (rankOf P) ∧ ∀ a ∈ P.map (rankOf P), a ≤ maxI (P.map (rankOf P)) := max_spec (by simpa using W.pne)
theorem sched_B (W : Whl P) (hh : headsOf P ≠ []) (a : Addr) : Sched P.length a (roundsN P) (stK P.length (edg P) (rkP P) a) (roundOf P) ∧ SEq (prepS (bldS P) a) (stK P.length (edg P) (rkP P) a 0) ∧ roundsN P ≤ 9 := by
  obtain ⟨G, hr, h8⟩ := rkd_B W hh
  have hR : ∀ r, roundOf P r = Rnd P.length (rkP P) r := fun r => by
    unfold roundOf Rnd
    refine List.filter_congr fun j _ => ?_
    rw [decide_eq_decide, hr]
    omega
  obtain ⟨m1, m2⟩ := max_rank W
  obtain ⟨p, hp, hpm⟩ := List.mem_map.mp m1
  have hpi := mem_at hp
  have hpr : rankOf P p = (rkP P (P.idxOf p) : Nat) := by rw [← hr, hpi]
  have hN : roundsN P = rkP P (P.idxOf p) + 1 := by unfold roundsN; rw [← hpm, hpr]; omega
  have hle : ∀ j, j < P.length → rkP P j < roundsN P := fun j hj => by
    have := m2 _ (List.mem_map.mpr ⟨at_ P j, at_mem hj, rfl⟩)
    rw [hr, ← hpm, hpr] at this
    omega
  have down : ∀ (k j : Nat), j < P.length → ∀ r, r + k = rkP P j → ∃ i, i < P.length ∧ rkP P i = r := by
    intro k
    induction k with
    | zero => intro j hj r e; exact ⟨j, hj, by omega⟩
    | succ k ih =>
      intro j hj r e
      obtain ⟨i, h1, h2⟩ := G.pre j hj (by omega)
      exact ih i (G.inn i j h1).1 r (by omega)
  refine ⟨⟨fun r _ => ?_, fun r _ => rfl, fun r _ => rfl, fun r hlt q => ?_, ?_, fun r _ q hq => ?_, fun r _ => ?_, fun r _ => ⟨fun i => suG_len _ _ i, fun i _ => suG_lt _ _ i⟩, fun r hlt m p hp => ?_, fun r hlt => ?_⟩, ?_, ?_⟩
  · rw [hR]; rfl
  · obtain ⟨i, h1, h2⟩ := down (rkP P (P.idxOf p) - r) (P.idxOf p) (List.idxOf_lt_length_iff.mpr hp) r (by omega)
    rw [hR] at q
    have : i ∈ Rnd P.length (rkP P) r := mem_rnd.mpr ⟨h1, h2⟩
    rw [q] at this; cases this
  · rw [hR, Rnd, List.filter_eq_nil_iff]
    intro j hj
    have := hle j (List.mem_range.mp hj)
    simp only [decide_eq_true_eq]; omega
  · rw [hR] at hq; exact (mem_rnd.mp hq).1
  · have := List.length_filter_le (fun j => decide (rankOf P (at_ P j) = (r : Int))) (List.range P.length)
    rw [List.length_range] at this
    exact this
  · rw [hR] at hp ⊢
    refine out_ok rnd_nodup (fun x _ => suG_nodup x) (fun x hx y hy q => ?_) hp
    have h1 := G.up x y ((mem_suG G).mp q)
    have := (mem_rnd.mp hx).2
    have := (mem_rnd.mp hy).2
    omega
  · rw [hR]; exact round_step G
  · refine ⟨rfl, ?_, ?_, ?_, fun i hi => ⟨?_, rfl⟩⟩
    · show some (a, readyL (bldS P)) = some (a, Rnd P.length (rkP P) 0)
      congr 2
      unfold readyL Rnd
      refine List.filter_congr fun j hj => ?_
      have hjn := List.mem_range.mp hj
      rw [decide_eq_decide]
      show (((List.range P.length).countP fun i => edg P i j : Nat) : Int) = 0 ↔ _
      constructor
      · intro q
        refine Classical.byContradiction fun z => ?_
        obtain ⟨i, h1, h2⟩ := G.pre j hjn (by omega)
        have q' : ((List.range P.length).countP fun i => edg P i j) = 0 := by omega
        rw [List.countP_eq_zero] at q'
        exact q' i (List.mem_range.mpr (G.inn i j h1).1) h1
      · intro q
        have : ((List.range P.length).countP fun i => edg P i j) = 0 := by
          rw [List.countP_eq_zero]
          intro i _ h1
          have := G.up i j h1
          omega
        rw [this]; rfl
    · show (0 : Int) = (below P.length (rkP P) 0 : Nat)
      have : below P.length (rkP P) 0 = 0 := by rw [below, List.countP_eq_zero]; intro i _; simp
      rw [this]; rfl
    · show (0 : Int) = (below P.length (rkP P) 0 : Nat)
      have : below P.length (rkP P) 0 = 0 := by rw [below, List.countP_eq_zero]; intro i _; simp
      rw [this]; rfl
    · show (((List.range P.length).countP fun p => edg P p i : Nat) : Int) = if rkP P i < 0 then (-2 : Int) else ((cntR P.length (edg P) (rkP P) 0 i : Nat) : Int)
      rw [if_neg (by omega)]
      congr 1
      unfold cntR
      refine List.countP_congr fun p _ => ?_
      simp
  · have := h8 (P.idxOf p); omega
theorem edg_grey_l {i j : Nat} (h : at_ P i = zP) : edg P i j = false := Bool.eq_false_iff.mpr fun q => (edg_ne q).1 h
theorem suG_grey {i : Nat} (h : at_ P i = zP) : suG P.length (edg P) i = [] := by
  rw [suG, List.filter_eq_nil_iff]
  intro j _ q
  rw [edg_grey_l h] at q; cases q
theorem pre_A (hh : headsOf P = []) {j : Nat} (hj : at_ P j ≠ zP) : ∃ i, edg P i j = true := by
  have hk := mem_kinds_at hj
  have : at_ P j ∉ headsOf P := by rw [hh]; simp
  rw [mem_heads] at this
  have hx : ¬ ∀ o ∈ kindsOf P, 0 ≤ lft (at_ P j) o := fun q => this ⟨hk, q⟩
  obtain ⟨o, ho⟩ := Classical.not_forall.mp hx
  obtain ⟨ho1, ho2⟩ := Classical.not_imp.mp ho
  refine ⟨P.idxOf o, ?_⟩
  rw [edg, mem_at (mem_kinds.mp ho1).1, decide_eq_true_eq, lft_anti (at_ P j) o]; omega
theorem rank_A (hh : headsOf P = []) (p : Pt) : rankOf P p = if p = zP then 0 else -1 := by
  unfold rankOf
  by_cases z : p = zP
  · simp [z]
  · rw [if_neg (fun q => q.elim z fun q => by rw [hh] at q; cases q), if_pos hh, if_neg z]
theorem sched_A (W : Whl P) (hh : headsOf P = []) (a : Addr) : ∃ τ, Sched P.length a (roundsN P) τ (roundOf P) ∧ SEq (prepS (bldS P) a) (τ 0) ∧ roundsN P ≤ 9 := by
  obtain ⟨m1, m2⟩ := max_rank W
  obtain ⟨p, hp, hpm⟩ := List.mem_map.mp m1
  have hN : (roundsN P = 0 ∧ ∀ x ∈ P, x ≠ zP) ∨ (roundsN P = 1 ∧ ∃ x ∈ P, x = zP) := by
    unfold roundsN
    by_cases g : ∃ x ∈ P, x = zP
    · right
      refine ⟨?_, g⟩
      obtain ⟨x, hx, rfl⟩ := g
      have := m2 _ (List.mem_map.mpr ⟨zP, hx, rfl⟩)
      rw [rank_z] at this
      rw [rank_A hh] at hpm
      split at hpm <;> omega
    · left
      have g' : ∀ x ∈ P, x ≠ zP := fun x hx q => g ⟨x, hx, q⟩
      refine ⟨?_, g'⟩
      rw [rank_A hh, if_neg (g' p hp)] at hpm
      omega
  have hR0 : roundOf P 0 = readyL (bldS P) := by
    unfold roundOf readyL
    refine List.filter_congr fun j hj => ?_
    rw [decide_eq_decide, rank_A hh]
    show _ ↔ (((List.range P.length).countP fun i => edg P i j : Nat) : Int) = 0
    by_cases z : at_ P j = zP
    · rw [if_pos z]
      refine ⟨fun _ => ?_, fun _ => rfl⟩
      have : ((List.range P.length).countP fun i => edg P i j) = 0 := by
        rw [List.countP_eq_zero]
        intro i _ q
        exact (edg_ne q).2 z
      rw [this]; rfl
    · rw [if_neg z]
      refine ⟨fun q => by simp at q, fun q => ?_⟩
      obtain ⟨i, hi⟩ := pre_A hh z
      have q' : ((List.range P.length).countP fun i => edg P i j) = 0 := by omega
      rw [List.countP_eq_zero] at q'
      exact absurd hi (q' i (List.mem_range.mpr (edg_in i j hi).1))
  have hR1 : ∀ r, 0 < r → roundOf P r = [] := fun r hr => by
    rw [roundOf, List.filter_eq_nil_iff]
    intro j _
    rw [decide_eq_true_eq, rank_A hh]
    split <;> omega
  have hg : ∀ j ∈ roundOf P 0, at_ P j = zP := fun j hj => by
    have h2 := (List.mem_filter.mp hj).2
    rw [decide_eq_true_eq, rank_A hh] at h2
    refine Classical.byContradiction fun q => ?_
    rw [if_neg q] at h2
    simp at h2
  have hnd : (roundOf P 0).Nodup := List.nodup_range.sublist List.filter_sublist
  have hsz : ∀ x ∈ roundOf P 0, (outS (prepS (bldS P) a) a (roundOf P 0)).su x = [] := fun x hx => suG_grey (hg x hx)
  refine ⟨fun r => if r = 0 then prepS (bldS P) a else (roundOf P 0).foldl (doneS a) (outS (prepS (bldS P) a) a (roundOf P 0)), ⟨fun r hle => ?_, fun r _ => ?_, fun r hle => ?_, fun r hlt q => ?_, ?_, fun r _ q hq => ?_, fun r _ => ?_, fun r _ => ?_, fun r hlt m x hx => ?_, fun r hlt => ?_⟩, ⟨rfl, rfl, rfl, rfl, fun i _ => ⟨rfl, rfl⟩⟩, by omega⟩
  · by_cases z : r = 0
    · subst z
      simp only [if_true]
      rw [hR0]; rfl
    · simp only [z, if_false]
      obtain ⟨l, hl⟩ := dones_rd a (roundOf P 0) (outS (prepS (bldS P) a) a (roundOf P 0)) ⟨[], rfl⟩
      rw [hl, hR1 r (by omega)]
      have hrl := rl_some hl
      have key := dones_rl a [] List.nodup_nil (fun _ => 0) (roundOf P 0) (outS (prepS (bldS P) a) a (roundOf P 0)) hnd (fun x hx q => absurd (hsz x hx) q) (fun x _ => by simp) (fun j hj => by cases hj)
      rw [← hrl, key]
      show some (a, [] ++ _) = _
      split <;> simp
  · by_cases z : r = 0
    · simp only [z, if_true]; rfl
    · simp only [z, if_false]
      exact (dones_same a (roundOf P 0) (outS (prepS (bldS P) a) a (roundOf P 0))).1
  · by_cases z : r = 0
    · simp only [z, if_true]; rfl
    · simp only [z, if_false]
      rw [(dones_same a (roundOf P 0) (outS (prepS (bldS P) a) a (roundOf P 0))).2.2, dones_nf]
      rfl
  · have r0 : r = 0 := by omega
    subst r0
    rcases hN with ⟨h1, _⟩ | ⟨_, x, hx, hxz⟩
    · omega
    · have : P.idxOf x ∈ roundOf P 0 := List.mem_filter.mpr ⟨List.mem_range.mpr (List.idxOf_lt_length_iff.mpr hx), by rw [mem_at hx, hxz, rank_z]; rfl⟩
      rw [q] at this; cases this
  · rcases hN with ⟨h1, h2⟩ | ⟨h1, _⟩
    · rw [h1, roundOf, List.filter_eq_nil_iff]
      intro j hj
      rw [decide_eq_true_eq, rank_A hh, if_neg (h2 _ (at_mem (List.mem_range.mp hj)))]
      simp
    · rw [h1]; exact hR1 1 (by omega)
  · exact List.mem_range.mp (List.mem_filter.mp hq).1
  · have := List.length_filter_le (fun j => decide (rankOf P (at_ P j) = (r : Int))) (List.range P.length)
    rw [List.length_range] at this
    exact this
  · by_cases z : r = 0
    · simp only [z, if_true]
      exact ⟨fun i => suG_len _ _ i, fun i _ => suG_lt _ _ i⟩
    · simp only [z, if_false]
      rw [(dones_same a (roundOf P 0) (outS (prepS (bldS P) a) a (roundOf P 0))).2.1]
      exact ⟨fun i => suG_len _ _ i, fun i _ => suG_lt _ _ i⟩
  · have r0 : r = 0 := by omega
    subst r0
    simp only [if_true]
    exact out_ok hnd (fun x hx => by rw [show (prepS (bldS P) a).su x = [] from hsz x hx]; simp) (fun x hx y _ => by rw [show (prepS (bldS P) a).su x = [] from hsz x hx]; simp) hx
  · have r0 : r = 0 := by omega
    subst r0
    exact ⟨rfl, rfl, rfl, rfl, fun i _ => ⟨rfl, rfl⟩⟩
theorem sched_all (W : Whl P) (a : Addr) : ∃ τ, Sched P.length a (roundsN P) τ (roundOf P) ∧ SEq (prepS (bldS P) a) (τ 0) ∧ roundsN P ≤ 9 := by
  by_cases hh : headsOf P = []
  · exact sched_A W hh a
  · exact ⟨_, sched_B W hh a⟩
theorem ring_all (W : Whl P) : ∃ f, outD (suG P.length (edg P)) f (List.range P.length) [] = some (ringRes P) := by
  by_cases hh : headsOf P = []
  · refine ⟨P.length + 2, ?_⟩
    rw [ringRes, if_pos hh]
    have succ := W.succ hh
    have hl : ∀ x, (x < P.length ∧ at_ P x ≠ zP) → x < P.length ∧ (suG P.length (edg P) x)[0]? = some (nxt P x) ∧ (nxt P x < P.length ∧ at_ P (nxt P x) ≠ zP) := fun x ⟨h1, h2⟩ => by
      obtain ⟨q1, q2, q3⟩ := nxt_spec (succ x h1 h2)
      exact ⟨h1, q3, q1, fun q => by rw [q, lft_zero] at q2; omega⟩
    -- the first that is no grey
    obtain ⟨p0, hp0⟩ := List.exists_mem_of_ne_nil _ W.k0
    have hp0' := mem_kinds.mp hp0
    have ex : ∃ i, i < P.length ∧ at_ P i ≠ zP := ⟨P.idxOf p0, List.idxOf_lt_length_iff.mpr hp0'.1, by rw [mem_at hp0'.1]; exact hp0'.2⟩
    have least : ∃ i, (i < P.length ∧ at_ P i ≠ zP) ∧ ∀ j, j < i → at_ P j = zP := by
      obtain ⟨i, hi⟩ := ex
      induction i using Nat.strongRecOn with
      | _ i ih =>
        by_cases q : ∃ j, j < i ∧ at_ P j ≠ zP
        · obtain ⟨j, h1, h2⟩ := q
          exact ih j h1 ⟨by omega, h2⟩
        · exact ⟨i, hi, fun j hj => Classical.byContradiction fun z => q ⟨j, hj, z⟩⟩
    obtain ⟨i, hi, hlo⟩ := least
    have hst : startOf P = i := by
      unfold startOf
      have hd : (kindsOf P).headD zP = at_ P i := by
        have hs : List.range P.length = List.range i ++ i :: (List.range' (i + 1) (P.length - i - 1)) := by
          have h1 : List.range P.length = List.range' 0 P.length := List.range_eq_range'
          have h2 : P.length = i + (1 + (P.length - i - 1)) := by omega
          rw [h1, List.range_eq_range']
          conv => lhs; rw [h2]
          rw [List.range'_append_1.symm, List.range'_append_1.symm]
          simp
        unfold kindsOf
        rw [hs, List.filter_append, List.filter_cons]
        have f1 : ((List.range i).filter fun j => decide (at_ P j ≠ zP) && !decide (at_ P j ∈ P.take j)) = [] := by
          rw [List.filter_eq_nil_iff]
          intro j hj
          rw [hlo j (List.mem_range.mp hj)]
          simp
        have f2 : (decide (at_ P i ≠ zP) && !decide (at_ P i ∈ P.take i)) = true := by
          simp only [Bool.and_eq_true, decide_eq_true_eq, Bool.not_eq_true', decide_eq_false_iff_not]
          refine ⟨hi.2, fun q => ?_⟩
          obtain ⟨m, hm, e⟩ := List.getElem_of_mem q
          rw [List.length_take] at hm
          rw [List.getElem_take] at e
          have h1 := at_get (P := P) (i := m) (by omega)
          rw [List.getElem?_eq_getElem (by omega), e] at h1
          have h2 := Option.some.inj h1
          rw [hlo m (by omega)] at h2
          exact hi.2 h2
        rw [f1, if_pos f2]; rfl
      rw [hd]
      -- the place of that point
      have hm := at_mem hi.1
      rcases Nat.lt_trichotomy (P.idxOf (at_ P i)) i with z | z | z
      · have := mem_at hm
        rw [hlo _ z] at this
        exact absurd this.symm hi.2
      · exact z
      · exact absurd rfl (idxOf_first z (at_get hi.1))
    have hsp : List.range P.length = List.range i ++ i :: (List.range' (i + 1) (P.length - i - 1)) := by
      have h1 : List.range P.length = List.range' 0 P.length := List.range_eq_range'
      have h2 : P.length = i + (1 + (P.length - i - 1)) := by omega
      rw [h1, List.range_eq_range']
      conv => lhs; rw [h2]
      rw [List.range'_append_1.symm, List.range'_append_1.symm]
      simp
    rw [hsp]
    have := out_ring (n := P.length) (su := suG P.length (edg P)) (nx := nxt P) (live := fun x => x < P.length ∧ at_ P x ≠ zP) hl hi (post := List.range' (i + 1) (P.length - i - 1)) (List.range i) [] (fun x hx => suG_grey (hlo x (List.mem_range.mp hx))) (fun z _ => by simp) (fun x hx q => q.2 (hlo x (List.mem_range.mp hx)))
    rw [this, ringOf, hst]
  · obtain ⟨G, _, _⟩ := rkd_B W hh
    refine ⟨200, ?_⟩
    rw [ringRes, if_neg hh]
    exact out_none G.inn G.up W.n9 _ _ fun x hx => List.mem_range.mp hx
theorem ring_ne (W : Whl P) : ∀ r, ringRes P = some r → r ≠ [] ∧ r.length ≤ 1000 := fun r h => by
  unfold ringRes at h
  split at h
  · cases h
    have := ringW_ne (nx := nxt P) (P.length + 1) [] (startOf P)
    have := W.n9
    refine ⟨(ringW_ne (nx := nxt P) (P.length + 1) [] (startOf P)).1, ?_⟩
    have h2 := (ringW_ne (nx := nxt P) (P.length + 1) [] (startOf P)).2
    simp at h2
    show (ringW (nxt P) (P.length + 1) [] (startOf P)).length ≤ 1000
    omega
  · cases h
theorem ring_D : resD (ringRes P) = ringD P := by
  unfold ringRes ringD
  split <;> rfl
end
end Mine

end

section
open PySem PySem.W PyProof.Rows PySem.SeqAt
set_option Elab.async false
set_option linter.all false
set_option autoImplicit false
namespace Mine
section
variable {w : World} {G : List (Str × Value)} {k : Nat} {env : Env} {h : Heap}
theorem e8_inf : ∀ a : Fin 9, Float64.isInf (Float64.ofFrac false a.val 8) = false := by decide +kernel
theorem ev_div8 {e : Expr} {n : Nat} {p1 p2 : Pos} {a : Int} (he : EvD pw w k env h e (.int a)) (h0 : 0 ≤ a) (h8 : a ≤ 8) : EvP pw w k env h (.BinOp e .Div (.Constant (.int 8) n p1) p2) (IsF (e8 a.toNat)) :=
  ev_bin he (ev_int (i := 8) (n := n) (pos := p1)) isD_mono fun A s E Q x y rm _ px py hq => by
    obtain ⟨t, rfl⟩ := Rd.inv_int px
    obtain ⟨u, rfl⟩ := Rd.inv_int py
    have e1 : (decide (a < 0) != decide ((8 : Int) < 0)) = false := by
      have : decide (a < 0) = false := by rw [decide_eq_false_iff_not]; omega
      rw [this]; rfl
    have e2 : a.natAbs = a.toNat := by omega
    refine AutoIntOps.truediv_2 (by decide) ?_ ?_
    · rw [e1, e2]
      have := e8_inf ⟨a.toNat, by omega⟩
      simp only at this
      show ¬ Float64.isInf (Float64.ofFrac false a.toNat 8) = true
      rw [this]; decide
    · rw [e1, e2]
      exact hq _ s.heap _ (.refl _) ⟨_, rfl⟩
/-- an item of a told tuple -/
theorem ev_itemP {v sl : Expr} {pos : Pos} {i : Nat} {ps : List Pr} {p : Pr} (hv : EvP pw w k env h v (TupOf ps)) (hi : EvD pw w k env h sl (.int (i : Nat))) (hlt : i < 100) (hd : ps[i]? = some p)
    (hs : ∀ a u, subscripted sl false (.ref a) (.int (i : Nat) u) = operate [.ref a, .int (i : Nat) u] (getItem (.ref a) (.int (i : Nat) u)) := by intro _ _; with_unfolding_all rfl) :
    EvP pw w k env h (.Subscript v sl pos) p.P := fun A s E Q rm hx hq =>
  Subscript_ (hv A s E _ rm hx fun o h1 t1 e1 p1 => hi A _ E _ rm (hx.trans e1) fun iv h2 t2 e2 p2 => by
    obtain ⟨t, rfl⟩ := p2.inv_int
    obtain ⟨a, vs, n, rfl, ha, hp⟩ := TupOf.st _ _ _ e2.pres p1
    have hsz : vs.size = ps.length := by simpa using hp.length
    have hl : i < ps.length := by
      rcases Nat.lt_or_ge i ps.length with q | q
      · exact q
      · rw [List.getElem?_eq_none q] at hd; cases hd
    have hvi : vs.toList[i]? = some vs[i] := by simp [hsz, hl]
    obtain ⟨p', q1, q2⟩ := hp.get hvi
    rw [hd] at q1; cases q1
    have htup : h2.IsTuple a vs := ⟨_, ha, rfl, _, rfl⟩
    have hj : seqIndex? ((i : Nat) : Int) vs.size = some i := by
      unfold seqIndex?
      have a1 : ¬ ((i : Nat) : Int) < 0 := by omega
      have a2 : ((i : Nat) : Int) < (vs.size : Int) := by omega
      simp [a1, a2]
    exact tail_any (s := { s with heap := h2, toks := t2 }) htup.typeIs slot_tuple_getitem.lookup (getItem_tuple htup (by omega) (by omega) hj (by simpa using hvi) (hq _ _ _ (e1.trans e2) q2)) (hs _ _))
theorem cmp_gtFI {a : UInt64} {n : Int} : Cmp (prog := pw) (w := w) k .Gt h (IsF a) (IsD (.int n)) (Float64.cmpInt a n == some Ordering.gt) := fun A s E Q x y _ _ px py hq => by
  obtain ⟨t, rfl⟩ := px
  obtain ⟨u, rfl⟩ := Rd.inv_int py
  exact gt_fi (hq _ _ (.refl _))
theorem ev_fmulI {l : Expr} {n : Nat} {p1 pos : Pos} {a : UInt64} {i : Int} (hl : EvP pw w k env h l (IsF a)) (hi : i.natAbs < 2 ^ 60) : EvP pw w k env h (.BinOp l .Mult (.Constant (.int i) n p1) pos) (IsF (Float64.mul a (Float64.ofInt i))) :=
  ev_bin hl (ev_int (i := i) (n := n) (pos := p1)) isF_mono fun A s E Q x y _ _ px py hq => by
    obtain ⟨t, rfl⟩ := px
    obtain ⟨u, rfl⟩ := Rd.inv_int py
    exact mul_fi_fits (Nat.lt_of_lt_of_le hi (Nat.pow_le_pow_right (by decide) (by decide))) (hq _ s.heap _ (.refl _) ⟨_, rfl⟩)
theorem fn_intF {x : UInt64} {sg : Bool} {m : Nat} {e : Int} (hd : Float64.decode x = .fin sg m e) : FnP pw w k h (.type "int") (PAll [prF x]) (IsD (.int (Float64.truncOf sg m e))) := fun A s vs E Q rm hx pa hq => by
  match vs, pa with
  | [v], ⟨⟨t, ht⟩, _⟩ =>
    subst ht
    exact call_int_float hd (hq _ s.heap _ (.refl _) Rd.int)
/-- the bits of a colour -/
noncomputable def bit (c : Col) (i : Nat) : UInt64 := e8 (match i with | 0 => c.1.toNat | 1 => c.2.1.toNat | _ => c.2.2.toNat)
noncomputable def hsvC (c : Col) : List Pr := hsvPr (bit c 0) (bit c 1) (bit c 2)
theorem toNat8 {a : Int} (h0 : 0 ≤ a) (h8 : a ≤ 8) : a.toNat ≤ 8 := by omega
theorem col_hz {c : Col} (hc : InCol c) : isGreyF (bit c 0) (bit c 1) (bit c 2) = false → Float64.isZero (max3F (bit c 0) (bit c 1) (bit c 2)) = false ∧ Float64.isZero (rngF (bit c 0) (bit c 1) (bit c 2)) = false := by
  obtain ⟨⟨a1, a2⟩, ⟨b1, b2⟩, c1, c2⟩ := hc
  have r8 := toNat8 a1 a2
  have g8 := toNat8 b1 b2
  have b8 := toNat8 c1 c2
  show isGreyF (e8 c.1.toNat) (e8 c.2.1.toNat) (e8 c.2.2.toNat) = false → Float64.isZero (max3F (e8 c.1.toNat) (e8 c.2.1.toNat) (e8 c.2.2.toNat)) = false ∧ Float64.isZero (rngF (e8 c.1.toNat) (e8 c.2.1.toNat) (e8 c.2.2.toNat)) = false
  rw [grey_e8 r8 g8 b8, max3_e8 r8 g8 b8, rng_e8 r8 g8 b8, e8_zero (mx8 r8 g8 b8), e8_zero (Nat.le_trans (Nat.sub_le _ _) (mx8 r8 g8 b8)), decide_eq_false_iff_not, decide_eq_false_iff_not, decide_eq_false_iff_not]
  intro hne
  have := d_ne r8 g8 b8 hne
  exact ⟨fun z => this (by rw [z]; exact Nat.zero_sub _), this⟩
/-- the place told by a shade -/
theorem shade_ok {c : Col} (hc : InCol c) {x : Str} {p1 p2 p3 p4 p5 p6 p7 p8 p9 p10 p11 p12 p13 p14 p15 p16 p17 : Pos} {n1 n2 n3 n4 n5 n6 : Nat} (hx : ∀ p, EvP pw w k env h (.Name x p) (TupOf (hsvC c))) (hi : Has pw w h env "int" (.type "int")) :
    EvD pw w k env h (.IfExp (.Compare (.Subscript (.Name x p1) (.Constant (.int 1) n1 p2) p3) [.Gt] [.Constant (.int 0) n2 p4] p5)
      (.Call (.Name "int" p6) [.BinOp (.BinOp (.Subscript (.Name x p7) (.Constant (.int 0) n3 p8) p9) .Mult (.Constant (.int 5040) n4 p10) p11) .Add (.Constant (.float 4602678819172646912) n5 p12) p13] [] p14)
      (.UnaryOp .USub (.Constant (.int 1) n6 p15) p16) p17) (.int (plP (ptOf c))) := by
  obtain ⟨⟨a1, a2⟩, ⟨b1, b2⟩, c1, c2⟩ := hc
  have r8 := toNat8 a1 a2
  have g8 := toNat8 b1 b2
  have b8 := toNat8 c1 c2
  have g := grey_e8 r8 g8 b8
  have g' : isGreyF (bit c 0) (bit c 1) (bit c 2) = decide (c.1.toNat = c.2.1.toNat ∧ c.2.1.toNat = c.2.2.toNat) := g
  by_cases q : c.1.toNat = c.2.1.toNat ∧ c.2.1.toNat = c.2.2.toNat
  · have hps : hsvC c = [prF 0, prF 0, prF (max3F (bit c 0) (bit c 1) (bit c 2))] := by
      unfold hsvC hsvPr; rw [g', decide_eq_true q, if_pos rfl]
    rw [hps] at hx
    have hz : ptOf c = zP := by
      unfold ptOf ptX ptY zP
      have q1 : c.1 = c.2.1 := by rw [← Int.toNat_of_nonneg a1, ← Int.toNat_of_nonneg b1, q.1]
      have q2 : c.2.1 = c.2.2 := by rw [← Int.toNat_of_nonneg b1, ← Int.toNat_of_nonneg c1, q.2]
      have : mx3 c.1 c.2.1 c.2.2 - mn3 c.1 c.2.1 c.2.2 = 0 := by rw [q1, q2]; unfold mx3 mn3; rw [Int.max_self, Int.max_self, Int.min_self, Int.min_self, Int.sub_self]
      rw [if_pos this, if_pos this]
    rw [hz, plP_z]
    refine ev_ifexp (b := (Float64.cmpInt 0 0 == some Ordering.gt)) (ts_cmp (ev_itemP (i := 1) (p := prF 0) (hx _) ev_int (by decide) rfl) ev_int isF_mono cmp_gtFI) (fun z => ?_) (fun _ => ev_neg ev_int)
    have : (Float64.cmpInt 0 0 == some Ordering.gt) = false := by decide +kernel
    rw [this] at z; cases z
  · have hps : hsvC c = [prF (hF (bit c 0) (bit c 1) (bit c 2)), prF (sF (bit c 0) (bit c 1) (bit c 2)), prF (max3F (bit c 0) (bit c 1) (bit c 2))] := by
      unfold hsvC hsvPr; rw [g', decide_eq_false q, if_neg (by decide)]
    rw [hps] at hx
    have hs : Float64.cmpInt (sF (bit c 0) (bit c 1) (bit c 2)) 0 = some Ordering.gt := by
      show Float64.cmpInt (Float64.div (rngF (e8 c.1.toNat) (e8 c.2.1.toNat) (e8 c.2.2.toNat)) (max3F (e8 c.1.toNat) (e8 c.2.1.toNat) (e8 c.2.2.toNat))) 0 = _
      rw [rng_e8 r8 g8 b8, max3_e8 r8 g8 b8]
      have dn := d_ne r8 g8 b8 q
      exact e8_pos (Nat.le_trans (Nat.sub_le _ _) (mx8 r8 g8 b8)) (mx8 r8 g8 b8) dn fun z => dn (by rw [z]; exact Nat.zero_sub _)
    have hh := hue_e8 r8 g8 b8 q
    rw [Int.toNat_of_nonneg a1, Int.toNat_of_nonneg b1, Int.toNat_of_nonneg c1] at hh
    have hh' : tellF (hF (bit c 0) (bit c 1) (bit c 2)) = some (plP (ptOf c)) := hh
    refine ev_ifexp (b := (Float64.cmpInt (sF (bit c 0) (bit c 1) (bit c 2)) 0 == some Ordering.gt)) (ts_cmp (ev_itemP (i := 1) (p := prF (sF (bit c 0) (bit c 1) (bit c 2))) (hx _) ev_int (by decide) rfl) ev_int isF_mono cmp_gtFI) (fun _ => ?_) (fun z => by rw [hs] at z; exact absurd z (by decide))
    unfold tellF at hh'
    split at hh'
    · rename_i sg m e hd
      have hv := Option.some.inj hh'
      rw [← hv]
      exact ev_call_type hi (evp_pcons (p := prF _) (ev_fadd (ev_fmulI (ev_itemP (i := 0) (p := prF (hF (bit c 0) (bit c 1) (bit c 2))) (hx _) ev_int (by decide) rfl) (by decide)) ev_flt) evp_pnil) (fn_intF hd)
    · cases hh'
theorem safeTup {α : Type} {xs : List α} {f : α → Col} : Safe fun i => fun v h => ∃ a, xs[i]? = some a ∧ (prT (hsvC (f a))).P v h := by
  intro h h' D ys j v hD hy hk ⟨a, ha, x⟩
  refine ⟨a, ha, ?_⟩
  obtain ⟨b, vs, n, rfl, q1, q2⟩ := x
  have hne : b ≠ D := by
    rintro rfl
    obtain ⟨m, hD⟩ := hD
    rw [hD] at q1; have := congrArg Obj.cls (Option.some.inj q1); simp at this
  refine ⟨b, vs, n, rfl, hk _ _ hne rfl q1, ?_⟩
  have fl : ∀ (ps : List Pr) (vs : List Value), (∀ p ∈ ps, ∃ x, p = prF x) → PAll ps vs h → PAll ps vs h' := by
    intro ps
    induction ps with
    | nil => intro vs _ z; cases vs with | nil => trivial | cons _ _ => exact z.elim
    | cons p ps ih => intro vs hp z; cases vs with
      | nil => exact z.elim
      | cons v vs =>
        obtain ⟨x, rfl⟩ := hp p List.mem_cons_self
        exact ⟨z.1, ih vs (fun p hp' => hp p (List.mem_cons_of_mem _ hp')) z.2⟩
  refine fl _ _ (fun p hp => ?_) q2
  unfold hsvC hsvPr at hp
  split at hp <;> (simp only [List.mem_cons, List.not_mem_nil, or_false] at hp; rcases hp with rfl | rfl | rfl <;> exact ⟨_, rfl⟩)
end
end Mine

end

section
open PySem PySem.W PyProof.Rows PySem.SeqAt
set_option Elab.async false
set_option linter.all false
set_option autoImplicit false
namespace Mine
structure LC (w : World) (G : List (Str × Value)) (env : Env) (hb : Heap) : Prop where
  fr : env.frame = some env.locals
  sc : env.scope = defScope lawD
  gl : env.globals = mainGlobals
  bu : env.builtins = builtinsNs
  B : Bse w G hb
  gT : G.lookup (Str.ofString "TopologicalSorter") = some (.ref 144)
structure Ph (w : World) (g : Geo) (σ : Sta) (hb : Heap) (env : Env) (h : Heap) (ρ : Locs) : Prop where
  fm : Fm hb h env ρ
  srt : Srt w h g σ
  mem : ∀ b, Mem g σ b → hb.get? b = none ∧ Off env b
  pin : ∀ x p, ρ.lookup x = some p → ∃ u, p = prV u
section
variable {w : World} {G : List (Str × Value)} {k : Nat} {A : Around} {E : Value → Shared → Prop} {s : Shared} {g : Geo} {σ σ' : Sta} {hb h h' : Heap} {env : Env} {ρ : Locs} {P : List Pt}
theorem Ph.ext (p : Ph w g σ hb env h ρ) (e : Ext h h') : Ph w g σ hb env h' ρ := ⟨p.fm.ext e, p.srt.ext e, p.mem, p.pin⟩
theorem Ph.put {x : Str} {v : Value} (p : Ph w g σ hb env h ρ) (F : Fm hb h' env ((x, prV v) :: ρ)) (of : Offs env h h') : Ph w g σ hb env h' ((x, prV v) :: ρ) :=
  ⟨F, p.srt.keep fun b o m q => of b o (p.mem b m).2.l (p.mem b m).2.c q, p.mem, fun y q e => by
    rw [lk_cons] at e
    by_cases z : y = x
    · rw [if_pos z] at e; cases e; exact ⟨_, rfl⟩
    · rw [if_neg z] at e; exact p.pin y q e⟩
theorem Ph.drop {x : Str} {q : Pr} (p : Ph w g σ hb env h ((x, q) :: ρ)) (hx : ρ.lookup x = none) : Ph w g σ hb env h ρ :=
  ⟨p.fm.drop hx, p.srt, p.mem, fun y r e => p.pin y r (by rw [lk_cons, if_neg (fun z => by rw [z, hx] at e; cases e)]; exact e)⟩
theorem Ph.but {It : Addr} (p : Ph w g σ hb env h ρ) (kp : ∀ b o, b ≠ It → h.get? b = some o → h'.get? b = some o) (oI : Off env It) (nI' : hb.get? It = none) (mI : ∀ b, Mem g σ b → b ≠ It) : Ph w g σ hb env h' ρ :=
  ⟨p.fm.chgV (S := fun b => b = It) p.pin (fun b o nb q => kp b o nb q) (fun b q => by rw [q]; exact oI) (fun b q => by rw [q]; exact nI'), p.srt.keep fun b o m q => kp b o (mI b m) q, p.mem, p.pin⟩
/-- the sorter has changed -/
theorem Ph.own (p : Ph w g σ hb env h ρ) (c : Chg (Own g σ) h h') (S : Srt w h' g σ') (m : ∀ b, Mem g σ' b → Mem g σ b) : Ph w g σ' hb env h' ρ :=
  ⟨p.fm.chgV (S := Own g σ) p.pin c (fun b q => (p.mem b q.mem).2) (fun b q => (p.mem b q.mem).1), S, fun b q => p.mem b (m b q), p.pin⟩
theorem Ph.frs (p : Ph w g σ hb env h ρ) (L : LC w G env hb) : Frms h [env] := fun v hv => by
  rw [List.mem_singleton.mp hv]
  obtain ⟨m, hm, _⟩ := p.fm.ns
  exact ⟨p.fm.kind, _, m, L.fr, hm⟩
theorem isFr1 (L : LC w G env hb) {b : Addr} : isFr [env] b ↔ b = env.locals := by simp [isFr, L.fr]
theorem plP_at (W : Whl P) (i : Nat) : (at_ P i = zP ∧ plP (at_ P i) = -1) ∨ (at_ P i ≠ zP ∧ 0 ≤ plP (at_ P i) ∧ plP (at_ P i) < 5040) := by
  by_cases z : at_ P i = zP
  · exact .inl ⟨z, by rw [z]; exact plP_z⟩
  · exact .inr ⟨z, W.tm_bd (mem_kinds_at z)⟩
theorem edg_place (W : Whl P) {i j : Nat} (hj : 0 ≤ plP (at_ P j)) : edg P i j = (decide (0 ≤ plP (at_ P i)) && (decide (0 < (plP (at_ P j) - plP (at_ P i)).fmod 5040) && decide ((plP (at_ P j) - plP (at_ P i)).fmod 5040 < 2520))) := by
  have jz : at_ P j ≠ zP := fun z => by rw [z, plP_z] at hj; omega
  rw [Bool.eq_iff_iff]
  simp only [Bool.and_eq_true, decide_eq_true_eq]
  rcases plP_at W i with ⟨z, e⟩ | ⟨z, e1, e2⟩
  · constructor
    · intro q; exact absurd z (edg_ne q).1
    · rintro ⟨q, _⟩; rw [e] at q; omega
  · unfold edg
    rw [decide_eq_true_eq, W.pos (mem_kinds_at z) (mem_kinds_at jz), Int.fmod_eq_emod_of_nonneg _ (by decide)]
    exact ⟨fun q => ⟨e1, q⟩, fun q => q.2⟩
noncomputable def addsS (P : List Pt) (j : Nat) : Sta :=
  { n := P.length, np := fun i => if i < j then (((List.range P.length).countP fun p => edg P p i : Nat) : Int) else 0, su := fun i => (List.range j).filter (edg P i), rd := none, po := 0, nf := 0 }
noncomputable def predsP (P : List Pt) (j : Nat) : List Nat := (List.range P.length).filter fun i => edg P i j
theorem adds_0 {h : Heap} (S : Srt w h g (freshS P.length)) : Srt w h g (addsS P 0) := S.congr rfl rfl rfl rfl fun i _ => ⟨rfl, rfl⟩
theorem adds_end {h : Heap} (S : Srt w h g (addsS P P.length)) : Srt w h g (bldS P) := S.congr rfl rfl rfl rfl fun i (hi : i < P.length) => ⟨by show _ = if i < P.length then _ else _; rw [if_pos hi]; rfl, rfl⟩
theorem filter_one {n i : Nat} {q : Nat → Bool} (hq : q i = true → i < n) : ((List.range n).filter q).filter (· == i) = if q i = true then [i] else [] := by
  rw [List.filter_filter]
  by_cases z : q i = true
  · rw [if_pos z]
    have e : (fun a => a == i && q a) = fun a => a == i := by
      funext a
      by_cases y : a = i
      · subst y; simp [z]
      · simp [y]
    rw [e]
    have hi := hq z
    clear e z hq
    induction n with
    | zero => omega
    | succ n ih =>
      rw [List.range_succ, List.filter_append]
      by_cases y : i = n
      · subst y
        have : (List.range i).filter (fun a => a == i) = [] := by
          rw [List.filter_eq_nil_iff]
          intro a ha
          have := List.mem_range.mp ha
          simp; omega
        rw [this]; simp
      · rw [ih (by omega)]
        have : ([n].filter fun a => a == i) = [] := by simp; omega
        rw [this]; simp
  · rw [if_neg z, List.filter_eq_nil_iff]
    intro a _ y
    simp only [Bool.and_eq_true, beq_iff_eq] at y
    rw [y.1] at y
    exact z y.2
theorem adds_step {h : Heap} {j : Nat} (S : Srt w h g (addS (addsS P j) j (predsP P j))) : Srt w h g (addsS P (j + 1)) := by
  refine S.congr rfl rfl rfl rfl fun i hi => ⟨?_, ?_⟩
  · show (if i < j + 1 then (((List.range P.length).countP fun p => edg P p i : Nat) : Int) else 0) = upd (addsS P j).np j ((addsS P j).np j + ((predsP P j).length : Nat)) i
    by_cases z : i = j
    · subst z
      rw [upd_same, if_pos (Nat.lt_succ_self _)]
      show _ = (if i < i then _ else (0 : Int)) + _
      rw [if_neg (Nat.lt_irrefl _), predsP, List.countP_eq_length_filter]; omega
    · rw [upd_ne _ _ z]
      show _ = if i < j then _ else _
      by_cases y : i < j
      · rw [if_pos y, if_pos (by omega)]
      · rw [if_neg y, if_neg (by omega)]
  · show (List.range (j + 1)).filter (edg P i) = (List.range j).filter (edg P i) ++ ((predsP P j).filter (· == i)).map fun _ => j
    rw [predsP, filter_one (q := fun a => edg P a j) (fun q => (edg_in i j q).1), List.range_succ, List.filter_append]
    congr 1
    by_cases z : edg P i j = true
    · simp [z]
    · simp [z]
theorem adds_skip {h : Heap} {j : Nat} (hj : at_ P j = zP) (S : Srt w h g (addsS P j)) : Srt w h g (addsS P (j + 1)) := by
  refine S.congr rfl rfl rfl rfl fun i hi => ⟨?_, ?_⟩
  · show (if i < j + 1 then (((List.range P.length).countP fun p => edg P p i : Nat) : Int) else 0) = if i < j then _ else _
    by_cases z : i = j
    · subst z
      rw [if_pos (Nat.lt_succ_self _), if_neg (Nat.lt_irrefl _)]
      have : ((List.range P.length).countP fun p => edg P p i) = 0 := by
        rw [List.countP_eq_zero]
        intro p _ q
        exact (edg_ne q).2 hj
      rw [this]; rfl
    · by_cases y : i < j
      · rw [if_pos y, if_pos (by omega)]
      · rw [if_neg y, if_neg (by omega)]
  · show (List.range (j + 1)).filter (edg P i) = (List.range j).filter (edg P i)
    rw [List.range_succ, List.filter_append]
    have : [j].filter (edg P i) = [] := by
      rw [List.filter_eq_nil_iff]
      intro a ha q
      rw [List.mem_singleton.mp ha] at q
      exact (edg_ne q).2 hj
    rw [this, List.append_nil]
/-- a < b < c -/
theorem ts_chain {l m r : Expr} {pos : Pos} {a b c : Int} (hl : EvD pw w k env h l (.int a)) (hm : EvD pw w k env h m (.int b)) (hr : EvD pw w k env h r (.int c)) (hk : lastMarks [.Lt, .Lt] [m, r] = false := by with_unfolding_all rfl) :
    Ts pw w k env h (.Compare l [.Lt, .Lt] [m, r] pos) (decide (a < b) && decide (b < c)) := fun A s E Q rm hx hq => by
  refine isTrue_chain (hl A s E _ rm hx fun x h1 t1 e1 p1 => ?_) hk
  refine test_link (hm A _ E _ rm (hx.trans e1) fun y h2 t2 e2 p2 => ?_)
  refine cmp_ltI (k := k) (h := h2) A _ E _ x y rm (.refl _) (Rd.ext p1 e2) p2 fun h3 t3 e3 => ?_
  refine wpAny_truthy_bool ?_
  cases hb : decide (a < b) with
  | false =>
    rw [hb] at hq
    exact hq _ _ ((e1.trans e2).trans e3)
  | true =>
    rw [hb] at hq
    rw [if_pos rfl]
    refine test_last (hr A _ E _ rm (((hx.trans e1).trans e2).trans e3) fun z h4 t4 e4 p4 => ?_)
    refine cmp_ltI (k := k) (h := h4) A _ E _ y z rm (.refl _) (Rd.ext (Rd.ext p2 e3) e4) p4 fun h5 t5 e5 => ?_
    refine wpAny_truthy_bool ?_
    exact hq _ _ ((((e1.trans e2).trans e3).trans e4).trans e5)
end
end Mine

end

section
open PySem PySem.W PyProof.Rows PySem.SeqAt
set_option Elab.async false
set_option linter.all false
set_option autoImplicit false
namespace Mine
theorem keep_144 (P : Params) : keepIn (KF P) (.ref 144) = true := by kernel_rfl
section
variable {w : World} {G : List (Str × Value)} {k : Nat} {A : Around} {E : Value → Shared → Prop} {s : Shared} {g : Geo} {σ σ' : Sta} {hb h h' : Heap} {env : Env} {ρ : Locs} {P : List Pt} {vp vq : Value}
noncomputable def rhoB (vp vq : Value) : Locs := pinR [("points_due", vq), ("places", vp)]
noncomputable def rhoS (x : Addr) (vp vq : Value) : Locs := pinR [("sorter", .ref x), ("points_due", vq), ("places", vp)]
noncomputable def plD (P : List Pt) : PyData := .list (P.map fun p => .int (plP p))
theorem ev_rangeP (L : LC w G env hb) (hn : P.length ≤ 9) (hp : Rd hb vp (plD P)) (F : Fm hb h env ρ) (hx : ρ.lookup (Str.ofString "places") = some (prV vp)) (p1 p2 p3 p4 p5 : Pos) :
    EvP pw w k env h (.Call (.Name "range" p1) [.Call (.Name "len" p2) [.Name "places" p3] [] p4] [] p5) (IsRng P.length) := by
  have kd : ∀ x, env.kindOf x = (defScope lawD).names.lookup x := fun x => by rw [Env.kindOf, L.sc]
  have g' := L.B.glo.ext F.base
  exact ev_range (has_b g' (by decide) boot_range F.kind (kd _) L.gl L.bu) (ev_len (xs := P) (f := fun p => .int (plP p)) (has_b g' (by decide) boot_len F.kind (kd _) L.gl L.bu) ((ev_pin F hx).mono fun v h' e (q : v = _) => by rw [q]; exact hp.ext (F.base.trans e)) (by omega))
theorem preds_ok (W : Whl P) {j : Nat} (hj : 0 ≤ plP (at_ P j)) : predsP P j = (List.range P.length).filter fun i => decide (0 ≤ plP (at_ P i)) && (decide (0 < (plP (at_ P j) - plP (at_ P i)).fmod 5040) && decide ((plP (at_ P j) - plP (at_ P i)).fmod 5040 < 2520)) :=
  List.filter_congr fun i _ => edg_place W hj
theorem pl_get {i : Nat} (hi : i < P.length) : (P.map fun p => PyData.int (plP p))[((i : Nat) : Int).toNat]? = some (.int (plP (at_ P i))) := by
  simp [at_get hi]
set_option maxHeartbeats 1000000 in
theorem law_a {Q : Flow → Shared → Prop} (rm : Room (k + 6) A) (L : LC w G env hb) (W : Whl P) (F : Fm hb s.heap env (rhoB vp vq)) (hp : Rd hb vp (plD P))
    (h : ∀ g h' tk, Ph w g (bldS P) hb env h' (rhoS g.x vp vq) → wpAny (model pw w) A (execs ((defBody lawD).drop 7) env) Q E { s with heap := h', toks := tk }) : wpAny (model pw w) A (execs ((defBody lawD).drop 5) env) Q E s := by
  have kd : ∀ x, env.kindOf x = (defScope lawD).names.lookup x := fun x => by rw [Env.kindOf, L.sc]
  have n9 := W.n9
  have BK := L.B
  -- sorter = TopologicalSorter({..})
  refine wpAny_execs_cons (wpAny_Assign_Name (Call_ (wpAny_Name (has_g (prog := pw) (w := w) (BK.glo.ext F.base) L.gT F.kind (kd _) L.gl _ _ _ _ (.refl _) ?_) (by decide))))
  refine callWith_K (KIn.ext BK.K F.base) (keep_144 _) (args_cons (EvP.run (ev_dictc (p3 := default) (n := P.length) (KIn.ext BK.K F.base) (ev_rangeP L n9 hp F rfl _ _ _ _ _) (by omega) rfl (by decide) (nofree rfl) (by decide) rfl (by decide)) rm fun v h1 t1 e1 q1 => args_nil ⟨KIn.ext BK.K (F.base.trans e1), wpAny_call ?_⟩))
  obtain ⟨Dd', ls, rfl, dd1, ll1, nd1, sm1⟩ := q1
  refine sorter_ok (s := { s with heap := h1, toks := t1 }) (k := k) rm BK (F.base.trans e1) dd1 sm1 ll1 (by omega) fun g h2 t2 e2 S2 M2 => ?_
  have F2 := (F.ext e1).ext e2
  have mem2 : ∀ b, Mem g (freshS P.length) b → hb.get? b = none ∧ Off env b := fun b m => by
    refine ⟨?_, (F.ext e1).off_new (M2 b m)⟩
    cases z : hb.get? b with
    | none => rfl
    | some o => have := M2 b m; rw [e1 _ _ (F.base _ _ z)] at this; cases this
  refine Fm.store (s := { s with heap := h2, toks := t2 }) (p := prV (.ref g.x)) F2 (.inl (kd _)) rfl fun h3 t3 F3 pr3 of3 => ?_
  have p2 : Ph w g (addsS P 0) hb env h2 (rhoB vp vq) := ⟨F2, adds_0 S2, fun b m => mem2 b (m.cast rfl rfl), pinsP⟩
  have p3 : Ph w g (addsS P 0) hb env h3 (rhoS g.x vp vq) := p2.put F3 of3
  -- for later in range(len(places))
  refine wp_for (s := { s with heap := h3, toks := t3 }) (k := k + 6) (n := P.length) (PI := IsRng P.length) (I := fun i v => ∃ t, v = .int (i : Nat) t) (Z := fun _ => False) rm (ev_rangeP L n9 hp p3.fm rfl _ _ _ _ _) (hit_range rm (by omega))
    (fun It j h => Ph w g (addsS P j) hb env h (rhoS g.x vp vq) ∧ Off env It ∧ hb.get? It = none ∧ ∀ b, Mem g (addsS P 0) b → b ≠ It)
    (fun It h4 e4 n4 => by
      refine ⟨p3.ext e4, p3.fm.off_new n4, ?_, fun b m q => ?_⟩
      · cases z : hb.get? It with
        | none => rfl
        | some o => rw [p3.fm.base _ _ z] at n4; cases n4
      · obtain ⟨o, ho⟩ := p3.srt.at m; rw [q] at ho; rw [n4] at ho; cases ho)
    ?_ ?_ ?_
  · rintro It j h4 h5 ⟨p4, oI, nI', mI⟩ kp
    exact ⟨p4.but kp oI nI' fun b m => mI b (m.cast rfl rfl), oI, nI', mI⟩
  · rintro It j v h4 t4 E' Q' hj ⟨p4, oI, nI', mI⟩ ⟨tv, rfl⟩ _ ⟨oIt, hIt, _⟩ hQ'
    refine wpAny_assign_Name (Fm.store (s := { s with heap := h4, toks := t4 }) (p := prV (.int (j : Nat) tv)) p4.fm (.inr (kd _)) rfl fun h5 t5 F5 pr5 of5 => ?_)
    have p5 := p4.put F5 of5
    have it5 := of5 _ _ oI.l oI.c hIt
    have vpl : ∀ (h : Heap) (p : Pos), Fm hb h env (("later", prV (.int (j : Nat) tv)) :: rhoS g.x vp vq) → EvD pw w (k + 6) env h (.Name "places" p) (plD P) := fun h p F => (ev_pin F rfl).mono fun v h' e (q : v = _) => by rw [q]; exact hp.ext (F.base.trans e)
    refine wp_if (s := { s with heap := h5, toks := t5 }) (b := decide (0 ≤ plP (at_ P j))) rm (ts_cmp (ev_item (vpl _ _ p5.fm) (ev_pinI p5.fm rfl) (by omega) (by omega) (pl_get hj)) ev_int isD_mono cmp_geI) (fun hb1 h6 t6 e6 => ?_) (fun hb1 h6 t6 e6 => wp_nil (wp_nil ?_))
    · have hpl := of_decide_eq_true hb1
      have p6 := p5.ext e6
      obtain ⟨tq, uq, I6⟩ := p6.srt.ins
      -- the cells
      obtain ⟨c1, ov1, hc1, hc2, _, hc4⟩ := p6.fm.cel "places" (kd _)
      obtain ⟨vc, rfl, hvc⟩ := hc4 (prV vp) rfl
      cases (hvc : vc = vp)
      obtain ⟨c2, ov2, hd1, hd2, _, hd4⟩ := p6.fm.cel "later" (kd _)
      obtain ⟨vd, rfl, hvd⟩ := hd4 (prV (.int (j : Nat) tv)) rfl
      cases (hvd : vd = _)
      refine wpAny_execs_cons (wpAny_Expr (methS2 (s := { s with heap := h6, toks := t6 }) (f := 94) (P := IsV (.int (j : Nat) tv)) rm (KIn.ext BK.K p6.fm.base) I6 (ev_pin p6.fm rfl) (by decide) rfl (ev_pin p6.fm rfl) (fun v h h' _ q => q) (fun vs => IntsAre vs (nI (predsP P j))) (fun vs q => by
          have := q.length; rw [nI_len] at this
          have := List.length_filter_le (fun i => edg P i j) (List.range P.length)
          rw [List.length_range] at this
          simp only [sizeLine, predsP] at *; omega)
        ((ev_compF (xs := List.range P.length) (sp := fun i => prD (.int (i : Nat))) (q := fun i => decide (0 ≤ plP (at_ P i)) && (decide (0 < (plP (at_ P j) - plP (at_ P i)).fmod 5040) && decide ((plP (at_ P j) - plP (at_ P i)).fmod 5040 < 2520))) (g := fun i : Nat => prD (.int (i : Int)))
          (ev_rangeP L n9 hp p6.fm rfl _ _ _ _ _) (src_range (by omega)) (safeX fun _ => rfl) (by simp [sizeLine]; omega) (frees ["places", "later"] rfl (fun y hy => by
            rcases List.mem_cons.mp hy with rfl | hy
            · rw [hc1]; rfl
            · rw [List.mem_singleton.mp hy, hd1]; rfl)) rfl (by decide) (.inl rfl)
          (fun i hi v C c0 h7 e7 pv hv hcv => ts_one ?_) (fun i hi v C c0 h7 _ e7 pv hv hcv => ev_itemI hv pv)).mono fun v h' e ⟨D, ys, q1, ⟨n', q2⟩, q3, _⟩ => ⟨ys.toList, by rw [preds_ok W hpl]; exact pall_ints q3, D, _, n', q1, q2, .inl rfl, by simp⟩) fun u vs h7 t7 e7 pu pv => ?_) (by unfold interactive; rw [p6.fm.kind]; rfl) rfl)
      · have hi := List.mem_range.mp hi
        have vpl7 := fun pos => ev_itemI (k := k + 6) (x := "places") (pos := pos) (has_capV (y := "places") hv rfl rfl rfl hc1 (hc2.keeps e7)) (hp.ext (p6.fm.base.trans e7))
        have vla7 := fun pos => ev_itemI (k := k + 6) (x := "later") (d := .int (j : Nat)) (pos := pos) (has_capV (y := "later") hv rfl rfl rfl hd1 (hd2.keeps e7)) Rd.int
        exact ts_and (ts_cmp (ev_item (vpl7 _) (ev_itemI hv pv) (by omega) (by omega) (pl_get hi)) ev_int isD_mono cmp_geI) fun _ => ts_chain ev_int (ev_mod (ev_sub (ev_item (vpl7 _) (vla7 _) (by omega) (by omega) (pl_get hj)) (ev_item (vpl7 _) (ev_itemI hv pv) (by omega) (by omega) (pl_get hi))) ev_int (by decide)) ev_int
      cases (pu : u = _)
      have p7 := p6.ext e7
      refine add_ok (s := { s with heap := h7, toks := t7 }) (k := k + 4) (σ := addsS P j) (ps := predsP P j) rm BK p7.fm.base p7.srt rfl hj (by show P.length ≤ 100; omega) (by
          have := List.length_filter_le (fun i => edg P i j) (List.range P.length)
          rw [List.length_range] at this
          simp only [predsP]; omega) (fun i _ => by
          have := List.length_filter_le (edg P i) (List.range j)
          rw [List.length_range] at this
          show ((List.range j).filter (edg P i)).length ≤ 1000
          omega) pv (fun p hp' => List.mem_range.mp (List.mem_filter.mp hp').1) (fun b m => (p7.mem b m.mem).1) fun h8 t8 c8 S8 => ?_
      have p8 := p7.own c8 (adds_step S8) fun b m => m.cast rfl rfl
      have nIo : ¬ Own g (addsS P j) It := fun m => mI It (m.mem.cast rfl rfl) rfl
      refine wp_nil (wp_nil (hQ' _ _ _ (fun _ => ⟨⟨p8.drop rfl, oI, nI', mI⟩, ?_⟩) (fun q => by cases q) (fun v q => by cases q)))
      rintro b o (rfl | z) q
      · rw [hIt] at q; cases q
        exact c8 _ _ nIo (e7 _ _ (e6 _ _ it5))
      · exact z.elim
    · have hpl := of_decide_eq_false hb1
      have p6 := p5.ext e6
      have hz : at_ P j = zP := by
        rcases plP_at W j with ⟨z, _⟩ | ⟨_, z, _⟩
        · exact z
        · exact absurd z hpl
      have p7 : Ph w g (addsS P (j + 1)) hb env h6 (rhoS g.x vp vq) := by
        have := p6.drop rfl
        exact ⟨this.fm, adds_skip hz this.srt, fun b m => this.mem b (m.cast rfl rfl), this.pin⟩
      refine hQ' _ _ _ (fun _ => ⟨⟨p7, oI, nI', mI⟩, ?_⟩) (fun q => by cases q) (fun v q => by cases q)
      rintro b o (rfl | z) q
      · rw [hIt] at q; cases q
        exact e6 _ _ it5
      · exact z.elim
  · rintro It h4 t4 ⟨p4, _⟩ _
    exact h g h4 t4 ⟨p4.fm, adds_end p4.srt, fun b m => p4.mem b (m.cast rfl rfl), p4.pin⟩
end
end Mine

end

section
open PySem PySem.W PyProof.Rows PySem.SeqAt
set_option Elab.async false
set_option linter.all false
set_option autoImplicit false
namespace Mine
structure Ph3 (w : World) (g : Geo) (σ : Sta) (hb : Heap) (env : Env) (h : Heap) (ρ : Locs) : Prop where
  fm : Fm hb h env ρ
  srt : Srt w h g σ
  off : ∀ b, Mem g σ b → Off env b
  new : ∀ b, OwnR g σ b → hb.get? b = none
  pin : ∀ x p, ρ.lookup x = some p → ∃ u, p = prV u
section
variable {w : World} {G : List (Str × Value)} {k : Nat} {A : Around} {E : Value → Shared → Prop} {s : Shared} {g : Geo} {σ σ' : Sta} {h0 hb h h' : Heap} {env : Env} {ρ : Locs} {P : List Pt} {vp vq v1 v2 : Value}
theorem Fm.rebase2 {h1 : Heap} (F : Fm h0 h env ρ) (e : Ext h1 h) (nl : h1.get? env.locals = none) (nc : ∀ x c, env.kindOf x = some .cell → env.cells.lookup x = some c → h1.get? c = none) : Fm h1 h env ρ where
  base := e
  kind := F.kind
  ns := F.ns
  cel := fun x hx => by
    obtain ⟨c, ov, q1, q2, q3, q4⟩ := F.cel x hx
    exact ⟨c, ov, q1, q2, nc x c hx q1, q4⟩
  dom := F.dom
  inj := F.inj
  freshL := nl
  cin := F.cin
/-- the frame's own slots and some objects off it change -/
theorem Fm.slC {S : Addr → Prop} (F : Fm hb h env ρ) (pin : ∀ x p, ρ.lookup x = some p → ∃ u, p = prV u) (c : ∀ b o, ¬ S b → b ≠ env.locals → h.get? b = some o → h'.get? b = some o) (hS : ∀ b, S b → Off env b) (hS0 : ∀ b, S b → hb.get? b = none)
    (fr : ∀ o, h.get? env.locals = some o → ∃ sl, h'.get? env.locals = some { o with slots := sl }) : Fm hb h' env ρ := by
  have cne : ∀ z x ov, env.cells.lookup z = some x → h.IsCell x ov → x ≠ env.locals := fun z x ov e ⟨o2, ho2, hd2⟩ q => by
    obtain ⟨m, ⟨o1, es, ep, ho, hd, _⟩, _⟩ := F.ns
    rw [q, ho] at ho2; cases ho2; rw [hd] at hd2; cases hd2
  refine ⟨fun b o q => ?_, F.kind, ?_, fun z hz => ?_, F.dom, F.inj, F.freshL, fun z x q => ?_⟩
  · refine c b o (fun y => by rw [hS0 b y] at q; cases q) (fun y => ?_) (F.base _ _ q)
    have := F.freshL; rw [← y, q] at this; cases this
  · obtain ⟨m, ⟨o, es, ep, ho, hd, r⟩, hm⟩ := F.ns
    obtain ⟨sl, q⟩ := fr o ho
    refine ⟨m, ⟨_, es, ep, q, hd, r⟩, fun x p a b => ?_⟩
    obtain ⟨v, q1, q2⟩ := hm x p a b
    obtain ⟨u, rfl⟩ := pin x p a
    exact ⟨v, q1, q2⟩
  · obtain ⟨x, ov, q1, q2, q3, q4⟩ := F.cel z hz
    obtain ⟨o2, ho2, hd2⟩ := id q2
    refine ⟨x, ov, q1, ⟨o2, c _ _ (fun y => (hS _ y).c z q1) (cne z x ov q1 q2) ho2, hd2⟩, q3, fun p a => ?_⟩
    obtain ⟨v, y1, y2⟩ := q4 p a
    obtain ⟨u, rfl⟩ := pin z p a
    exact ⟨v, y1, y2⟩
  · obtain ⟨ov, o2, ho2, hd2⟩ := F.cin z x q
    exact ⟨ov, o2, c _ _ (fun y => (hS _ y).c z q) (cne z x ov q ⟨o2, ho2, hd2⟩) ho2, hd2⟩
theorem Ph3.ext (p : Ph3 w g σ hb env h ρ) (e : Ext h h') : Ph3 w g σ hb env h' ρ := ⟨p.fm.ext e, p.srt.ext e, p.off, p.new, p.pin⟩
theorem pin_cons {x : Str} {v : Value} (hp : ∀ x p, ρ.lookup x = some p → ∃ u, p = prV u) : ∀ y p, ((x, prV v) :: ρ).lookup y = some p → ∃ u, p = prV u := fun y q e => by
  rw [lk_cons] at e
  by_cases z : y = x
  · rw [if_pos z] at e; cases e; exact ⟨_, rfl⟩
  · rw [if_neg z] at e; exact hp y q e
theorem Ph3.put {x : Str} {v : Value} (p : Ph3 w g σ hb env h ρ) (F : Fm hb h' env ((x, prV v) :: ρ)) (of : Offs env h h') : Ph3 w g σ hb env h' ((x, prV v) :: ρ) :=
  ⟨F, p.srt.keep fun b o m q => of b o (p.off b m).l (p.off b m).c q, p.off, p.new, pin_cons p.pin⟩
theorem Ph3.frs (p : Ph3 w g σ hb env h ρ) (L : LC w G env hb) : Frms h [env] := fun v hv => by
  rw [List.mem_singleton.mp hv]
  obtain ⟨m, hm, _⟩ := p.fm.ns
  exact ⟨p.fm.kind, _, m, L.fr, hm⟩
theorem Ph3.mf (p : Ph3 w g σ hb env h ρ) (L : LC w G env hb) : ∀ b, Mem g σ b → ¬ isFr [env] b := fun b m q => (p.off b m).l ((isFr1 L).mp q)
theorem Ph3.own (p : Ph3 w g σ hb env h ρ) (c : Chg (OwnR g σ) h h') (S : Srt w h' g σ') (m : ∀ b, Mem g σ' b → Mem g σ b) (m2 : ∀ b, OwnR g σ' b → OwnR g σ b) : Ph3 w g σ' hb env h' ρ :=
  ⟨p.fm.chgV (S := OwnR g σ) p.pin c (fun b q => p.off b q.mem) p.new, S, fun b q => p.off b (m b q), fun b q => p.new b (m2 b q), p.pin⟩
noncomputable def rhoT (x : Addr) (vp vq v1 v2 : Value) : Locs := pinR [("rounds_due", v2), ("ring_due", v1), ("sorter", .ref x), ("points_due", vq), ("places", vp)]
theorem law_b {Q : Flow → Shared → Prop} {ad al : Addr} (rm : Room (k + 6) A) (L : LC w G env hb) (W : Whl P) (p : Ph w g (bldS P) hb env s.heap (rhoS g.x vp vq)) (hq : LstOf (P.map fun p => prD (ptD p)) vq hb)
    (XD : FnAt hb ad "_law_due" (defParams dueD) (defBody dueD) (defScope dueD)) (XL : FnAt hb al "_law_left" (defParams leftD) (defBody leftD) (defScope leftD)) (gl : G.lookup (Str.ofString "_law_left") = some (.ref al)) (gd : G.lookup (Str.ofString "_law_due") = some (.ref ad))
    (hbd : ∀ p ∈ P, p.1.natAbs < 2 ^ 60 ∧ p.2.natAbs < 2 ^ 60)
    (h : ∀ hb3 v1 v2 h' tk, Ext hb hb3 → Ph3 w g (bldS P) hb3 env h' (rhoT g.x vp vq v1 v2) → Rd hb3 v1 (ringD P) → Rd hb3 v2 (roundsD P) → wpAny (model pw w) A (execs ((defBody lawD).drop 8) env) Q E { s with heap := h', toks := tk }) :
    wpAny (model pw w) A (execs ((defBody lawD).drop 7) env) Q E s := by
  have kd : ∀ x, env.kindOf x = (defScope lawD).names.lookup x := fun x => by rw [Env.kindOf, L.sc]
  have n9 := W.n9
  have g' := L.B.glo.ext p.fm.base
  have XD' := XD.ext p.fm.base
  refine wpAny_execs_cons (Assign_Tuple (EvP.run (ev_call_own (PA := PAll [prL (P.map fun p => prD (ptD p))]) (has_g g' gd p.fm.kind (kd _) L.gl) XD'.fn.choose_spec.choose_spec.1 XD'.fn.choose_spec.choose_spec.2.1
    (evp_pcons (p := prL (P.map fun p => prD (ptD p))) ((ev_pin p.fm rfl).mono fun v h' e (q : v = _) => by rw [q]; exact LstOf.st _ _ _ (p.fm.base.trans e).pres hq) evp_pnil)
    ((due_ok XD' g' (XL.ext p.fm.base) gl P n9 hbd W.k0 W.succ).le (show 2 ≤ k + 6 by omega))) rm fun v h1 t1 e1 q1 => ?_))
  obtain ⟨a, vs, rfl, ht, hr⟩ := Rd.inv_tuple q1
  obtain ⟨v1, vs1, ev1, r1, hr1⟩ := hr.inv_cons
  obtain ⟨v2, vs2, ev2, r2, hr2⟩ := hr1.inv_cons
  rw [hr2.inv_nil] at ev2
  subst ev2
  have hvs : vs = #[v1, v2] := by apply Array.ext'; rw [ev1]
  subst hvs
  have p1 := p.ext e1
  refine wpAny_assign_Tuple (s := { s with heap := h1, toks := t1 }) rm.handled ht rfl rfl fun h2 x2 => ?_
  have e2 : Ext h1 h2 := fun b o q => x2 b o (fun z => by rw [z, get_size_none] at q; cases q) q
  have p2 := p1.ext e2
  show wpAny _ _ (holding [v2] (assign (.Name "ring_due" _) env v1) >>= fun _ => (holding [] (assign (.Name "rounds_due" _) env v2) >>= fun _ => pure ())) _ _ _
  refine wpAny_bind (wpAny_holding (wpAny_assign_Name (Fm.store (s := { s with heap := h2, toks := t1 }) (p := prV v1) p2.fm (.inl (kd _)) rfl fun h3 t3 F3 pr3 of3 => ?_)))
  have p3 := p2.put F3 of3
  refine wpAny_bind (wpAny_holding (wpAny_assign_Name (Fm.store (s := { s with heap := h3, toks := t3 }) (p := prV v2) p3.fm (.inl (kd _)) rfl fun h4 t4 F4 pr4 of4 => wpAny_pure ?_)))
  have p4 := p3.put F4 of4
  -- the new ground
  have S3d : ∀ b o, keptObj o = true → h4.get? b = some o → ¬ (b = env.locals ∨ (∃ z, env.kindOf z = some .cell ∧ env.cells.lookup z = some b) ∨ OwnR g (bldS P) b) := fun b o hk q z => by
    have of := p4.fm.off_seq q hk
    rcases z with z | ⟨z, _, z2⟩ | z
    · exact of.l z
    · exact of.c z z2
    · cases z with
      | dx =>
        obtain ⟨t, u, _, es, n, z, _⟩ := p4.srt.ins
        rw [q] at z; cases z; cases hk
      | inf i hi =>
        obtain ⟨t, u, I⟩ := p4.srt.inf i hi
        have := I.1
        rw [q] at this; cases this; cases hk
      | rd _ l e => cases e
  have hn : ∀ b, (b = env.locals ∨ (∃ z, env.kindOf z = some .cell ∧ env.cells.lookup z = some b) ∨ OwnR g (bldS P) b) → hb.get? b = none := fun b z => by
    rcases z with rfl | ⟨z, z1, z2⟩ | z
    · exact p4.fm.freshL
    · obtain ⟨c, ov, y1, _, y3, _⟩ := p4.fm.cel z z1
      rw [z2] at y1; cases y1; exact y3
    · exact (p4.mem b z.mem).1
  have pr : Pres h4 (hideS (fun b => b = env.locals ∨ (∃ z, env.kindOf z = some .cell ∧ env.cells.lookup z = some b) ∨ OwnR g (bldS P) b) h4) := fun b o hk q => by rw [(hideS_get _ _ _).1 (S3d b o hk q)]; exact q
  have hN : ∀ b, (b = env.locals ∨ (∃ z, env.kindOf z = some .cell ∧ env.cells.lookup z = some b) ∨ OwnR g (bldS P) b) → (hideS (fun b => b = env.locals ∨ (∃ z, env.kindOf z = some .cell ∧ env.cells.lookup z = some b) ∨ OwnR g (bldS P) b) h4).get? b = none := fun b z => (hideS_get _ _ _).2 z
  have eN : Ext (hideS (fun b => b = env.locals ∨ (∃ z, env.kindOf z = some .cell ∧ env.cells.lookup z = some b) ∨ OwnR g (bldS P) b) h4) h4 := hideS_ext (Chg.refl _ _)
  refine h _ v1 v2 h4 t4 (hide_base p4.fm.base hn) ⟨p4.fm.rebase2 eN (hN _ (.inl rfl)) (fun x c z1 z2 => hN _ (.inr (.inl ⟨x, z1, z2⟩))), p4.srt, fun b m => (p4.mem b m).2, fun b m => hN _ (.inr (.inr m)), p4.pin⟩ ?_ ?_
  · exact ((((r1.ext e2).pres pr3).pres pr4).pres pr)
  · exact ((((r2.ext e2).pres pr3).pres pr4).pres pr)
theorem eqv_ints (l : List Nat) : PyData.eqv (.list (nD l)) (.list (nD l)) = true := by
  have : ∀ l : List Nat, PyData.eqvAll (nD l) (nD l) = true := by
    intro l
    induction l with
    | nil => simp [nD, PyData.eqvAll]
    | cons x l ih =>
      have : nD (x :: l) = .int (x : Nat) :: nD l := rfl
      rw [this]
      simp [PyData.eqvAll, PyData.eqv, ih]
  simp [PyData.eqv, this]
theorem depth_ints (l : List Nat) : PyData.depthAll (nD l) ≤ 0 := by
  induction l with
  | nil => simp [nD, PyData.depthAll]
  | cons x l ih =>
    have : nD (x :: l) = .int (x : Nat) :: nD l := rfl
    rw [this]; simp [PyData.depthAll, PyData.depth]; omega
theorem eqv_ring (P : List Pt) : PyData.eqv (ringD P) (ringD P) = true ∧ (ringD P).depth ≤ 64 := by
  unfold ringD
  split
  · refine ⟨eqv_ints _, ?_⟩
    have := depth_ints (ringOf P)
    show PyData.depth (.list (nD (ringOf P))) ≤ 64
    simp only [PyData.depth]; omega
  · exact ⟨by simp [PyData.eqv], by simp [PyData.depth]⟩
/-- the search's answer is the ring -/
theorem law_c {Q : Flow → Shared → Prop} (rm : Room (k + 6) A) (hfr : A.frames = some [env]) (L : LC w G env hb) (W : Whl P) (p : Ph3 w g (bldS P) hb env s.heap (rhoT g.x vp vq v1 v2)) (hr : Rd hb v1 (ringD P))
    (h : ∀ h' tk, Ph3 w g (bldS P) hb env h' (rhoT g.x vp vq v1 v2) → wpAny (model pw w) A (execs ((defBody lawD).drop 9) env) Q E { s with heap := h', toks := tk }) :
    wpAny (model pw w) A (execs ((defBody lawD).drop 8) env) Q E s := by
  have n9 := W.n9
  obtain ⟨t1, u1, I⟩ := p.srt.ins
  obtain ⟨f, hf⟩ := ring_all W
  refine wpAny_execs_cons (wpAny_If (wpAny_isTrue_Compare1 (meth0 (f := 134) rm (KIn.ext L.B.K p.fm.base) I (ev_pin p.fm rfl) (by decide) rfl fun h1 t1 e1 => ?_) (by with_unfolding_all rfl)))
  have p1 := p.ext e1
  refine fc_ok (s := { s with heap := h1, toks := t1 }) (k := k + 5) (outer := [env]) rm L.B p1.fm.base p1.srt (by show P.length ≤ 50; omega) (fun i _ => ⟨by have := suG_len P.length (edg P) i; show (suG P.length (edg P) i).length ≤ 100; omega, suG_lt P.length (edg P) i⟩) hfr (p1.frs L) (fun b q => by rw [(isFr1 L).mp q]; exact p1.fm.freshL) (p1.mf L) hf fun v h2 t2 x2 S2 r2 => ?_
  obtain ⟨F2, pr2⟩ := p1.fm.slt x2 (p1.frs L) (fun b q => by rw [(isFr1 L).mp q]; exact p1.fm.freshL) (fun _ q => by cases q)
  have p2 : Ph3 w g (bldS P) hb env h2 (rhoT g.x vp vq v1 v2) := ⟨F2, S2, p1.off, p1.new, p1.pin⟩
  refine EvP.run (s := { s with heap := h2, toks := t2 }) (ev_pin p2.fm (x := "ring_due") rfl) rm fun u h3 t3 e3 q3 => ?_
  cases (q3 : u = _)
  have p3 := p2.ext e3
  rw [ring_D] at r2
  obtain ⟨q1, q2⟩ := eqv_ring P
  refine cmp_neD (prog := pw) (w := w) (k := k) (h := h3) q2 q2 A { s with heap := h3, toks := t3 } _ _ v v1 (rm.le (by omega)) (.refl _) (r2.ext e3) (hr.ext p3.fm.base) fun h4 t4 e4 => ?_
  rw [q1]
  refine wpAny_truthy_bool ?_
  exact wp_nil (h h4 t4 (p3.ext e4))
end
end Mine

end

section
open PySem PySem.W PyProof.Rows PySem.SeqAt
set_option Elab.async false
set_option linter.all false
set_option autoImplicit false
namespace Mine
section
variable {w : World} {G : List (Str × Value)} {k : Nat} {A : Around} {E : Value → Shared → Prop} {s : Shared} {g : Geo} {σ σ' : Sta} {h0 hb h h' : Heap} {env : Env} {ρ : Locs} {P : List Pt} {vp vq v1 v2 : Value}
theorem Ph3.shadow {x : Str} {q : Pr} {v : Value} (p : Ph3 w g σ hb env h ((x, prV v) :: (x, q) :: ρ)) (hp : ∀ y p, ρ.lookup y = some p → ∃ u, p = prV u) : Ph3 w g σ hb env h ((x, prV v) :: ρ) :=
  ⟨p.fm.weaken fun y r e => ⟨r, by
    rw [lk_cons] at e ⊢
    by_cases z : y = x
    · rw [if_pos z] at e ⊢; exact e
    · rw [if_neg z] at e ⊢; rw [lk_cons, if_neg z]; exact e, fun v z => z⟩, p.srt, p.off, p.new, pin_cons hp⟩
noncomputable def rhoU (b : Bool) (x : Addr) (vp vq v1 v2 : Value) : Locs := ("stopped", prV (.bool b)) :: rhoT x vp vq v1 v2
theorem prep_mem {a b : Addr} (m : Mem g (prepS σ a) b) (hrd : σ.rd = none) : Mem g σ b ∨ b = a := by
  cases m with
  | x => exact .inl .x
  | dx => exact .inl .dx
  | d => exact .inl .d
  | inf i hi => exact .inl (.inf i hi)
  | din i hi => exact .inl (.din i hi)
  | suc i hi => exact .inl (.suc i hi)
  | rd _ l e => cases e; exact .inr rfl
theorem prep_own {a b : Addr} (m : OwnR g (prepS σ a) b) : OwnR g σ b ∨ b = a := by
  cases m with
  | dx => exact .inl .dx
  | inf i hi => exact .inl (.inf i hi)
  | rd _ l e => cases e; exact .inr rfl
theorem law_d {Q : Flow → Shared → Prop} (rm : Room (k + 6) A) (hfr : A.frames = some [env]) (L : LC w G env hb) (W : Whl P) (p0 : Ph3 w g (bldS P) hb env s.heap (rhoT g.x vp vq v1 v2))
    (h : ∀ a h' tk, Ph3 w g (prepS (bldS P) a) hb env h' (rhoU (decide (headsOf P = [])) g.x vp vq v1 v2) → wpAny (model pw w) A (execs ((defBody lawD).drop 11) env) Q E { s with heap := h', toks := tk }) :
    wpAny (model pw w) A (execs ((defBody lawD).drop 9) env) Q E s := by
  have kd : ∀ x, env.kindOf x = (defScope lawD).names.lookup x := fun x => by rw [Env.kindOf, L.sc]
  have n9 := W.n9
  -- stopped = False
  refine wp_assign (p := prV (.bool false)) rm p0.fm (ev_true.mono fun v h' _ q => Rd.inv_bool q) (.inl (kd _)) fun h1 t1 F1 pr1 of1 => ?_
  have p1 : Ph3 w g (bldS P) hb env h1 (rhoU false g.x vp vq v1 v2) := p0.put F1 of1
  obtain ⟨tq, uq, I⟩ := p1.srt.ins
  obtain ⟨f, hf⟩ := ring_all W
  -- try
  refine wpAny_execs_cons (wpAny_Try_except (wpAny_execs_cons (wpAny_Expr (meth0 (s := { s with heap := h1, toks := t1 }) (f := 99) rm (KIn.ext L.B.K p1.fm.base) I (ev_pin p1.fm rfl) (by decide) rfl fun h2 t2 e2 => ?_) (by unfold interactive; rw [p1.fm.kind]; rfl) rfl)))
  have p2 := p1.ext e2
  have hfresh : ∀ a, h2.get? a = none → Off env a ∧ hb.get? a = none := fun a na => ⟨p2.fm.off_new na, by
    cases z : hb.get? a with
    | none => rfl
    | some o => rw [p2.fm.base _ _ z] at na; cases na⟩
  have hres : ∀ r, ringRes P = some r → headsOf P = [] := fun r q => by
    unfold ringRes at q
    split at q
    · assumption
    · cases q
  have hres0 : ringRes P = none → headsOf P ≠ [] := fun q => by
    unfold ringRes at q
    split at q
    · cases q
    · assumption
  refine prep_ok (s := { s with heap := h2, toks := t2 }) (k := k + 4) (outer := [env]) rm L.B p2.fm.base p2.srt rfl (by show P.length ≤ 50; omega) (fun i _ => ⟨by have := suG_len P.length (edg P) i; show (suG P.length (edg P) i).length ≤ 100; omega, suG_lt P.length (edg P) i⟩) hfr (p2.frs L) (fun b q => by rw [(isFr1 L).mp q]; exact p2.fm.freshL) p2.new (p2.mf L) hf (ring_ne W)
    (fun hr a h3 t3 c3 fk S3 na => ?_) (fun r hr a e t base h3 t3 fl cb fk Sb na => ?_)
  · have F3 : Fm hb h3 env (rhoU false g.x vp vq v1 v2) := p2.fm.slC (S := OwnR g (bldS P)) p2.pin (fun b o ns nl q => c3 b o (fun z => z.elim ns fun z => nl ((isFr1 L).mp z)) q) (fun b q => p2.off b q.mem) p2.new (fun o q => fk _ o ((isFr1 L).mpr rfl) q)
    have p3 : Ph3 w g (prepS (bldS P) a) hb env h3 (rhoU false g.x vp vq v1 v2) := ⟨F3, S3, fun b m => (prep_mem m rfl).elim (p2.off b) fun z => by rw [z]; exact (hfresh a na).1, fun b m => (prep_own m).elim (p2.new b) fun z => by rw [z]; exact (hfresh a na).2, p2.pin⟩
    have hd : decide (headsOf P = []) = false := decide_eq_false (hres0 hr)
    refine wp_nil (wp_nil (h a h3 t3 ?_))
    rw [hd]; exact p3
  · refine wpAny_looks_onW (s := { s with heap := h3, toks := t3 }) hfr L.fr fl fun h4 hl4 up4 => ?_
    refine wpAny_landsW (s := { s with heap := h4, toks := t3 }) hl4 fun h5 fl5 up5 => ?_
    have ground : ∀ hx, base.StaysIn hx → (∀ o, h2.get? env.locals = some o → ∃ sl, hx.get? env.locals = some { o with slots := sl }) → Ph3 w g (prepS (bldS P) a) hb env hx (rhoU false g.x vp vq v1 v2) := fun hx st fr =>
      ⟨p2.fm.slC (S := OwnR g (bldS P)) p2.pin (fun b o ns nl q => st b o (cb b o (fun z => z.elim ns fun z => nl ((isFr1 L).mp z)) q)) (fun b q => p2.off b q.mem) p2.new fr, Sb.keep fun b o _ q => st b o q,
        fun b m => (prep_mem m rfl).elim (p2.off b) fun z => by rw [z]; exact (hfresh a na).1, fun b m => (prep_own m).elim (p2.new b) fun z => by rw [z]; exact (hfresh a na).2, p2.pin⟩
    have nf : ∀ o, h2.get? env.locals = some o → ∀ sl vs, ({ o with slots := sl } : Obj).data ≠ .fields vs := fun o q sl vs z => by
      obtain ⟨m, ⟨o', es, ep, q1, q2, _⟩, _⟩ := p2.fm.ns
      rw [q] at q1; cases q1
      rw [show ({ o with slots := sl } : Obj).data = o.data from rfl, q2] at z; cases z
    have fr5 : ∀ o, h2.get? env.locals = some o → ∃ sl, h5.get? env.locals = some { o with slots := sl } := fun o q => by
      obtain ⟨s1, y1⟩ := fk _ o ((isFr1 L).mpr rfl) q
      obtain ⟨s2, y2⟩ := up4 _ _ y1 (nf o q s1)
      obtain ⟨s3, y3⟩ := up5 _ _ y2 (nf o q s2)
      exact ⟨s3, y3⟩
    have p5 := ground h5 fl5.1 fr5
    obtain ⟨oe, vs, he, hcls, _⟩ := fl5.first
    refine wpAny_handleBy_cons (codeAny_handlers_test (wpAny_Name (has_g (L.B.glo.ext p5.fm.base) L.B.gC p5.fm.kind (kd _) L.gl _ { s with heap := h5, toks := t3 } _ _ (.refl _) ?_) (by decide))) (by intro q; cases q)
    refine wpAny_excMatches_sub_self (KIn.ext L.B.K p5.fm.base 62 _ (kf_62 _)) he hcls (by decide) ?_
    refine codeAny_handlers_suite (wpAny_setFlight_noneW (s := { s with heap := h5, toks := t3 }) fl5.1 fl5.2.2.1 fl5.2.2.2.at fun h6 k1 k2 k3 k4 => ?_)
    have p6 := ground h6 k1 fun o q => by
      obtain ⟨s1, y1⟩ := fr5 o q
      exact ⟨s1, k4 _ _ y1 (nf o q s1)⟩
    refine wpAny_execs_cons (wpAny_Assign_Name (wpAny_Constant_bool (Fm.store (s := { s with heap := h6, toks := t3 }) (p := prV (.bool true)) p6.fm (.inl (kd _)) rfl fun h7 t7 F7 pr7 of7 => wp_nil ?_)))
    have p7 := (p6.put F7 of7).shadow (p0.pin)
    have hd : decide (headsOf P = []) = true := decide_eq_true (hres r hr)
    refine h a h7 t7 ?_
    rw [hd]; exact p7
end
end Mine

end

section
open PySem PySem.W PyProof.Rows PySem.SeqAt
set_option Elab.async false
set_option linter.all false
set_option autoImplicit false
namespace Mine
/-- the rounds that were given -/
structure Gv (h : Heap) (D : Addr) (ts : List Addr) (R : Nat → List Nat) : Prop where
  l : h.PlainList D (ts.map Value.ref).toArray
  t : ∀ i t, ts[i]? = some t → ∃ vs, h.get? t = some { cls := .type "tuple", data := .seq vs } ∧ IntsAre vs.toList (nI (R i))
section
variable {w : World} {G : List (Str × Value)} {k : Nat} {A : Around} {E : Value → Shared → Prop} {s : Shared} {g : Geo} {σ σ' : Sta} {h0 hb h h' : Heap} {env : Env} {ρ : Locs} {P : List Pt} {vp vq v1 v2 : Value} {D : Addr} {ts : List Addr} {R : Nat → List Nat}
theorem Gv.ext (G : Gv h D ts R) (e : Ext h h') : Gv h' D ts R := ⟨let ⟨n, q⟩ := G.l; ⟨n, e _ _ q⟩, fun i t q => let ⟨vs, q1, q2⟩ := G.t i t q; ⟨vs, e _ _ q1, q2⟩⟩
theorem Gv.pres (G : Gv h D ts R) (e : Pres h h') : Gv h' D ts R := ⟨let ⟨n, q⟩ := G.l; ⟨n, e _ _ rfl q⟩, fun i t q => let ⟨vs, q1, q2⟩ := G.t i t q; ⟨vs, e _ _ rfl q1, q2⟩⟩
theorem own_tuple (S : Srt w h g σ) {t : Addr} {vs : Array Value} {n : Nat} (q : h.get? t = some { cls := .type "tuple", data := .seq vs n }) : ¬ OwnR g σ t := fun m => by
  cases m with
  | dx => obtain ⟨t, u, _, es, n, z, _⟩ := S.ins; rw [q] at z; cases congrArg Obj.data (Option.some.inj z)
  | inf i hi => obtain ⟨t, u, I⟩ := S.inf i hi; have := I.1; rw [q] at this; cases this
  | rd _ l e => obtain ⟨vs, ⟨n, z⟩, _⟩ := S.rdy _ l e; rw [q] at z; have := congrArg Obj.cls (Option.some.inj z); simp at this
theorem own_list (S : Srt w h g σ) {D : Addr} {vs : Array Value} (q : h.PlainList D vs) {a : Addr} {l : List Nat} (hr : σ.rd = some (a, l)) (ne : D ≠ a) : ¬ OwnR g σ D := fun m => by
  obtain ⟨n, q⟩ := q
  cases m with
  | dx => obtain ⟨t, u, _, es, n, z, _⟩ := S.ins; rw [q] at z; cases congrArg Obj.data (Option.some.inj z)
  | inf i hi => obtain ⟨t, u, I⟩ := S.inf i hi; have := I.1; rw [q] at this; cases this
  | rd _ l e => rw [hr] at e; cases e; exact ne rfl
theorem Gv.own (G : Gv h D ts R) (S : Srt w h g σ) (nD' : ¬ OwnR g σ D) (c : Chg (OwnR g σ) h h') : Gv h' D ts R :=
  ⟨let ⟨n, q⟩ := G.l; ⟨n, c _ _ nD' q⟩, fun i t q => let ⟨vs, q1, q2⟩ := G.t i t q; ⟨vs, c _ _ (own_tuple S q1) q1, q2⟩⟩
theorem Gv.rd (G : Gv h D ts R) {N : Nat} (hn : ts.length = N) : Rd h (.ref D) (.list ((List.range N).map fun r => .tuple (nD (R r)))) := by
  refine Rd.list G.l.isList ?_
  subst hn
  have key : ∀ (us : List Addr) (j : Nat), (∀ i t, us[i]? = some t → ∃ vs, h.get? t = some { cls := .type "tuple", data := .seq vs } ∧ IntsAre vs.toList (nI (R (j + i)))) → RdAll h (us.map Value.ref) ((List.range us.length).map fun r => .tuple (nD (R (j + r)))) := by
    intro us
    induction us with
    | nil => intro j _; exact RdAll.nil
    | cons t us ih =>
      intro j ht
      obtain ⟨vs, q1, q2⟩ := ht 0 t rfl
      rw [List.map_cons, List.length_cons, List.range_succ_eq_map, List.map_cons, List.map_map]
      refine RdAll.cons ?_ ?_
      · have : nD (R (j + 0)) = (nI (R (j + 0))).map .int := (nD_eq _).symm
        rw [this]
        exact Rd.tuple ⟨_, q1, rfl, _, rfl⟩ (of_ints q2)
      · have := ih (j + 1) fun i t' e => by
          obtain ⟨vs, q1, q2⟩ := ht (i + 1) t' (by simpa using e)
          exact ⟨vs, q1, by rw [show j + 1 + i = j + (i + 1) by omega]; exact q2⟩
        have e : ((List.range us.length).map ((fun r => PyData.tuple (nD (R (j + r)))) ∘ Nat.succ)) = (List.range us.length).map fun r => .tuple (nD (R (j + 1 + r))) := by
          refine List.map_congr_left fun r _ => ?_
          show PyData.tuple (nD (R (j + Nat.succ r))) = _
          rw [show j + Nat.succ r = j + 1 + r by omega]
        rw [e]; exact this
  have := key ts 0 fun i t e => by rw [Nat.zero_add]; exact G.t i t e
  simpa using this
theorem eqv_rounds (P : List Pt) : PyData.eqv (roundsD P) (roundsD P) = true ∧ (roundsD P).depth ≤ 64 := by
  have t : ∀ l : List Nat, PyData.eqvAll (nD l) (nD l) = true := fun l => by have := eqv_ints l; simpa [PyData.eqv] using this
  have a : ∀ l : List Nat, PyData.eqvAll (l.map fun r => .tuple (nD (roundOf P r))) (l.map fun r => .tuple (nD (roundOf P r))) = true := by
    intro l
    induction l with
    | nil => simp [PyData.eqvAll]
    | cons x l ih => simp only [List.map_cons, PyData.eqvAll, PyData.eqv, t, ih, Bool.and_true]
  have d : ∀ l : List Nat, PyData.depthAll (l.map fun r => .tuple (nD (roundOf P r))) ≤ 1 := by
    intro l
    induction l with
    | nil => simp [PyData.depthAll]
    | cons x l ih =>
      have := depth_ints (roundOf P x)
      simp only [List.map_cons, PyData.depthAll, PyData.depth]; omega
  constructor
  · show PyData.eqv (.list ((List.range (roundsN P)).map fun r => .tuple (nD (roundOf P r)))) (.list ((List.range (roundsN P)).map fun r => .tuple (nD (roundOf P r)))) = true
    simp only [PyData.eqv]; exact a _
  · show PyData.depth (.list ((List.range (roundsN P)).map fun r => .tuple (nD (roundOf P r)))) ≤ 64
    have := d (List.range (roundsN P))
    simp only [PyData.depth]; omega
theorem ev_lenV {o : Expr} {p1 p2 : Pos} {D : Addr} {vs : Array Value} (hb' : Has pw w h env "len" (.builtin "len")) (ho : EvP pw w k env h o (IsV (.ref D))) (hl : h.IsList D vs) (hn : vs.size < 2 ^ 60) (hst : starEach [o] env = [(false, eval o env)] := by rfl) :
    EvD pw w k env h (.Call (.Name "len" p1) [o] [] p2) (.int (vs.size : Nat)) := by
  refine ev_call_builtin (PA := fun us _ => us = [.ref D]) hb' (evp_cons (P1 := IsV (.ref D)) (P2 := fun vs _ => vs = []) ho (evp_nil fun _ _ => rfl) (fun v h h' _ q => q) (fun v vs h' (q1 : v = _) (q2 : vs = []) => by rw [q1, q2]) hst) ?_ hst rfl
  intro A s us E Q rm hx pa hq
  subst pa
  exact Calls.call_len_list (isList_ext hl hx) (by omega) (hq _ _ _ (.refl _) Rd.int)
theorem ev_active {o : Expr} {apos pos : Pos} {a : Addr} {l : List Nat} (B : Bse w G hb) (eB : Ext hb h) (S : Srt w h g σ) (hrd : σ.rd = some (a, l)) (hlen : l.length ≤ 100) (ho : EvP pw w (k + 1) env h o (IsV (.ref g.x)))
    (hbase : attributeBase o "is_active" env (eval o env) = eval o env := by rfl) (hline : (apos.endLine == pos.line) = true := by rfl) :
    EvD pw w (k + 1) env h (.Call (.Attribute o "is_active" apos) [] [] pos) (.bool (decide (σ.nf < σ.po) || !l.isEmpty)) := fun A s E Q rm hx hq => by
  obtain ⟨t, u, I⟩ := (S.ext hx).ins
  refine meth0 (f := 113) rm (B.ext (eB.trans hx)).K I (ho.ext hx) (by decide) rfl (fun h1 t1 e1 => ?_) hbase hline
  exact active_ok (s := { s with heap := h1, toks := t1 }) rm B ((eB.trans hx).trans e1) (S.ext (hx.trans e1)) hrd hlen fun h2 t2 e2 => hq _ _ _ (e1.trans e2) Rd.bool
end
end Mine

end

section
open PySem PySem.W PyProof.Rows PySem.SeqAt
set_option Elab.async false
set_option linter.all false
set_option autoImplicit false
namespace Mine
section
variable {w : World} {G : List (Str × Value)} {k : Nat} {A : Around} {E : Value → Shared → Prop} {s : Shared} {g : Geo} {σ σ' : Sta} {h0 hb h h' : Heap} {env : Env} {ρ : Locs} {P : List Pt} {vp vq v1 v2 : Value} {D a : Addr} {ts : List Addr}
theorem Ph3.same (p : Ph3 w g σ hb env h ρ) (b : Heap.SameBut D h h') (oD : Off env D) (nD' : hb.get? D = none) (mD : ∀ x, Mem g σ x → x ≠ D) : Ph3 w g σ hb env h' ρ :=
  ⟨p.fm.chgV (S := fun x => x = D) p.pin (Chg.one b) (fun x q => by rw [q]; exact oD) (fun x q => by rw [q]; exact nD'), p.srt.keep fun x o m q => (b.2 x (mD x m)).trans q, p.off, p.new, p.pin⟩
theorem Ph3.seq (p : Ph3 w g σ hb env h ρ) (e : SEq σ σ') : Ph3 w g σ' hb env h ρ :=
  ⟨p.fm, p.srt.congr e.n.symm e.rd.symm e.po.symm e.nf.symm fun i hi => ⟨((e.np i hi).1).symm, ((e.np i hi).2).symm⟩, fun b m => p.off b (m.cast e.n.symm e.rd.symm), fun b m => p.new b (by
    cases m with
    | dx => exact .dx
    | inf i hi => exact .inf i (by rw [e.n]; exact hi)
    | rd _ l q => exact .rd _ l (by rw [e.rd]; exact q)), p.pin⟩
noncomputable def rhoG (D : Addr) (b : Bool) (x : Addr) (vp vq v1 v2 : Value) : Locs := ("given", prV (.ref D)) :: rhoU b x vp vq v1 v2
/-- members of a state with another ready list at the same place -/
theorem mem_of {σ σ' : Sta} {b : Addr} {l l' : List Nat} (m : Mem g σ b) (h1 : σ.n = σ'.n) (h2 : σ.rd = some (a, l)) (h3 : σ'.rd = some (a, l')) : Mem g σ' b := m.cast' h1 fun a' l'' e => by rw [h2] at e; cases e; exact ⟨l', h3⟩
theorem own_of {σ σ' : Sta} {b : Addr} {l l' : List Nat} (m : OwnR g σ b) (h1 : σ.n = σ'.n) (h2 : σ.rd = some (a, l)) (h3 : σ'.rd = some (a, l')) : OwnR g σ' b := by
  cases m with
  | dx => exact .dx
  | inf i hi => exact .inf i (h1 ▸ hi)
  | rd _ l'' e => rw [h2] at e; cases e; exact .rd _ l' h3
set_option maxHeartbeats 1000000 in
theorem law_e {Q : Flow → Shared → Prop} {τ : Nat → Sta} (rm : Room (k + 6) A) (L : LC w G env hb) (hn : P.length ≤ 9) (hN : roundsN P ≤ 9) (Sc : Sched P.length a (roundsN P) τ (roundOf P)) {bs : Bool}
    (p : Ph3 w g (τ 0) hb env s.heap (rhoU bs g.x vp vq v1 v2))
    (h : ∀ D ts h' tk, Ph3 w g (τ (roundsN P)) hb env h' (rhoG D bs g.x vp vq v1 v2) → Gv h' D ts (roundOf P) → ts.length = roundsN P → wpAny (model pw w) A (execs ((defBody lawD).drop 13) env) Q E { s with heap := h', toks := tk }) :
    wpAny (model pw w) A (execs ((defBody lawD).drop 11) env) Q E s := by
  have kd : ∀ x, env.kindOf x = (defScope lawD).names.lookup x := fun x => by rw [Env.kindOf, L.sc]
  -- given = []
  refine wp_assign_new (ps := []) rm p.fm evp_pnil (.inl (kd _)) fun D ys h1 t1 F1 l1 pa1 nD1 pr1 of1 => ?_
  have ys0 : ys = #[] := by have := pa1.length; simpa using this
  subst ys0
  have p1 : Ph3 w g (τ 0) hb env h1 (rhoG D bs g.x vp vq v1 v2) := p.put F1 of1
  have nDb : hb.get? D = none := by
    cases z : hb.get? D with
    | none => rfl
    | some o => rw [p.fm.base _ _ z] at nD1; cases nD1
  have mD0 : ∀ b, Mem g (τ 0) b → b ≠ D := fun b m q => by obtain ⟨o, ho⟩ := p.srt.at m; rw [q, nD1] at ho; cases ho
  have rd0 := Sc.rd 0 (Nat.zero_le _)
  have hDa : D ≠ a := fun q => mD0 a (.rd a _ rd0) q.symm
  have oD : Off env D := let ⟨n, q⟩ := l1; p1.fm.off_seq q rfl
  have mDr : ∀ r, r ≤ roundsN P → ∀ b, Mem g (τ r) b → b ≠ D := fun r hr b m => mD0 b (mem_of m ((Sc.nn r hr).trans (Sc.nn 0 (Nat.zero_le _)).symm) (Sc.rd r hr) rd0)
  -- while
  refine wp_while (s := { s with heap := h1, toks := t1 }) (I := fun m h => ∃ r ts, r ≤ roundsN P ∧ m = roundsN P - r ∧ ts.length = r ∧ Ph3 w g (τ r) hb env h (rhoG D bs g.x vp vq v1 v2) ∧ Gv h D ts (roundOf P)) (roundsN P) ⟨0, [], Nat.zero_le _, rfl, rfl, p1, ⟨l1, fun i t e => by simp at e⟩⟩ ?_
  rintro m h2 t2 E' Q' ⟨r, ts, hr, rfl, hts, p2, G2⟩ cont
  have rdr := Sc.rd r hr
  have pfr := Sc.pf r hr
  have ler := Sc.le r hr
  have hnr := Sc.nn r hr
  have lenG : ((ts.map Value.ref).toArray).size = r := by simp [hts]
  have actb : (decide ((τ r).nf < (τ r).po) || !(roundOf P r).isEmpty) = !(roundOf P r).isEmpty := by
    have : decide ((τ r).nf < (τ r).po) = false := by rw [decide_eq_false_iff_not]; omega
    rw [this]; rfl
  refine Ts.run (s := { s with heap := h2, toks := t2 }) (ts_and (ts_bool (ev_active (k := k + 5) L.B p2.fm.base p2.srt rdr (by omega) (ev_pin p2.fm rfl))) fun _ => ts_cmp (ev_lenV (has_b (L.B.glo.ext p2.fm.base) (by decide) boot_len p2.fm.kind (kd _) L.gl L.bu) (ev_pin p2.fm rfl) G2.l.isList (by rw [lenG]; omega)) ev_int isD_mono cmp_ltI) rm fun h3 t3 e3 => ?_
  rw [actb, lenG]
  have p3 := p2.ext e3
  have G3 := G2.ext e3
  refine cont _ h3 t3 (fun hb1 E'' Q'' cont2 => ?_) (fun hb1 E'' Q'' cont2 => ?_)
  · -- a round
    simp only [Bool.and_eq_true] at hb1
    have hlt : r < roundsN P := by
      rcases Nat.lt_or_ge r (roundsN P) with q | q
      · exact q
      · have : r = roundsN P := Nat.le_antisymm hr q
        rw [this, Sc.fin] at hb1
        exact absurd hb1.1 (by simp)
    obtain ⟨tq, uq, I3⟩ := p3.srt.ins
    obtain ⟨vg, hvg, eg⟩ := p3.fm.has (prog := pw) (w := w) (x := "given") (p := prV (.ref D)) rfl
    cases (eg : vg = _)
    -- given.append(sorter.get_ready())
    refine wpAny_execs_cons (wpAny_Expr (wpAny_Call_method rfl rfl rfl PySem.F.plainAttrs_list PySem.F.slot_list_append PySem.F.type_list_append (wpAny_Name (hvg A { s with heap := h3, toks := t3 } _ _ (.refl _) ?_) (by decide))) (by unfold interactive; rw [p3.fm.kind]; rfl) rfl)
    obtain ⟨n3, hD3⟩ := id G3.l
    refine ⟨⟨_, hD3, rfl⟩, fun a e => by cases e; exact ⟨_, hD3, rfl⟩, callWith_method1 (args_cons (meth0 (s := { s with heap := h3, toks := t3 }) (f := 106) rm (KIn.ext L.B.K p3.fm.base) I3 (ev_pin p3.fm rfl) (by decide) rfl fun h4 t4 e4 => ?_))⟩
    have p4 := p3.ext e4
    have G4 := G3.ext e4
    refine ready_ok (s := { s with heap := h4, toks := t4 }) (k := k + 5) rm L.B p4.fm.base p4.srt rdr (fun q hq => by rw [hnr]; exact Sc.lt r hr q hq) (by omega) p4.new fun b vs h5 t5 c5 S5 tb iv nb => args_nil ?_
    have nO4 : ¬ OwnR g (τ r) D := own_list p4.srt G4.l rdr hDa
    have rdo : (outS (τ r) a (roundOf P r)).rd = some (a, []) := rfl
    have p5 : Ph3 w g (outS (τ r) a (roundOf P r)) hb env h5 (rhoG D bs g.x vp vq v1 v2) := p4.own c5 S5 (fun b m => mem_of m rfl rdo rdr) (fun b m => own_of m rfl rdo rdr)
    have G5 := G4.own p4.srt nO4 c5
    obtain ⟨n5, hD5⟩ := id G5.l
    refine wpAny_list_append_plain (s := { s with heap := h5, toks := t5 }) (hsz := by rw [lenG]; simp [sizeLine]; omega) ⟨n5, hD5⟩ fun h6 l6 b6 => ?_
    have mDo : ∀ x, Mem g (outS (τ r) a (roundOf P r)) x → x ≠ D := fun x m => mDr r hr x (mem_of m rfl rdo rdr)
    have p6 := p5.same b6 oD nDb mDo
    have bD : b ≠ D := fun q => by rw [q] at nb; have := e4 _ _ hD3; rw [nb] at this; cases this
    have tb6 := (b6.2 _ bD).trans tb
    have G6 : Gv h6 D (ts ++ [b]) (roundOf P) := by
      refine ⟨?_, fun i t e => ?_⟩
      · have : ((ts ++ [b]).map Value.ref).toArray = (ts.map Value.ref).toArray.push (.ref b) := by simp
        rw [this]; exact l6
      · by_cases z : i < ts.length
        · rw [List.getElem?_append_left z] at e
          obtain ⟨us, q1, q2⟩ := G5.t i t e
          refine ⟨us, (b6.2 _ fun y => ?_).trans q1, q2⟩
          rw [y, hD5] at q1
          have := congrArg Obj.cls (Option.some.inj q1); simp at this
        · rw [List.getElem?_append_right (by omega)] at e
          have hi : i - ts.length = 0 := by
            rcases Nat.eq_zero_or_pos (i - ts.length) with y | y
            · exact y
            · rw [List.getElem?_eq_none (by simp; omega)] at e; cases e
          rw [hi] at e
          simp at e
          have : i = r := by omega
          rw [this, ← e]
          exact ⟨vs, tb6, iv⟩
    -- sorter.done(*given[-1])
    obtain ⟨tr, ur, I6⟩ := p6.srt.ins
    refine wpAny_execs_cons (wpAny_Expr (methS (s := { s with heap := h6, toks := t5 }) (f := 127) rm (KIn.ext L.B.K p6.fm.base) I6 (ev_pin p6.fm rfl) (by decide) rfl (fun us => IntsAre us (nI (roundOf P r))) (fun us q => by
        have := q.length; rw [nI_len] at this; simp only [sizeLine]; omega)
      ((ev_lastV (ev_pin p6.fm (x := "given") rfl) (ev_neg ev_int) l6).mono fun v h' e (q : v = _) => ⟨vs.toList, iv, b, _, 0, q, e _ _ tb6, .inr rfl, by simp⟩) fun us h7 t7 e7 pu => ?_) (by unfold interactive; rw [p6.fm.kind]; rfl) rfl)
    have p7 := p6.ext e7
    have G7 := G6.ext e7
    obtain ⟨su1, su2⟩ := Sc.su r hr
    refine done_ok (s := { s with heap := h7, toks := t7 }) (k := k + 5) (σ := outS (τ r) a (roundOf P r)) (a := a) (ls := roundOf P r) rm L.B p7.fm.base p7.srt ⟨[], rfl⟩ (fun q hq => by show q < (τ r).n; rw [hnr]; exact Sc.lt r hr q hq) (by omega) (by simp [rl, rdo]) (fun i => by have := su1 i; show ((τ r).su i).length ≤ 100; omega) (fun i hi => by
        have hi' : i < (τ r).n := hi
        show ∀ j ∈ (τ r).su i, j < (τ r).n
        rw [hnr] at hi' ⊢; exact su2 i hi') pu (Sc.out r hlt) p7.new fun h8 t8 c8 S8 => ?_
    have nO7 : ¬ OwnR g (outS (τ r) a (roundOf P r)) D := own_list p7.srt G7.l rdo hDa
    obtain ⟨lf, rdf⟩ := dones_rd a (roundOf P r) (outS (τ r) a (roundOf P r)) ⟨[], rfl⟩
    have nf' := (dones_same a (roundOf P r) (outS (τ r) a (roundOf P r))).1
    have p8 := (p7.own c8 S8 (fun b m => mem_of m nf' rdf rdo) (fun b m => own_of m nf' rdf rdo)).seq (Sc.stp r hlt)
    have G8 := G7.own p7.srt nO7 c8
    refine wp_nil (cont2 _ _ _ (fun _ => ⟨roundsN P - (r + 1), by omega, r + 1, ts ++ [b], hlt, rfl, by simp [hts], p8, G8⟩) (fun q => by cases q) (fun v q => by cases q))
  · have hge : r = roundsN P := by
      refine Classical.byContradiction fun q => ?_
      have hlt : r < roundsN P := by omega
      have hne := Sc.ne r hlt
      have h1 : (!(roundOf P r).isEmpty) = true := by
        cases z : roundOf P r with
        | nil => exact absurd z hne
        | cons x l => rfl
      have h2 : decide (((r : Nat) : Int) < 10) = true := by rw [decide_eq_true_eq]; omega
      rw [h1, h2] at hb1
      cases hb1
    subst hge
    exact wp_nil (cont2 _ _ (h D ts h3 t3 p3 G3 hts))
/-- the answer -/
theorem law_f {Q : Flow → Shared → Prop} {τ : Nat → Sta} (rm : Room (k + 6) A) (L : LC w G env hb) (hn : P.length ≤ 9) (Sc : Sched P.length a (roundsN P) τ (roundOf P))
    (p : Ph3 w g (τ (roundsN P)) hb env s.heap (rhoG D (decide (headsOf P = [])) g.x vp vq v1 v2)) (Gg : Gv s.heap D ts (roundOf P)) (hts : ts.length = roundsN P) (r1 : Rd hb v1 (ringD P)) (r2 : Rd hb v2 (roundsD P))
    (h : ∀ h' tk, Ext hb h' → Q (.ret (.bool true)) { s with heap := h', toks := tk }) :
    wpAny (model pw w) A (execs ((defBody lawD).drop 13) env) Q E s := by
  have kd : ∀ x, env.kindOf x = (defScope lawD).names.lookup x := fun x => by rw [Env.kindOf, L.sc]
  have rdN := Sc.rd _ (Nat.le_refl _)
  rw [Sc.fin] at rdN
  have hring : (!isNoneD (ringD P)) = decide (headsOf P = []) := by
    unfold ringD
    by_cases z : headsOf P = []
    · rw [if_pos z, decide_eq_true z]; rfl
    · rw [if_neg z, decide_eq_false z]; rfl
  have e1 : PyData.eqv (.bool (decide (headsOf P = []))) (.bool (!isNoneD (ringD P))) = true := by rw [hring]; simp [PyData.eqv]
  obtain ⟨e2, d2⟩ := eqv_rounds P
  have hgr : Rd s.heap (.ref D) (roundsD P) := Gg.rd hts
  refine wpAny_execs_cons (wpAny_Return_some (BoolOp_and (EvP.run (ev_cmp ((ev_pin p.fm (x := "stopped") rfl).mono fun v h' _ (q : v = _) => by rw [q]; exact Rd.bool)
    (ev_cmp ((ev_pin p.fm (x := "ring_due") rfl).mono fun v h' e (q : v = _) => by rw [q]; exact r1.ext (p.fm.base.trans e)) ev_none isD_mono cmp_isNotNone) isD_mono (cmp_eqD (by simp [PyData.depth]) (by simp [PyData.depth]))) rm fun v h1 t1 x1 q1 => ?_)))
  rw [Rd.inv_bool q1, e1]
  refine wpAny_truthy_bool ?_
  rw [if_pos rfl]
  have p1 := p.ext x1
  refine BoolOp_and (EvP.run (s := { s with heap := h1, toks := t1 }) (ev_cmp ((ev_pin p1.fm (x := "given") rfl).mono fun v h' e (q : v = _) => by rw [q]; exact hgr.ext (x1.trans e)) ((ev_pin p1.fm (x := "rounds_due") rfl).mono fun v h' e (q : v = _) => by rw [q]; exact r2.ext (p1.fm.base.trans e)) isD_mono (cmp_eqD d2 d2)) rm fun v h2 t2 x2 q2 => ?_)
  rw [Rd.inv_bool q2, e2]
  refine wpAny_truthy_bool ?_
  rw [if_pos rfl]
  have p2 := p1.ext x2
  obtain ⟨tq, uq, I2⟩ := p2.srt.ins
  refine BoolOp_one (wpAny_Compare1 (meth0 (s := { s with heap := h2, toks := t2 }) (f := 106) rm (KIn.ext L.B.K p2.fm.base) I2 (ev_pin p2.fm rfl) (by decide) rfl fun h3 t3 x3 => ?_) (by with_unfolding_all rfl))
  have p3 := p2.ext x3
  refine ready_ok (s := { s with heap := h3, toks := t3 }) (k := k + 5) rm L.B p3.fm.base p3.srt rdN (fun q hq => by cases hq) (by simp) p3.new fun b vs h4 t4 c4 S4 tb iv nb => ?_
  have F4 := p3.fm.chgV (S := OwnR g (τ (roundsN P))) p3.pin c4 (fun b q => p3.off b q.mem) p3.new
  have rb : Rd h4 (.ref b) (.tuple (nD [])) := by rw [← nD_eq]; exact Rd.tuple ⟨_, tb, rfl, _, rfl⟩ (of_ints iv)
  refine EvP.run (s := { s with heap := h4, toks := t4 }) (ev_tuple (w := w) (k := k + 6) (env := env) (h := h4) eva_nil) rm fun v h5 t5 x5 q5 => ?_
  refine cmp_eqD (prog := pw) (w := w) (k := k) (h := h5) (a := .tuple []) (b := .tuple []) (by simp [PyData.depth, PyData.depthAll]) (by simp [PyData.depth, PyData.depthAll]) A { s with heap := h5, toks := t5 } _ _ (.ref b) v (rm.le (by omega)) (.refl _) (rb.ext x5) q5 fun h6 t6 x6 => ?_
  have : PyData.eqv (.tuple []) (.tuple []) = true := by simp [PyData.eqv, PyData.eqvAll]
  rw [this]
  exact h h6 t6 ((F4.base.trans x5).trans x6)
end
end Mine

end

section
open PySem PySem.W PyProof.Rows PySem.SeqAt
set_option Elab.async false
set_option linter.all false
set_option autoImplicit false
namespace Mine
noncomputable def palP (ns : List Int) : List Pt := (pal ns).map ptOf
theorem bright (ns : List Int) : ∃ c ∈ pal ns, ptOf c ≠ zP := by
  have h5 : (8, 5, 3) ∈ cols0 ns := by
    refine List.mem_map.mpr ⟨5 * 205, List.mem_map.mpr ⟨5, by simp, rfl⟩, by decide +kernel⟩
  unfold pal
  split
  · exact ⟨_, h5, by decide +kernel⟩
  · refine ⟨turn (heldOf ns) (8, 5, 3), List.mem_map.mpr ⟨_, h5, rfl⟩, ?_⟩
    unfold turn
    split
    · decide +kernel
    · decide +kernel
theorem whl (ns : List Int) : Whl (palP ns) where
  on := fun p hp => by
    obtain ⟨c, hc, rfl⟩ := List.mem_map.mp hp
    exact onW_col (inCol_pal hc)
  k0 := fun q => by
    obtain ⟨c, hc, hz⟩ := bright ns
    have : ptOf c ∈ kindsOf (palP ns) := mem_kinds.mpr ⟨List.mem_map.mpr ⟨c, hc, rfl⟩, hz⟩
    rw [q] at this; cases this
  n9 := by rw [palP, List.length_map]; exact (pal_len ns).1
theorem eqv_intsZ (l : List Int) : PyData.eqv (.list (l.map .int)) (.list (l.map .int)) = true ∧ (PyData.list (l.map .int)).depth ≤ 64 := by
  have a : ∀ l : List Int, PyData.eqvAll (l.map .int) (l.map .int) = true := by
    intro l
    induction l with
    | nil => simp [PyData.eqvAll]
    | cons x l ih => simp [PyData.eqvAll, PyData.eqv, ih]
  have d : ∀ l : List Int, PyData.depthAll (l.map .int) ≤ 0 := by
    intro l
    induction l with
    | nil => simp [PyData.depthAll]
    | cons x l ih => simp [PyData.depthAll, PyData.depth]; exact Nat.le_zero.mp ih
  refine ⟨by simp [PyData.eqv, a], ?_⟩
  have := d l
  simp only [PyData.depth]; omega
/-- the functions of the text -/
structure Fns (w : World) (G : List (Str × Value)) (h : Heap) : Prop where
  B : Bse w G h
  point : FnAt h 155 "_law_point" (defParams pointD') (defBody pointD') (defScope pointD')
  place : FnAt h 162 "_law_place" (defParams placeD) (defBody placeD) (defScope placeD)
  left : FnAt h 169 "_law_left" (defParams leftD) (defBody leftD) (defScope leftD)
  colours : FnAt h 174 "_law_colours" (defParams coloursD) (defBody coloursD) (defScope coloursD)
  due : FnAt h 179 "_law_due" (defParams dueD) (defBody dueD) (defScope dueD)
  rgb : FnAt h 28 "rgb_to_hsv" (defParams rgbD) (defBody rgbD) (defScope rgbD)
  gT : G.lookup (Str.ofString "TopologicalSorter") = some (.ref 144)
  gpo : G.lookup (Str.ofString "_law_point") = some (.ref 155)
  gpl : G.lookup (Str.ofString "_law_place") = some (.ref 162)
  gl : G.lookup (Str.ofString "_law_left") = some (.ref 169)
  gc : G.lookup (Str.ofString "_law_colours") = some (.ref 174)
  gd : G.lookup (Str.ofString "_law_due") = some (.ref 179)
  gr : G.lookup (Str.ofString "rgb_to_hsv") = some (.ref 28)
section
variable {w : World} {G : List (Str × Value)} {k : Nat} {A : Around} {E : Value → Shared → Prop} {s : Shared} {h0 : Heap} {env : Env} {ns : List Int}
theorem FnAt.o {h : Heap} {a : Addr} {nm : Str} {ps : Arguments} {b : List Stmt} {sc : Scope} (X : FnAt h a nm ps b sc) : ∃ o fd, h.get? a = some o ∧ o.data = .func fd := let ⟨o, fd, h1, h2, _⟩ := X.fn; ⟨o, fd, h1, h2⟩
theorem call_fn {h : Heap} {a : Addr} {nm x : Str} {ps : Arguments} {b : List Stmt} {sc : Scope} {px pos : Pos} {e : Expr} {rest : List Expr} {PA : List Value → Heap → Prop} {P : Value → Heap → Prop} (X : FnAt h a nm ps b sc)
    (hf : Has pw w h env x (.ref a)) (ha : EvA pw w k env h (e :: rest) PA) (hc : FnP pw w k h (.ref a) PA P)
    (he : starEach (e :: rest) env = (false, eval e env) :: starEach rest env := by rfl)
    (hd : (x == ("__debug__" : Str)) = false := by decide) : EvP pw w k env h (.Call (.Name x px) (e :: rest) [] pos) P := by
  obtain ⟨o, fd, h1, h2⟩ := X.o
  exact ev_call_own hf h1 h2 ha hc he hd
set_option maxHeartbeats 1000000 in
theorem law_body {Q : Flow → Shared → Prop} (rm : Room (k + 6) A) (hfr : A.frames = some [env]) (efr : env.frame = some env.locals) (hs : env.scope = defScope lawD) (hg : env.globals = mainGlobals) (hbu : env.builtins = builtinsNs)
    (X : Fns w G h0) (hns : ns.length ≤ 63) (F : Fm h0 s.heap env [("script", prD (.list (ns.map .int)))])
    (h : ∀ h' tk, Ext h0 h' → Q (.ret (.bool true)) { s with heap := h', toks := tk }) : wpAny (model pw w) A (execs (defBody lawD) env) Q E s := by
  have kd : ∀ x, env.kindOf x = (defScope lawD).names.lookup x := fun x => by rw [Env.kindOf, hs]
  have pl := pal_len ns
  have W := whl ns
  have plen : (palP ns).length = (pal ns).length := by rw [palP, List.length_map]
  -- palette
  refine wp_assign (p := prD (.list ((pal ns).map colD))) rm F (call_fn (X.colours.ext F.base) (has_g (X.B.glo.ext F.base) X.gc F.kind (kd _) hg) (eva_pall (eva_cons (ev_varD F rfl) eva_nil)) ((colours_ok (X.colours.ext F.base) (X.B.glo.ext F.base) (X.point.ext F.base) (X.left.ext F.base) X.gpo X.gl ns hns).le (show 3 ≤ k + 6 by omega))) (.inl (kd _)) fun h1 t1 F1 pr1 of1 => ?_
  -- told
  refine wp_assign_comp (s := { s with heap := h1, toks := t1 }) (xs := pal ns) (sp := fun c => prD (colD c)) (q := fun _ => true) (g := fun c => prT (hsvC c)) rm F1 (PI := IsD (.list ((pal ns).map colD))) (ev_varD F1 rfl) src_listX safeTup (by simp [sizeLine]; omega) (nofree rfl) rfl (by decide) (.inl rfl)
    (fun c _ v C c0 h2 e p hv hcv => ts_none) (fun c hc v C c0 h2 _ e p hv hcv => ?_) (.inl (kd _)) ⟨_, rfl⟩ fun h2 t2 F2 pr2 of2 => ?_
  · have hin := inCol_pal hc
    have hb2 : Ext h0 h2 := F1.base.trans e
    have vc := fun p' => ev_itemI (prog := pw) (w := w) (k := k + 6) (x := "paint") (pos := p') hv p
    exact call_fn (X.rgb.ext hb2) (has_gC (X.B.glo.ext hb2) X.gr rfl rfl hg)
      (evp_pcons (p := prF (bit c 0)) (ev_div8 (ev_item (vc _) ev_int (by decide) (by decide) rfl) hin.1.1 hin.1.2) (evp_pcons (p := prF (bit c 1)) (ev_div8 (ev_item (vc _) ev_int (by decide) (by decide) rfl) hin.2.1.1 hin.2.1.2) (evp_pcons (p := prF (bit c 2)) (ev_div8 (ev_item (vc _) ev_int (by decide) (by decide) rfl) hin.2.2.1 hin.2.2.2) evp_pnil)))
      ((rgb_ok (X.rgb.ext hb2) (X.B.glo.ext hb2) (col_hz hin)).le (show 1 ≤ k + 6 by omega))
  rw [filter_true] at F2
  -- places
  refine wp_assign_comp (s := { s with heap := h2, toks := t2 }) (xs := pal ns) (sp := fun c => prT (hsvC c)) (q := fun _ => true) (g := fun c => prD (.int (plP (ptOf c)))) rm F2 (PI := LstOf ((pal ns).map fun c => prT (hsvC c))) (ev_var (p := prL ((pal ns).map fun c => prT (hsvC c))) F2 rfl) src_lst (safeX fun _ => rfl) (by simp [sizeLine]; omega) (nofree rfl) rfl (by decide) (.inl rfl)
    (fun c _ v C c0 h3 e p hv hcv => ts_none) (fun c hc v C c0 h3 _ e p hv hcv => ?_) (.inr (kd _)) ⟨_, rfl⟩ fun h3 t3 F3 pr3 of3 => ?_
  · exact shade_ok (inCol_pal hc) (fun p' => ev_name (P := TupOf (hsvC c)) hv fun h4 e4 => TupOf.st _ _ _ e4.pres p) (has_bC (X.B.glo.ext (F2.base.trans e)) (by decide) (by kernel_rfl) rfl rfl hg hbu)
  rw [filter_true] at F3
  -- points_due
  refine wp_assign_comp (s := { s with heap := h3, toks := t3 }) (xs := pal ns) (sp := fun c => prD (colD c)) (q := fun _ => true) (g := fun c => prD (ptD (ptOf c))) rm F3 (PI := IsD (.list ((pal ns).map colD))) (ev_varD F3 rfl) src_listX (safeX fun _ => rfl) (by simp [sizeLine]; omega) (nofree rfl) rfl (by decide) (.inl rfl)
    (fun c _ v C c0 h4 e p hv hcv => ts_none) (fun c hc v C c0 h4 _ e p hv hcv => ?_) (.inl (kd _)) ⟨_, rfl⟩ fun h4 t4 F4 pr4 of4 => ?_
  · have hin := inCol_pal hc
    have hb4 : Ext h0 h4 := F3.base.trans e
    exact call_fn (X.point.ext hb4) (has_gC (X.B.glo.ext hb4) X.gpo rfl rfl hg) (eva_pall (eva_cons (ev_itemI hv p) eva_nil)) ((point_ok (X.point.ext hb4) (X.B.glo.ext hb4) hin.1 hin.2.1 hin.2.2).le (show 1 ≤ k + 6 by omega))
  rw [filter_true] at F4
  -- the places agree
  have epl : (pal ns).map (fun c => prD (.int (plP (ptOf c)))) = (palP ns).map fun p => prD (.int (plP p)) := by rw [palP, List.map_map]; rfl
  have ept : (pal ns).map (fun c => prD (ptD (ptOf c))) = (palP ns).map fun p => prD (ptD p) := by rw [palP, List.map_map]; rfl
  rw [ept, epl] at F4
  have dz : plD (palP ns) = .list (((palP ns).map plP).map .int) := by unfold plD; rw [List.map_map]; rfl
  obtain ⟨eq1, dp1⟩ := eqv_intsZ ((palP ns).map plP)
  rw [← dz] at eq1 dp1
  have tst : ∀ (l r : Expr) (pos : Pos), EvD pw w (k + 6) env h4 l (plD (palP ns)) → EvD pw w (k + 6) env h4 r (plD (palP ns)) → behindInMarks .NotEq r = false → Ts pw w (k + 6) env h4 (.Compare l [.NotEq] [r] pos) false := fun l r pos hl hr hm => by
    have := ts_cmp (pos := pos) hl hr isD_mono (cmp_neD (k := k + 6) (h := h4) dp1 dp1) hm
    rw [eq1] at this; exact this
  refine wp_if (s := { s with heap := h4, toks := t4 }) (b := false) rm (tst _ _ _ (ev_varL F4 rfl) (ev_mapD (xs := palP ns) (sp := fun p => prD (ptD p)) (f := fun p => .int (plP p)) (PI := LstOf ((palP ns).map fun p => prD (ptD p))) (ev_var (p := prL ((palP ns).map fun p => prD (ptD p))) F4 rfl) src_lst (safeX fun _ => rfl) (by rw [plen]; simp [sizeLine]; omega) (nofree rfl) rfl (by decide) (.inl rfl)
      (fun q hq v C c0 h5 e p hv hcv => call_fn (X.place.ext (F4.base.trans e)) (has_gC (X.B.glo.ext (F4.base.trans e)) X.gpl rfl rfl hg) (eva_pall (eva_cons (ev_itemI hv p) eva_nil)) ((place_ok (X.place.ext (F4.base.trans e)) (X.B.glo.ext (F4.base.trans e)).lim).le (show 1 ≤ k + 6 by omega)))) (by with_unfolding_all rfl)) (fun q => by cases q) fun _ h5 t5 e5 => wp_nil ?_
  have F5 := F4.ext e5
  -- the second part: a new ground
  obtain ⟨vs, F5p, hvs⟩ := F5.pin
  have Lp : Rd h5 (vs (Str.ofString "places")) (plD (palP ns)) := prL_rd (hvs "places" (prL ((palP ns).map fun p => prD (.int (plP p)))) rfl)
  have Lq : LstOf ((palP ns).map fun p => prD (ptD p)) (vs (Str.ofString "points_due")) h5 := hvs "points_due" (prL ((palP ns).map fun p => prD (ptD p))) rfl
  have S5d : ∀ b o, keptObj o = true → h5.get? b = some o → ¬ (b = env.locals ∨ ∃ z, env.kindOf z = some .cell ∧ env.cells.lookup z = some b) := fun b o hk q z => by
    have of := F5.off_seq q hk
    rcases z with z | ⟨z, _, z2⟩
    · exact of.l z
    · exact of.c z z2
  have hn : ∀ b, (b = env.locals ∨ ∃ z, env.kindOf z = some .cell ∧ env.cells.lookup z = some b) → h0.get? b = none := fun b z => by
    rcases z with rfl | ⟨z, z1, z2⟩
    · exact F5.freshL
    · obtain ⟨c, ov, y1, _, y3, _⟩ := F5.cel z z1
      rw [z2] at y1; cases y1; exact y3
  have pr5 : Pres h5 (hideS (fun b => b = env.locals ∨ ∃ z, env.kindOf z = some .cell ∧ env.cells.lookup z = some b) h5) := fun b o hk q => by rw [(hideS_get _ _ _).1 (S5d b o hk q)]; exact q
  have hN : ∀ b, (b = env.locals ∨ ∃ z, env.kindOf z = some .cell ∧ env.cells.lookup z = some b) → (hideS (fun b => b = env.locals ∨ ∃ z, env.kindOf z = some .cell ∧ env.cells.lookup z = some b) h5).get? b = none := fun b z => (hideS_get _ _ _).2 z
  have eN : Ext (hideS (fun b => b = env.locals ∨ ∃ z, env.kindOf z = some .cell ∧ env.cells.lookup z = some b) h5) h5 := hideS_ext (Chg.refl _ _)
  have e0 : Ext h0 (hideS (fun b => b = env.locals ∨ ∃ z, env.kindOf z = some .cell ∧ env.cells.lookup z = some b) h5) := hide_base F5.base hn
  have Lp' := Lp.pres pr5
  have Lq' := LstOf.st _ _ _ pr5 Lq
  generalize (hideS (fun b => b = env.locals ∨ ∃ z, env.kindOf z = some .cell ∧ env.cells.lookup z = some b) h5) = hb at pr5 hN eN e0 Lp' Lq'
  have Fb : Fm hb h5 env (rhoB (vs (Str.ofString "places")) (vs (Str.ofString "points_due"))) := (F5p.rebase2 eN (hN _ (.inl rfl)) (fun x c z1 z2 => hN _ (.inr ⟨x, z1, z2⟩))).weaken fun x p e => by
    obtain ⟨v, hv, rfl⟩ := pinB_lookup e
    refine ⟨prV v, ?_, fun _ z => z⟩
    rw [pinL_lookup]
    rcases List.mem_cons.mp hv with q | q
    · cases q; rfl
    · rw [List.mem_singleton] at q; cases q; rfl
  have L : LC w G env hb := ⟨efr, hs, hg, hbu, X.B.ext e0, X.gT⟩
  have hbd : ∀ p ∈ palP ns, p.1.natAbs < 2 ^ 60 ∧ p.2.natAbs < 2 ^ 60 := fun p hp => by
    obtain ⟨c, hc, rfl⟩ := List.mem_map.mp hp
    have := pt_bd (inCol_pal hc)
    omega
  refine law_a (s := { s with heap := h5, toks := t5 }) (k := k) rm L W Fb Lp' fun g h6 t6 p6 => ?_
  refine law_b (s := { s with heap := h6, toks := t6 }) (k := k) rm L W p6 Lq' (X.due.ext e0) (X.left.ext e0) X.gl X.gd hbd fun hb3 v1 v2 h7 t7 e7 p7 r1 r2 => ?_
  have L3 : LC w G env hb3 := ⟨efr, hs, hg, hbu, L.B.ext e7, X.gT⟩
  refine law_c (s := { s with heap := h7, toks := t7 }) (k := k) rm hfr L3 W p7 r1 fun h8 t8 p8 => ?_
  refine law_d (s := { s with heap := h8, toks := t8 }) (k := k) rm hfr L3 W p8 fun a h9 t9 p9 => ?_
  obtain ⟨τ, Sc, sq, hN9⟩ := sched_all W a
  refine law_e (s := { s with heap := h9, toks := t9 }) (k := k) rm L3 W.n9 hN9 Sc (p9.seq sq) fun D ts h10 t10 p10 G10 hts => ?_
  exact law_f (s := { s with heap := h10, toks := t10 }) (k := k) rm L3 W.n9 Sc p10 G10 hts r1 r2 fun h11 t11 e11 => h h11 t11 (e0.trans (e7.trans e11))
end
end Mine

end

section
open PySem PySem.W PyProof.Rows PySem.SeqAt
set_option Elab.async false
set_option linter.all false
set_option autoImplicit false
namespace Mine
/-- the names of the text -/
noncomputable def GL : List (Str × Value) := [(Str.ofString "rgb_to_hsv", .ref 28), (Str.ofString "_NODE_OUT", .int (-1) 217), (Str.ofString "_NODE_DONE", .int (-2) 220), (Str.ofString "_NodeInfo", .ref 47), (Str.ofString "CycleError", .ref 62), (Str.ofString "TopologicalSorter", .ref 144),
  (Str.ofString "_law_point", .ref 155), (Str.ofString "_law_place", .ref 162), (Str.ofString "_law_left", .ref 169), (Str.ofString "_law_colours", .ref 174), (Str.ofString "_law_due", .ref 179)]
noncomputable def esM (P : Params) : Array DictEntry := match (KF P).lookup 3 with
  | some o => (match o.data with | .dict es _ => es | _ => #[])
  | none => #[]
theorem kf_3 (P : Params) : ∃ o n, (KF P).lookup 3 = some o ∧ o.data = .dict (esM P) n := ⟨_, _, rfl, rfl⟩
noncomputable def AllAt (f : Str → Option Value) : List (Str × Value) → Prop
  | [] => True
  | p :: r => f p.1 = some p.2 ∧ AllAt f r
noncomputable def NoneAt (f : Str → Option Value) : List Str → Prop
  | [] => True
  | p :: r => f p = none ∧ NoneAt f r
theorem AllAt.look {f : Str → Option Value} : ∀ {l : List (Str × Value)} {x : Str} {v : Value}, AllAt f l → l.lookup x = some v → f x = some v
  | [], x, v, _, e => by cases e
  | (y, u) :: r, x, v, a, e => by
    rw [List.lookup_cons] at e
    by_cases q : (x == y) = true
    · rw [q] at e; cases e
      have : x = y := by simpa using q
      rw [this]; exact a.1
    · simp only [q] at e; exact AllAt.look a.2 e
theorem NoneAt.look {f : Str → Option Value} : ∀ {l : List Str} {x : Str}, NoneAt f l → x ∈ l → f x = none
  | y :: r, x, a, e => by
    rcases List.mem_cons.mp e with rfl | e
    · exact a.1
    · exact NoneAt.look a.2 e
theorem gl_at (P : Params) : AllAt (nsFind (esM P)) GL := ⟨by kernel_rfl, by kernel_rfl, by kernel_rfl, by kernel_rfl, by kernel_rfl, by kernel_rfl, by kernel_rfl, by kernel_rfl, by kernel_rfl, by kernel_rfl, by kernel_rfl, trivial⟩
theorem bn_at (P : Params) : NoneAt (nsFind (esM P)) bnames := ⟨by kernel_rfl, by kernel_rfl, by kernel_rfl, by kernel_rfl, by kernel_rfl, by kernel_rfl, by kernel_rfl, by kernel_rfl, by kernel_rfl, by kernel_rfl, by kernel_rfl, by kernel_rfl, trivial⟩
theorem fn_at {P : Params} {h : Heap} (X : (KF P).In h) {a : Addr} {nm : Str} {D : List Stmt} {pm cd : Value} (hl : (KF P).lookup a = some (fnO nm nm D .none pm cd)) (hc : h.CodeRec cd nm) : FnAt h a nm (defParams D) (defBody D) (defScope D) :=
  ⟨_, _, X a _ hl, rfl, rfl, rfl, rfl, rfl, rfl, rfl, rfl, hc, rfl, rfl⟩
theorem fns_of {w : World} {h : Heap} {mg mb : Str → Option Value} (X : (KF w.params).In h) (g : h.Ns mainGlobals mg) (b : h.Ns builtinsNs mb) (nl : h.NoLimit) (hb : ∀ x : Str, x ≠ "__name__" → mb x = bootBuiltins x) : Fns w GL h := by
  obtain ⟨o, n, e1, e2⟩ := kf_3 w.params
  have e3 := X 3 o e1
  have mge : ∀ x, nsFind (esM w.params) x = mg x := by
    obtain ⟨o', es, ep, y1, y2, _, y4⟩ := g
    have y1' : h.get? 3 = some o' := y1
    rw [e3] at y1'; cases y1'
    rw [e2] at y2; cases y2
    exact y4
  have G : Glo GL h := ⟨⟨mg, mb, g, b, fun x v e => by rw [← mge]; exact (gl_at _).look e, fun x hx => ⟨by rw [← mge]; exact (bn_at _).look hx, hb x fun q => by subst q; revert hx; decide⟩⟩, nl⟩
  refine ⟨⟨X, G, by kernel_rfl, ⟨217, by kernel_rfl⟩, ⟨220, by kernel_rfl⟩, by kernel_rfl⟩, fn_at (pm := .str "law_mj0219_01" 396) (cd := .ref 154) X (by kernel_rfl) ⟨154, _, _, 399, rfl, X 154 _ rfl, rfl, rfl⟩, fn_at (pm := .str "law_mj0219_01" 396) (cd := .ref 161) X (by kernel_rfl) ⟨161, _, _, 407, rfl, X 161 _ rfl, rfl, rfl⟩, fn_at (pm := .str "law_mj0219_01" 396) (cd := .ref 168) X (by kernel_rfl) ⟨168, _, _, 414, rfl, X 168 _ rfl, rfl, rfl⟩,
    fn_at (pm := .str "law_mj0219_01" 396) (cd := .ref 173) X (by kernel_rfl) ⟨173, _, _, 422, rfl, X 173 _ rfl, rfl, rfl⟩, fn_at (pm := .str "law_mj0219_01" 396) (cd := .ref 178) X (by kernel_rfl) ⟨178, _, _, 428, rfl, X 178 _ rfl, rfl, rfl⟩, fn_at (pm := .str "cpy313.colorsys" 194) (cd := .ref 27) X (by kernel_rfl) ⟨27, _, _, 197, rfl, X 27 _ rfl, rfl, rfl⟩, by kernel_rfl, by kernel_rfl, by kernel_rfl, by kernel_rfl, by kernel_rfl, by kernel_rfl, by kernel_rfl⟩
/-- the argument -/
theorem args_of {args : List WData} (h : PySem.Challenge.rw_mj0219_01.row.toRowW.claim.pre args = true) : ∃ ns : List Int, args = [.list (ns.map .int)] ∧ ns.length ≤ 63 := by
  obtain ⟨a, b⟩ := Bool.and_eq_true_iff.mp h
  have a' : WShape.hasAll [] args [.list .int] = true := a
  match args, a', b with
  | [], a', _ => cases a'
  | x :: y :: _, a', _ =>
    have q : (WShape.has [] x (.list .int) && false) = true := a'
    rw [Bool.and_false] at q; cases q
  | [d], a', b =>
    have hd : (WShape.has [] d (.list .int) && true) = true := a'
    rw [Bool.and_true] at hd
    obtain ⟨xs, rfl, hx⟩ := hasW_list hd
    obtain ⟨ns, rfl⟩ := items_int hx
    refine ⟨ns, rfl, ?_⟩
    have b' : (WTm.and (.not (.lt (.lit (.int 63)) (.len (.arg 0)))) (.lit (.bool true))).holds [] { args := [.list (ns.map .int)] } = true := b
    have v := condW_of b' (w_and (w_not (w_lt w_lit (w_len_list (w_arg rfl)))) w_lit)
    rw [List.length_map] at v
    simp at v
    omega
theorem rdAll_of {R : WRecords} {cl : Str → Option Addr} {h : Heap} : ∀ {ns : List Int} {vs : List Value} {as : List Addr}, ReadsAllW R cl h vs (ns.map .int) as → RdAll h vs (ns.map .int)
  | [], vs, as, x => by cases x; exact ⟨⟨_, .nil⟩, rfl⟩
  | n :: ns, vs, as, x => by
    cases x with
    | cons a b =>
      obtain ⟨⟨_, r⟩, c⟩ := rdAll_of b
      cases a
      exact ⟨⟨_, .cons (.int _ _) r⟩, by simpa [PyData.canLayAll0, PyData.canLay0] using c⟩
theorem rd_of {R : WRecords} {cl : Str → Option Addr} {h : Heap} {ns : List Int} {vs : List Value} {as : List Addr} (x : ReadsAllW R cl h vs [.list (ns.map .int)] as) : ∃ v, vs = [v] ∧ Rd h v (.list (ns.map .int)) := by
  cases x with
  | cons a b =>
    cases b
    cases a with
    | list h1 h2 h3 h4 =>
      obtain ⟨⟨_, r⟩, c⟩ := rdAll_of h4
      exact ⟨_, rfl, ⟨_, .list h1 h2 h3 r⟩, by simpa [PyData.canLay0] using c⟩
theorem law_walk {q : Program} {loose : List Str} {XP : (Str → Option Value) → Heap → Prop} {d : DefRec} (h1 : d.params = defParams lawD) (h2 : d.body = defBody lawD) (h3 : d.scope = defScope lawD) :
    WalkO q loose XP (InK KF) PySem.Challenge.rw_mj0219_01.row.toRowW d [] fun f vs => call f vs := by
  intro w s0 s1 mg mb G Y a o pm cd doc dV kV ho hd hcd hD hmg hgen args vals as hpre hlay hrd hwl hlo
  obtain ⟨ns, rfl, hns⟩ := args_of hpre
  obtain ⟨v, rfl, hv⟩ := rd_of hrd
  have X : Fns w GL s1.heap := fns_of Y G.T.g G.T.b G.T.nolimit G.T.builtins
  obtain ⟨nm, ps, body, sc, pos⟩ := d
  dsimp only at h1 h2 h3
  subst h1 h2 h3
  have e1 : dV = .none := by
    rcases hD.pos with q | q
    · exact q.2
    · exact absurd rfl q.1
  have e2 : kV = .none := by
    rcases hD.kw with q | q
    · exact q.2
    · exact absurd rfl q.1
  subst e1 e2
  have rm : Room 7 callerA := ⟨rfl, by decide, by decide⟩
  have cs : ∀ y, (defScope lawD).names.lookup y = some .cell → ∀ n, ((cellsFrom n (defScope lawD).names []).lookup y).isSome = true := fun y hy n => cells_isSome (defScope lawD).names n [] (.inl hy)
  show wpAny (model pw w) callerA (call (.ref a) [v]) _ _ s1
  refine wpAny_call (codeAny_call_cells (binds := [(Str.ofString "script", v)]) (body := defBody lawD) rm.lim ho hd G.T.nolimit hcd rfl (by rfl) rfl (fun b hb => ?_) (fun s2 x => ?_) rfl rfl rfl)
  · rw [List.mem_singleton] at hb; subst hb; exact .inl rfl
  · have F := fm_entry (ρ := [(Str.ofString "script", prD (.list (ns.map .int)))]) x rfl (by simp) (fun y hy => cs y hy 0) (fun y p hy => by
      rw [lk_cons] at hy
      by_cases q : y = Str.ofString "script"
      · rw [if_pos q] at hy; cases hy; subst q; exact ⟨.inl rfl, v, by simp, hv⟩
      · rw [if_neg q] at hy; cases hy)
    obtain ⟨hs, tk, rfl⟩ := x.toInCall.same
    refine law_body (k := 0) (h0 := s1.heap) (rm.deeper _) rfl rfl rfl rfl rfl X hns F fun h' tk' e => ?_
    exact GoodW.toG ⟨.inl ⟨.bool true, .bool true, [], rfl, fun cls => rfl, .bool true, by kernel_rfl, fun _ => ⟨List.nodup_nil, fun a ha => by cases ha⟩⟩, e, rfl, hgen⟩
end Mine

end

open PySem PySem.W PyProof.Rows
set_option maxRecDepth 100000 in
set_option maxHeartbeats 8000000 in
theorem PySem.Challenge.cw_mj0219_01_holds : PySem.Challenge.rw_mj0219_01.Holds := by
  w_on; o_law; o_head (kHook Mine.KF Mine.KAs (fun _ => by kernel_rfl)); (case hw => w_witness2)
  exact Mine.law_walk rfl rfl rfl
