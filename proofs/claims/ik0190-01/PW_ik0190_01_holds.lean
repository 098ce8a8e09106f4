import PyProof.Rows.All
import Wide.All
import OpenK.AllK
import Wide.FinOn
import Lean
import PySem.Challenge.RW_ik0190_01
set_option Elab.async false
set_option linter.all false
set_option maxRecDepth 100000
set_option genSizeOf false
set_option genInjectivity false
section
open PySem PySem.Calls PyProof.Rows
namespace Mine

/-! data, what bears it in a heap -/
inductive Dt where
  | none
  | bool (b : Bool)
  | int (i : Int)
  | str (x : Str)
  | bytes (b : Array UInt8)
  | list (l : List Dt)
  | tup (l : List Dt)
  | typ (n : String)
  | dict (prog : Program) (w : World) (kvs : List (Str × Int))

/-- the tables of codes made -/
noncomputable abbrev tabO (ps : Array Value) : Obj := { cls := .none, data := .fields ps }
/-- kept; a frame may have its slots changed, a table of codes may have more -/
noncomputable def Kept1 (o : Obj) (x : Option Obj) : Prop := x = some o ∨ (o.cls = .type "frame" ∧ ∃ sl, x = some { o with slots := sl }) ∨ (∃ ps ps', o = tabO ps ∧ TriplesOk ps.toList ∧ x = some (tabO ps'))
noncomputable def Kp (h h' : Heap) : Prop := ∀ b o, h.get? b = some o → Kept1 o (h'.get? b)
noncomputable def KpBut (V : Addr → Prop) (h h' : Heap) : Prop := ∀ b o, ¬ V b → h.get? b = some o → Kept1 o (h'.get? b)
theorem Kept1.some {o : Obj} {x : Option Obj} (k : Kept1 o x) : ∃ o', x = some o' ∧ o'.cls = o.cls ∧ (o'.data = o.data ∨ ∃ ps, o = tabO ps) := by
  rcases k with e | ⟨c, sl, e⟩ | ⟨ps, ps', rfl, hT, e⟩
  · exact ⟨o, e, rfl, .inl rfl⟩
  · exact ⟨_, e, rfl, .inl rfl⟩
  · exact ⟨_, e, rfl, .inr ⟨ps, rfl⟩⟩
theorem Kept1.next {o : Obj} {x y : Option Obj} (k : Kept1 o x) (h : ∀ p, x = Option.some p → Kept1 p y) : Kept1 o y := by
  rcases k with e | ⟨c, sl, e⟩ | ⟨ps, ps', rfl, hT, e⟩
  · exact h o e
  · rcases h _ e with e' | ⟨_, sl', e'⟩ | ⟨ps, ps', eq, _, e'⟩
    · exact .inr (.inl ⟨c, sl, e'⟩)
    · exact .inr (.inl ⟨c, sl', e'⟩)
    · have := congrArg Obj.cls eq; rw [show ({ o with slots := sl } : Obj).cls = o.cls from rfl, c] at this; cases this
  · rcases h _ e with e' | ⟨c, sl', e'⟩ | ⟨ps2, ps3, eq, _, e'⟩
    · exact .inr (.inr ⟨ps, _, rfl, hT, e'⟩)
    · cases c
    · exact .inr (.inr ⟨ps, ps3, rfl, hT, e'⟩)
theorem Kp.refl (h : Heap) : Kp h h := fun _ _ e => .inl e
theorem Kp.trans {h₁ h₂ h₃ : Heap} (x : Kp h₁ h₂) (y : Kp h₂ h₃) : Kp h₁ h₃ := fun b o e => (x b o e).next fun p e' => y b p e'
theorem Kp.of_keep {h h' : Heap} (x : ∀ b o, h.get? b = some o → h'.get? b = some o) : Kp h h' := fun b o e => .inl (x b o e)
theorem Kp.push (h : Heap) (o : Obj) : Kp h (h.push o) := .of_keep fun _ _ e => Heap.get?_push_of_some _ e
theorem KpBut.refl (V : Addr → Prop) (h : Heap) : KpBut V h h := fun _ _ _ e => .inl e
theorem KpBut.trans {V : Addr → Prop} {h₁ h₂ h₃ : Heap} (x : KpBut V h₁ h₂) (y : KpBut V h₂ h₃) : KpBut V h₁ h₃ := fun b o hb e => (x b o hb e).next fun p e' => y b p hb e'
theorem Kp.but {V : Addr → Prop} {h h' : Heap} (x : Kp h h') : KpBut V h h' := fun b o _ e => x b o e
theorem KpBut.mono {V W : Addr → Prop} {h h' : Heap} (x : KpBut V h h') (s : ∀ b, V b → W b) : KpBut W h h' := fun b o hb e => x b o (fun q => hb (s b q)) e
theorem Kp.live {h h' : Heap} (x : Kp h h') {a : Addr} {o : Obj} (e : h.get? a = some o) : ∃ o', h'.get? a = some o' := let ⟨o', e', _⟩ := (x a o e).some; ⟨o', e'⟩
theorem Kp.none {h h' : Heap} (x : Kp h h') {a : Addr} (e : h'.get? a = none) : h.get? a = none := by
  cases q : h.get? a with
  | none => rfl
  | some o => obtain ⟨_, e'⟩ := x.live q; rw [e] at e'; cases e'
/-- what is no frame and no table of codes -/
noncomputable def Plain (o : Obj) : Prop := o.cls ≠ .type "frame" ∧ o.cls ≠ .none
/-- an object that is no frame stands as it stood -/
theorem Kept1.same {o : Obj} {x : Option Obj} (k : Kept1 o x) (hc : Plain o) : x = Option.some o := k.elim id fun q => q.elim (fun q => absurd q.1 hc.1) fun ⟨_, _, q, _⟩ => absurd (congrArg Obj.cls q) hc.2
theorem Kp.same {h h' : Heap} (x : Kp h h') {a : Addr} {o : Obj} (e : h.get? a = some o) (hc : Plain o) : h'.get? a = some o := (x a o e).same hc
theorem KpBut.same {V : Addr → Prop} {h h' : Heap} (x : KpBut V h h') {a : Addr} {o : Obj} (ha : ¬ V a) (e : h.get? a = some o) (hc : Plain o) : h'.get? a = some o := (x a o ha e).same hc
theorem KpBut.live {V : Addr → Prop} {h h' : Heap} (x : KpBut V h h') {a : Addr} {o : Obj} (ha : ¬ V a) (e : h.get? a = some o) : ∃ o', h'.get? a = some o' := let ⟨o', e', _⟩ := (x a o ha e).some; ⟨o', e'⟩

/-- the list object, the tuple object -/
noncomputable abbrev LO (vs : List Value) (n : Nat) : Obj := { cls := .type "list", data := .seq vs.toArray n }
noncomputable abbrev TO (vs : List Value) (n : Nat) : Obj := { cls := .type "tuple", data := .seq vs.toArray n }
noncomputable def LAt (h : Heap) (a : Addr) (vs : List Value) : Prop := ∃ n, h.get? a = some (LO vs n)
noncomputable def TAt (h : Heap) (a : Addr) (vs : List Value) : Prop := ∃ n, h.get? a = some (TO vs n)
theorem LAt.isList {h : Heap} {a : Addr} {vs : List Value} (x : LAt h a vs) : h.IsList a vs.toArray := let ⟨n, e⟩ := x; ⟨_, e, rfl, n, rfl⟩
theorem TAt.isTup {h : Heap} {a : Addr} {vs : List Value} (x : TAt h a vs) : IsTup h a vs.toArray := let ⟨n, e⟩ := x; ⟨_, e, rfl, n, rfl⟩
theorem ty_ne {a b : String} (h : (a == b) = false) : Value.type a ≠ Value.type b := fun e => by injection e with e; subst e; simp at h
theorem plain_ty {o : Obj} {T : String} (hc : o.cls = .type T) (h : (T == "frame") = false := by decide) : Plain o := ⟨by rw [hc]; exact ty_ne h, by rw [hc]; intro q; cases q⟩
theorem LAt.kp {h h' : Heap} {a : Addr} {vs : List Value} (x : LAt h a vs) (k : Kp h h') : LAt h' a vs := let ⟨n, e⟩ := x; ⟨n, k.same e (plain_ty rfl)⟩
theorem TAt.kp {h h' : Heap} {a : Addr} {vs : List Value} (x : TAt h a vs) (k : Kp h h') : TAt h' a vs := let ⟨n, e⟩ := x; ⟨n, k.same e (plain_ty rfl)⟩
theorem dict_kp {h h' : Heap} {prog : Program} {w : World} {a : Addr} {kvs : List (Str × Value)} (x : h.DictOf (strKind prog w) a kvs) (k : Kp h h') : h'.DictOf (strKind prog w) a kvs := let ⟨o, es, ep, e, q, r⟩ := x; ⟨o, es, ep, k.same e (plain_ty q.1), q, r⟩
theorem ns_kp {h h' : Heap} {a : Addr} {m : Str → Option Value} (x : h.Ns a m) (k : Kp h h') : h'.Ns a m := by
  obtain ⟨o, es, ep, ho, hd, r⟩ := x
  obtain ⟨o', e, _, q⟩ := (k a o ho).some
  exact ⟨o', es, ep, e, (q.elim id fun ⟨ps, q⟩ => by subst q; cases hd).trans hd, r⟩
theorem ns1_kp {h h' : Heap} {a : Addr} {m : Str → Option Value} (x : h.Ns1 a m) (k : Kp h h') : h'.Ns1 a m := by
  obtain ⟨o, es, ep, ho, hd, r⟩ := x
  obtain ⟨o', e, _, q⟩ := (k a o ho).some
  exact ⟨o', es, ep, e, (q.elim id fun ⟨ps, q⟩ => by subst q; cases hd).trans hd, r⟩
theorem isCell_kp {h h' : Heap} {a : Addr} {v : Option Value} (x : h.IsCell a v) (k : Kp h h') : h'.IsCell a v := by
  obtain ⟨o, ho, hd⟩ := x
  obtain ⟨o', e, _, q⟩ := (k a o ho).some
  exact ⟨o', e, (q.elim id fun ⟨ps, q⟩ => by subst q; cases hd).trans hd⟩

noncomputable def KV : List (Str × Value) → List (Str × Int) → Prop
  | (k, v) :: r, (k', n) :: r' => k = k' ∧ (∃ t, v = .int n t) ∧ KV r r'
  | [], [] => True
  | _, _ => False
mutual
/-- the value bears the datum in the heap, on no road through an address of X -/
inductive Rp (X : List Addr) (h : Heap) : Value → Dt → Prop
  | none : Rp X h .none .none
  | bool (b : Bool) : Rp X h (.bool b) (.bool b)
  | int (i : Int) (t : Tok) : Rp X h (.int i t) (.int i)
  | str (x : Str) (t : Tok) : Rp X h (.str x t) (.str x)
  | bytes (b : Array UInt8) (t : Tok) : Rp X h (.bytes b t) (.bytes b)
  | typ (n : String) : Rp X h (.type n) (.typ n)
  | list {a : Addr} {vs : List Value} {ds : List Dt} : a ∉ X → LAt h a vs → RpL X h vs ds → Rp X h (.ref a) (.list ds)
  | tup {a : Addr} {vs : List Value} {ds : List Dt} : TAt h a vs → RpL X h vs ds → Rp X h (.ref a) (.tup ds)
  | dict {a : Addr} {prog : Program} {w : World} {kvs : List (Str × Value)} {ds : List (Str × Int)} : a ∉ X → a ≠ sysModules → h.DictOf (strKind prog w) a kvs → KV kvs ds → Rp X h (.ref a) (.dict prog w ds)
inductive RpL (X : List Addr) (h : Heap) : List Value → List Dt → Prop
  | nil : RpL X h [] []
  | cons {v : Value} {vs : List Value} {d : Dt} {ds : List Dt} : Rp X h v d → RpL X h vs ds → RpL X h (v :: vs) (d :: ds)
end

/-- an object that bears a datum (one of X bears none but a tuple) -/
noncomputable def Bears (X : List Addr) (a : Addr) (o : Obj) : Prop := (∃ xs n, o.data = .seq xs n ∧ (o.cls = .type "tuple" ∨ (a ∉ X ∧ o.cls = .type "list"))) ∨ (a ∉ X ∧ o.cls = .type "dict" ∧ ∃ es ep, o.data = .dict es ep)
theorem Bears.plain {X : List Addr} {a : Addr} {o : Obj} : Bears X a o → Plain o
  | .inl ⟨_, _, _, .inl q⟩ => plain_ty q
  | .inl ⟨_, _, _, .inr q⟩ => plain_ty q.2
  | .inr q => plain_ty q.2.1
noncomputable def Same (X : List Addr) (h h' : Heap) : Prop := ∀ a o, h.get? a = some o → Bears X a o → h'.get? a = some o
theorem Same.of_kp {X : List Addr} {h h' : Heap} (k : Kp h h') : Same X h h' := fun _ _ e q => k.same e q.plain
theorem Same.l {X : List Addr} {h h' : Heap} (k : Same X h h') {a : Addr} {vs : List Value} (ha : a ∉ X) (x : LAt h a vs) : LAt h' a vs := let ⟨n, e⟩ := x; ⟨n, k _ _ e (.inl ⟨_, n, rfl, .inr ⟨ha, rfl⟩⟩)⟩
theorem Same.t {X : List Addr} {h h' : Heap} (k : Same X h h') {a : Addr} {vs : List Value} (x : TAt h a vs) : TAt h' a vs := let ⟨n, e⟩ := x; ⟨n, k _ _ e (.inl ⟨_, n, rfl, .inl rfl⟩)⟩
theorem Same.d {X : List Addr} {h h' : Heap} (k : Same X h h') {prog : Program} {w : World} {a : Addr} {kvs : List (Str × Value)} (ha : a ∉ X) (x : h.DictOf (strKind prog w) a kvs) : h'.DictOf (strKind prog w) a kvs := let ⟨o, es, ep, e, q, hd, r⟩ := x; ⟨o, es, ep, k _ _ e (.inr ⟨ha, q.1, es, ep, hd⟩), q, hd, r⟩
mutual
theorem Rp.same {X Y : List Addr} {h h' : Heap} (k : Same X h h') (hs : ∀ a, a ∈ Y → a ∈ X) : ∀ {v : Value} {d : Dt}, Rp X h v d → Rp Y h' v d
  | _, _, .none => .none
  | _, _, .bool b => .bool b
  | _, _, .int i t => .int i t
  | _, _, .str x t => .str x t
  | _, _, .bytes b t => .bytes b t
  | _, _, .typ n => .typ n
  | _, _, .list ha hl r => .list (fun q => ha (hs _ q)) (k.l ha hl) (RpL.same k hs r)
  | _, _, .tup hl r => .tup (k.t hl) (RpL.same k hs r)
  | _, _, .dict ha hm hl r => .dict (fun q => ha (hs _ q)) hm (k.d ha hl) r
theorem RpL.same {X Y : List Addr} {h h' : Heap} (k : Same X h h') (hs : ∀ a, a ∈ Y → a ∈ X) : ∀ {vs : List Value} {ds : List Dt}, RpL X h vs ds → RpL Y h' vs ds
  | _, _, .nil => .nil
  | _, _, .cons x r => .cons (Rp.same k hs x) (RpL.same k hs r)
end
theorem Rp.kp {X : List Addr} {h h' : Heap} {v : Value} {d : Dt} (x : Rp X h v d) (k : Kp h h') : Rp X h' v d := x.same (.of_kp k) fun _ q => q
theorem RpL.kp {X : List Addr} {h h' : Heap} {vs : List Value} {ds : List Dt} (x : RpL X h vs ds) (k : Kp h h') : RpL X h' vs ds := x.same (.of_kp k) fun _ q => q

mutual
/-- more addresses shut out: those that are not in the heap yet -/
theorem Rp.more {X Y : List Addr} {h : Heap} (hy : ∀ a, a ∈ Y → a ∈ X ∨ h.get? a = Option.none) : ∀ {v : Value} {d : Dt}, Rp X h v d → Rp Y h v d
  | _, _, .none => .none
  | _, _, .bool b => .bool b
  | _, _, .int i t => .int i t
  | _, _, .str x t => .str x t
  | _, _, .bytes b t => .bytes b t
  | _, _, .typ n => .typ n
  | _, _, .list ha hl r => .list (fun q => (hy _ q).elim ha fun e => by obtain ⟨_, ho⟩ := hl; rw [e] at ho; cases ho) hl (RpL.more hy r)
  | _, _, .tup hl r => .tup hl (RpL.more hy r)
  | _, _, .dict ha hm hl r => .dict (fun q => (hy _ q).elim ha fun e => by obtain ⟨_, _, _, ho, _⟩ := hl; rw [e] at ho; cases ho) hm hl r
theorem RpL.more {X Y : List Addr} {h : Heap} (hy : ∀ a, a ∈ Y → a ∈ X ∨ h.get? a = Option.none) : ∀ {vs : List Value} {ds : List Dt}, RpL X h vs ds → RpL Y h vs ds
  | _, _, .nil => .nil
  | _, _, .cons x r => .cons (Rp.more hy x) (RpL.more hy r)
end
theorem Rp.int' {X : List Addr} {h : Heap} {v : Value} {i : Int} (r : Rp X h v (.int i)) : ∃ t, v = .int i t := by cases r; exact ⟨_, rfl⟩
theorem Rp.str' {X : List Addr} {h : Heap} {v : Value} {x : Str} (r : Rp X h v (.str x)) : ∃ t, v = .str x t := by cases r; exact ⟨_, rfl⟩
theorem Rp.bool' {X : List Addr} {h : Heap} {v : Value} {b : Bool} (r : Rp X h v (.bool b)) : v = .bool b := by cases r; rfl
theorem Rp.bytes' {X : List Addr} {h : Heap} {v : Value} {b : Array UInt8} (r : Rp X h v (.bytes b)) : ∃ t, v = .bytes b t := by cases r; exact ⟨_, rfl⟩
theorem Rp.typ' {X : List Addr} {h : Heap} {v : Value} {n : String} (r : Rp X h v (.typ n)) : v = .type n := by cases r; rfl
theorem Rp.list' {X : List Addr} {h : Heap} {v : Value} {ds : List Dt} (r : Rp X h v (.list ds)) : ∃ a vs, v = .ref a ∧ a ∉ X ∧ LAt h a vs ∧ RpL X h vs ds := by cases r with | list a b c => exact ⟨_, _, rfl, a, b, c⟩
theorem Rp.tup' {X : List Addr} {h : Heap} {v : Value} {ds : List Dt} (r : Rp X h v (.tup ds)) : ∃ a vs, v = .ref a ∧ TAt h a vs ∧ RpL X h vs ds := by cases r with | tup b c => exact ⟨_, _, rfl, b, c⟩
theorem RpL.length {X : List Addr} {h : Heap} : ∀ {vs : List Value} {ds : List Dt}, RpL X h vs ds → vs.length = ds.length
  | _, _, .nil => rfl
  | _, _, .cons _ r => congrArg (· + 1) r.length
theorem RpL.append {X : List Addr} {h : Heap} {ws : List Value} {es : List Dt} : ∀ {vs : List Value} {ds : List Dt}, RpL X h vs ds → RpL X h ws es → RpL X h (vs ++ ws) (ds ++ es)
  | _, _, .nil, k => k
  | _, _, .cons x r, k => .cons x (RpL.append r k)
theorem RpL.get {X : List Addr} {h : Heap} : ∀ {vs : List Value} {ds : List Dt}, RpL X h vs ds → ∀ {k : Nat} {d : Dt}, ds[k]? = some d → ∃ v, vs[k]? = some v ∧ Rp X h v d
  | _, _, .nil, _, _, e => by simp at e
  | _, _, .cons x r, 0, d, e => by simp at e; subst e; exact ⟨_, rfl, x⟩
  | _, _, .cons x r, k + 1, d, e => by simp at e; obtain ⟨v, h1, h2⟩ := r.get e; exact ⟨v, by simpa using h1, h2⟩
theorem RpL.drop {X : List Addr} {h : Heap} : ∀ (n : Nat) {vs : List Value} {ds : List Dt}, RpL X h vs ds → RpL X h (vs.drop n) (ds.drop n)
  | 0, _, _, r => r
  | _ + 1, _, _, .nil => by simpa using RpL.nil
  | n + 1, _, _, .cons _ r => by simpa using r.drop n
theorem RpL.take {X : List Addr} {h : Heap} : ∀ (n : Nat) {vs : List Value} {ds : List Dt}, RpL X h vs ds → RpL X h (vs.take n) (ds.take n)
  | 0, _, _, _ => by simpa using RpL.nil
  | _ + 1, _, _, .nil => by simpa using RpL.nil
  | n + 1, _, _, .cons x r => by simpa using RpL.cons x (r.take n)

theorem RpL.inv {X : List Addr} {h : Heap} {vs : List Value} {d : Dt} {ds : List Dt} (x : RpL X h vs (d :: ds)) : ∃ v r, vs = v :: r ∧ Rp X h v d ∧ RpL X h r ds := by cases x with | cons a b => exact ⟨_, _, rfl, a, b⟩
theorem RpL.inv0 {X : List Addr} {h : Heap} {vs : List Value} (x : RpL X h vs []) : vs = [] := by cases x; rfl
theorem RpL.one {X : List Addr} {h : Heap} {vs : List Value} {d : Dt} (x : RpL X h vs [d]) : ∃ v, vs = [v] ∧ Rp X h v d := by
  obtain ⟨v, r, rfl, a, b⟩ := x.inv
  exact ⟨v, by rw [b.inv0], a⟩
theorem RpL.two {X : List Addr} {h : Heap} {vs : List Value} {d e : Dt} (x : RpL X h vs [d, e]) : ∃ v u, vs = [v, u] ∧ Rp X h v d ∧ Rp X h u e := by
  obtain ⟨v, r, rfl, a, b⟩ := x.inv
  obtain ⟨u, rfl, c⟩ := b.one
  exact ⟨v, u, rfl, a, c⟩
/-! the run's constants; a frame -/
structure GC where
  prog : Program
  w : World
  B : Heap
  tab : Addr
  tpos : Pos
  tqual : Str

/-- the one table of codes that the run writes -/
noncomputable def TabOK (G : GC) (h : Heap) : Prop := ∃ ps, h.get? G.tab = some (tabO ps) ∧ TriplesOk ps.toList ∧ (codeAmong G.tpos ps.toList = none ∨ ∃ c, codeAmong G.tpos ps.toList = some c ∧ h.CodeRec c G.tqual)
/-- what every heap of the run has -/
structure In (G : GC) (h : Heap) : Prop where
  stays : G.B.StaysIn h
  tab : TabOK G h
theorem In.keep {G : GC} {h h' : Heap} (x : In G h) (k : ∀ b o, h.get? b = some o → h'.get? b = some o) : In G h' :=
  ⟨fun b o e => k b o (x.stays b o e), let ⟨ps, a, b, c⟩ := x.tab; ⟨ps, k _ _ a, b, c.imp id fun ⟨q, e, r⟩ => ⟨q, e, r.keeps k⟩⟩⟩

structure Grow (G : GC) (h h' : Heap) : Prop where
  kp : Kp h h'
  stays : In G h'
theorem Grow.trans {G : GC} {h₁ h₂ h₃ : Heap} (x : Grow G h₁ h₂) (y : Grow G h₂ h₃) : Grow G h₁ h₃ := ⟨x.kp.trans y.kp, y.stays⟩
theorem Grow.refl {G : GC} {h : Heap} (x : In G h) : Grow G h h := ⟨.refl h, x⟩
theorem Grow.of_keep {G : GC} {h h' : Heap} (x : In G h) (k : ∀ b o, h.get? b = some o → h'.get? b = some o) : Grow G h h' := ⟨.of_keep k, x.keep k⟩
theorem Grow.push {G : GC} {h : Heap} (x : In G h) (o : Obj) : Grow G h (h.push o) := .of_keep x fun b o' e => Heap.get?_push_of_some _ e

/-- the tree gives the datum, and nothing that stood is changed -/
noncomputable def Gives (G : GC) (A : Around) (X : List Addr) (s : Shared) (t : Sem Value) (d : Dt) : Prop :=
  ∀ (Q : Value → Shared → Prop) (E : Value → Shared → Prop), (∀ v h' tk', Grow G s.heap h' → Rp X h' v d → Q v { s with heap := h', toks := tk' }) → wpAny (model G.prog G.w) A t Q E s
/-- the tree gives the Bool -/
noncomputable def GivesB (G : GC) (A : Around) (s : Shared) (t : Sem Bool) (b : Bool) : Prop :=
  ∀ (Q : Bool → Shared → Prop) (E : Value → Shared → Prop), (∀ h' tk', Grow G s.heap h' → Q b { s with heap := h', toks := tk' }) → wpAny (model G.prog G.w) A t Q E s

structure FC where mk' ::
  G : GC
  A : Around
  env : Env
  names : List Str
  own : Nat
  gls : List (Str × Value)
  sc : Scope
  h0 : Heap
  P : List Addr
  X0 : List Addr
  hd : Bool := false
noncomputable abbrev FC.mk (G : GC) (A : Around) (env : Env) (names : List Str) (own : Nat) (gls : List (Str × Value)) (sc : Scope) (h0 : Heap) (P X0 : List Addr) : FC := FC.mk' G A env names own gls sc h0 P X0 false

/-- iterators, slices, exceptions and the like -/
noncomputable def Neut (o : Obj) : Prop := ∃ T vs, o.cls = .type T ∧ ["frame", "tuple", "list", "dict"].contains T = false ∧ o.data = .fields vs ∧ ∀ q t, vs[1]? ≠ some (.str q t)
/-- an object of the frame's own, or one handed to it to change -/
inductive Ob where
  | list (ds : List Dt)
  | dict (prog : Program) (w : World) (kvs : List (Str × Int))
  | abs (sup : List Addr) (P : Heap → Prop)
noncomputable def Ob.sup : Ob → List Addr
  | .abs l _ => l
  | _ => []
theorem Kept1.notNeut {o : Obj} {x : Option Obj} (k : Kept1 o x) (hn : ¬ Neut o) : ∃ o', x = Option.some o' ∧ ¬ Neut o' := by
  rcases k with e | ⟨c, sl, e⟩ | ⟨ps, ps', rfl, hT, e⟩
  · exact ⟨o, e, hn⟩
  · exact ⟨_, e, fun ⟨T, vs, h1, h2, h3⟩ => hn ⟨T, vs, h1, h2, h3⟩⟩
  · exact ⟨_, e, fun ⟨T, vs, h1, _⟩ => by cases h1⟩
noncomputable def ObAt (X : List Addr) (h : Heap) (v : Value) (a : Addr) : Ob → Prop
  | .list ds => v = .ref a ∧ ∃ vs, LAt h a vs ∧ RpL X h vs ds
  | .dict prog w ds => v = .ref a ∧ a ≠ sysModules ∧ ∃ kvs, h.DictOf (strKind prog w) a kvs ∧ KV kvs ds
  | .abs l P => P h ∧ (∃ ob es ep, h.get? a = some ob ∧ ob.data = .dict es ep ∧ Plain ob ∧ ob.cls ≠ .type "tuple") ∧ (∀ b ∈ l, ∃ o, h.get? b = some o ∧ ¬ Neut o) ∧ ∀ h h' : Heap, P h → (∀ b ∈ a :: l, ∀ o, h.get? b = some o → Kept1 o (h'.get? b)) → P h'
theorem ObAt.frame {X Y : List Addr} {h h' : Heap} {v : Value} {a : Addr} (sm : Same X h h') (hs : ∀ a, a ∈ Y → a ∈ X) : ∀ {o : Ob}, ObAt X h v a o → (∀ b ∈ a :: o.sup, h'.get? b = h.get? b) → ObAt Y h' v a o
  | .list _, ⟨e, vs, ⟨n, x⟩, r⟩, k => ⟨e, vs, ⟨n, (k a List.mem_cons_self).trans x⟩, r.same sm hs⟩
  | .dict _ _ _, ⟨e, hm, kvs, ⟨o, es, ep, x, q⟩, r⟩, k => ⟨e, hm, kvs, ⟨o, es, ep, (k a List.mem_cons_self).trans x, q⟩, r⟩
  | .abs _ _, ⟨p, ⟨ob, es, ep, da, dd⟩, q, r⟩, k => ⟨r _ _ p fun b hb o e => .inl ((k b hb).trans e), ⟨ob, es, ep, (k a List.mem_cons_self).trans da, dd⟩, fun b hb => let ⟨o, e, pl⟩ := q b hb; ⟨o, (k b (List.mem_cons_of_mem _ hb)).trans e, pl⟩, r⟩
theorem ObAt.plain {X : List Addr} {h : Heap} {v : Value} {a : Addr} : ∀ {o : Ob}, ObAt X h v a o → ∃ ob, h.get? a = some ob ∧ Plain ob ∧ ¬ Neut ob ∧ ob.cls ≠ .type "tuple"
  | .list _, ⟨_, _, ⟨_, x⟩, _⟩ => ⟨_, x, plain_ty rfl, fun ⟨_, _, _, _, q, _⟩ => (by cases q), ty_ne (by decide)⟩
  | .dict _ _ _, ⟨_, _, _, ⟨o, _, _, x, q, hd, _⟩, _⟩ => ⟨_, x, plain_ty q.1, fun ⟨_, _, _, _, q', _⟩ => (by rw [hd] at q'; cases q'), by rw [q.1]; exact ty_ne (by decide)⟩
  | .abs _ _, ⟨_, ⟨ob, _, _, e, d, p, t⟩, _, _⟩ => ⟨ob, e, p, fun ⟨_, _, _, _, q', _⟩ => (by rw [d] at q'; cases q'), t⟩
theorem ObAt.there {X : List Addr} {h : Heap} {v : Value} {a : Addr} {o : Ob} (x : ObAt X h v a o) : ∀ b ∈ a :: o.sup, ∃ ob, h.get? b = some ob ∧ ¬ Neut ob := fun b hb => by
  obtain ⟨ob, e, _, nn, _⟩ := x.plain
  rcases List.mem_cons.mp hb with rfl | hb
  · exact ⟨ob, e, nn⟩
  · cases o with
    | abs l P => exact x.2.2.1 b hb
    | list _ => cases hb
    | dict _ _ _ => cases hb
theorem ObAt.kp {X : List Addr} {h h' : Heap} {v : Value} {a : Addr} {o : Ob} (x : ObAt X h v a o) (k : Kp h h') : ObAt X h' v a o := by
  obtain ⟨ob, e, pl, _⟩ := x.plain
  cases o with
  | list ds => exact x.frame (.of_kp k) (fun _ q => q) fun b hb => by obtain rfl := List.mem_singleton.mp hb; rw [e, k.same e pl]
  | dict p w ds => exact x.frame (.of_kp k) (fun _ q => q) fun b hb => by obtain rfl := List.mem_singleton.mp hb; rw [e, k.same e pl]
  | abs l P =>
    obtain ⟨p, ⟨ob2, es, ep, da, dd, pl2, t⟩, q, r⟩ := x
    exact ⟨r _ _ p fun b _ o eb => k b o eb, ⟨ob2, es, ep, k.same da pl2, dd, pl2, t⟩, fun b hb => let ⟨o, eo, nn⟩ := q b hb; Kept1.notNeut (k b o eo) nn, r⟩

inductive Sl where
  | unk
  | imm (d : Dt)
  | own (v : Value) (a : Addr) (o : Ob)

noncomputable def owned : List Sl → List Addr
  | [] => []
  | .own _ a _ :: r => a :: owned r
  | _ :: r => owned r
noncomputable def FC.X (F : FC) (ρ : List Sl) : List Addr := F.X0 ++ owned ρ

/-- the name's value -/
noncomputable def Has (F : FC) (h : Heap) (x : Str) (v : Value) : Prop :=
  (F.env.kindOf x = some .local ∧ ∃ m, h.Ns F.env.locals m ∧ m x = some v) ∨
  ((F.env.kindOf x = some .cell ∨ (F.env.kindOf x = some .free ∧ (x == ("__classdict__" : Str)) = false)) ∧ ∃ c, F.env.cells.lookup x = some c ∧ h.IsCell c (some v))
theorem Has.kp {F : FC} {h h' : Heap} {x : Str} {v : Value} (k : Kp h h') : Has F h x v → Has F h' x v
  | .inl ⟨e, m, n, q⟩ => .inl ⟨e, m, ns_kp n k, q⟩
  | .inr ⟨e, c, l, q⟩ => .inr ⟨e, c, l, isCell_kp q k⟩

/-- the frame's places and cells -/
noncomputable def FC.vol0 (F : FC) (b : Addr) : Prop := b = F.env.locals ∨ ∃ i x, F.names[i]? = some x ∧ i < F.own ∧ F.env.kindOf x = some .cell ∧ F.env.cells.lookup x = some b
noncomputable def SlOK (F : FC) (X : List Addr) (h : Heap) (x : Str) : Sl → Prop
  | .unk => True
  | .imm d => ∃ v, Has F h x v ∧ Rp X h v d
  | .own v a o => (x = "" ∨ Has F h x v) ∧ ObAt X h v a o ∧ (∀ b ∈ a :: o.sup, ¬ F.vol0 b) ∧ ∀ b ∈ o.sup, b ∉ X
noncomputable def SlsOK (F : FC) (X : List Addr) (h : Heap) : List Str → List Sl → Prop
  | x :: xs, sl :: r => SlOK F X h x sl ∧ SlsOK F X h xs r
  | _, _ => True

theorem SlOK.kp {F : FC} {X : List Addr} {h h' : Heap} {x : Str} (k : Kp h h') : ∀ {sl : Sl}, SlOK F X h x sl → SlOK F X h' x sl
  | .unk, _ => trivial
  | .imm _, ⟨v, a, b⟩ => ⟨v, a.kp k, b.kp k⟩
  | .own _ _ _, ⟨a, b, c⟩ => ⟨a.imp id fun q => q.kp k, b.kp k, c⟩
theorem SlsOK.kp {F : FC} {X : List Addr} {h h' : Heap} (k : Kp h h') : ∀ {xs : List Str} {ρ : List Sl}, SlsOK F X h xs ρ → SlsOK F X h' xs ρ
  | [], _, _ => by unfold SlsOK; trivial
  | _ :: _, [], _ => trivial
  | _ :: _, _ :: _, ⟨a, b⟩ => ⟨a.kp k, b.kp k⟩
theorem SlsOK.get {F : FC} {X : List Addr} {h : Heap} : ∀ {xs : List Str} {ρ : List Sl}, SlsOK F X h xs ρ → ∀ {i : Nat} {x : Str} {sl : Sl}, xs[i]? = some x → ρ[i]? = some sl → SlOK F X h x sl
  | [], _, _, _, _, _, e, _ => by simp at e
  | _ :: _, [], _, _, _, _, _, e => by simp at e
  | _ :: _, _ :: _, ⟨a, _⟩, 0, _, _, e, e' => by simp at e e'; subst e e'; exact a
  | _ :: _, _ :: _, ⟨_, b⟩, i + 1, _, _, e, e' => b.get (i := i) (by simpa using e) (by simpa using e')

theorem SlsOK.of_get {F : FC} {X : List Addr} {h : Heap} : ∀ {xs : List Str} {ρ : List Sl}, (∀ (i : Nat) (x : Str) (sl : Sl), xs[i]? = some x → ρ[i]? = some sl → SlOK F X h x sl) → SlsOK F X h xs ρ
  | [], _, _ => by unfold SlsOK; trivial
  | _ :: _, [], _ => trivial
  | _ :: _, _ :: _, k => ⟨k 0 _ _ rfl rfl, .of_get fun i y sl e e' => k (i + 1) y sl (by simpa using e) (by simpa using e')⟩
noncomputable def Sl.plain : Sl → Bool
  | .own _ _ _ => false
  | _ => true
theorem owned_setP {sl : Sl} (h : sl.plain = true) : ∀ (ρ : List Sl) (i : Nat), (owned (ρ.set i sl)).Sublist (owned ρ)
  | [], _ => .refl _
  | .unk :: _, 0 => by cases sl <;> first | exact .refl _ | cases h
  | .imm _ :: _, 0 => by cases sl <;> first | exact .refl _ | cases h
  | .own _ _ _ :: _, 0 => by cases sl <;> first | exact List.sublist_cons_self _ _ | cases h
  | .unk :: r, i + 1 => owned_setP h r i
  | .imm _ :: r, i + 1 => owned_setP h r i
  | .own _ _ _ :: r, i + 1 => (owned_setP h r i).cons_cons _
theorem owned_set (d : Dt) (ρ : List Sl) (i : Nat) : (owned (ρ.set i (.imm d))).Sublist (owned ρ) := owned_setP rfl ρ i
/-- the frames above B: what the handling of an exception asks of them -/
noncomputable def FramesOK (A : Around) (B h : Heap) : Prop := ∃ fs, A.frames = some fs ∧ h.FunFrames B fs ∧ ∀ b ∈ fs.filterMap (·.frame), ∃ o es ep, h.get? b = some o ∧ o.cls = .type "frame" ∧ o.data = .dict es ep
theorem FramesOK.kp {A : Around} {B h h' : Heap} (x : FramesOK A B h) (k : Kp h h') : FramesOK A B h' := by
  obtain ⟨fs, e, q, r⟩ := x
  refine ⟨fs, e, q.of_keeps fun b o ho hnf => ?_, fun b hb => ?_⟩
  · rcases k b o ho with e | ⟨_, sl, e⟩ | ⟨ps, ps', rfl, _, e⟩
    · exact ⟨_, e, rfl⟩
    · exact ⟨_, e, rfl⟩
    · exact absurd rfl (hnf ps)
  · obtain ⟨o, es, ep, ho, hc, hd⟩ := r b hb
    rcases k b o ho with e | ⟨_, sl, e⟩ | ⟨ps, ps', rfl, _, e⟩
    · exact ⟨_, es, ep, e, hc, hd⟩
    · exact ⟨_, es, ep, e, hc, hd⟩
    · cases hc

structure Asr (F : FC) (ρ : List Sl) (h : Heap) : Prop where
  stays : In F.G h
  kept : KpBut (· ∈ F.P) F.h0 h
  frs : FramesOK F.A F.G.B h
  loc : ∃ m, h.Ns1 F.env.locals m ∧ ∃ o, h.get? F.env.locals = some o ∧ ((o.cls = .type "frame" ∧ F.env.locals ∉ F.X0) ∨ (o.cls = .type "dict" ∧ F.env.locals ∈ F.X0))
  cells : ∀ x c, F.env.kindOf x = some .cell → F.env.cells.lookup x = some c → ∃ v, h.IsCell c v
  nodup : (owned ρ).Nodup
  apart : ∀ a ∈ owned ρ, a ∉ F.X0
  fresh : ∀ a ∈ owned ρ, F.G.B.get? a = none ∧ (F.h0.get? a = none ∨ a ∈ F.P)
  dom : ∀ a ∈ F.X ρ, ∃ o, h.get? a = some o
  sls : SlsOK F (F.X ρ) h F.names ρ
  len : ρ.length = F.names.length

theorem Asr.grow {F : FC} {ρ : List Sl} {h h' : Heap} (x : Asr F ρ h) (g : Grow F.G h h') : Asr F ρ h' where
  stays := g.stays
  kept := x.kept.trans g.kp.but
  frs := x.frs.kp g.kp
  loc := let ⟨m, e, o, ho, hc⟩ := x.loc; let ⟨o', e', c, _⟩ := (g.kp _ o ho).some; ⟨m, ns1_kp e g.kp, o', e', hc.imp (fun q => ⟨c.trans q.1, q.2⟩) fun q => ⟨c.trans q.1, q.2⟩⟩
  cells := fun y c e1 e2 => let ⟨v, q⟩ := x.cells y c e1 e2; ⟨v, isCell_kp q g.kp⟩
  nodup := x.nodup
  apart := x.apart
  fresh := x.fresh
  dom := fun a ha => let ⟨o, e⟩ := x.dom a ha; g.kp.live e
  sls := x.sls.kp g.kp
  len := x.len

/-- an expression's value -/
noncomputable def Ev (F : FC) (ρ : List Sl) (e : PySem.Expr) (d : Dt) : Prop := ∀ s, Asr F ρ s.heap → Gives F.G F.A (F.X ρ) s (eval e F.env) d
/-- a test -/
noncomputable def Tr (F : FC) (ρ : List Sl) (e : PySem.Expr) (b : Bool) : Prop := ∀ s, Asr F ρ s.heap → GivesB F.G F.A s (isTrue e F.env (eval e F.env)) b
/-- expressions, one after the other -/
noncomputable def EvL (F : FC) (ρ : List Sl) (es : List PySem.Expr) (ds : List Dt) : Prop :=
  ∀ s, Asr F ρ s.heap → ∀ (pos : Pos) (Q : List Value → Shared → Prop) (E : Value → Shared → Prop),
    (∀ vs h' tk', Grow F.G s.heap h' → RpL (F.X ρ) h' vs ds → Q vs { s with heap := h', toks := tk' }) → wpAny (model F.G.prog F.G.w) F.A (spliced (backTo pos (starEach es F.env))) Q E s

inductive Fl where
  | next | brk | cont
  | ret (d : Dt)
noncomputable def FlOK (X : List Addr) (h : Heap) : Flow → Fl → Prop
  | .next, .next => True
  | .brk, .brk => True
  | .cont, .cont => True
  | .ret v, .ret d => Rp X h v d
  | _, _ => False

/-- what a frame may change: its names' place, its cells, its own lists -/
noncomputable def FC.vol (F : FC) (ρ : List Sl) (b : Addr) : Prop := F.vol0 b ∨ b ∈ owned ρ
/-- a step of the frame -/
structure Stp (F : FC) (ρ ρ' : List Sl) (h h' : Heap) : Prop where
  kept : KpBut (F.vol ρ) h h'
  live : ∀ b o, h.get? b = some o → ∃ o', h'.get? b = some o'
  own : ∀ a ∈ owned ρ', a ∈ owned ρ ∨ h.get? a = none
theorem Stp.trans {F : FC} {ρ ρ₁ ρ₂ : List Sl} {h h₁ h₂ : Heap} (x : Stp F ρ ρ₁ h h₁) (y : Stp F ρ₁ ρ₂ h₁ h₂) : Stp F ρ ρ₂ h h₂ := by
  refine ⟨fun b o hb e => (x.kept b o hb e).next fun p e' => y.kept b p (fun q => ?_) e', fun b o e => let ⟨o', e'⟩ := x.live b o e; y.live b o' e', fun a ha => ?_⟩
  · rcases q with q | q
    · exact hb (.inl q)
    · rcases x.own b q with q | q
      · exact hb (.inr q)
      · rw [e] at q; cases q
  · rcases y.own a ha with q | q
    · exact x.own a q
    · cases e : h.get? a with
      | none => exact .inr rfl
      | some o => obtain ⟨o', e'⟩ := x.live a o e; rw [q] at e'; cases e'
theorem Stp.of_grow {F : FC} {ρ : List Sl} {h h' : Heap} (g : Grow F.G h h') : Stp F ρ ρ h h' := ⟨g.kp.but, fun b o e => g.kp.live e, fun _ ha => .inl ha⟩
/-- what an exception's object may be changed in: no frame speaks of it, and it was not there in hb -/
noncomputable def Loose (F : FC) (hb h : Heap) (a : Addr) : Prop := hb.get? a = none ∧ F.G.B.get? a = none ∧ (F.h0.get? a = none ∨ a ∈ F.P) ∧ a ∉ F.X0 ∧ ∃ o, h.get? a = some o ∧ Neut o
/-- the class that a tag tells: with a star, an exception that has another one behind it -/
noncomputable def exCls (T : String) : String := if T = "IndexError*" then "IndexError" else T
/-- an exception of a built-in class, on its way through the frame: fresh, or noted in the frame -/
noncomputable def ExcIn (F : FC) (hb h : Heap) (e : Addr) (T : String) : Prop :=
  Loose F hb h e ∧ ∃ oe vs, h.get? e = some oe ∧ oe.cls = .type (exCls T) ∧ oe.data = .fields vs ∧ 5 ≤ vs.size ∧ (T ≠ "IndexError*" → vs[2]? = some .none) ∧
    (vs[1]? = some .none ∨ ∃ L tb otb tvs, F.env.frame = some L ∧ vs[1]? = some (.ref tb) ∧ tb ≠ e ∧ Loose F hb h tb ∧ h.get? tb = some otb ∧ otb.data = .fields tvs ∧ 5 ≤ tvs.size ∧ tvs[3]? = some (rawInt L))
theorem ExcIn.base {F : FC} {hb h₁ h : Heap} {e : Addr} {T : String} (lv : ∀ b o, hb.get? b = some o → ∃ o', h₁.get? b = some o') (x : ExcIn F h₁ h e T) : ExcIn F hb h e T := by
  have old : ∀ a, h₁.get? a = none → hb.get? a = none := fun a q => by
    cases q' : hb.get? a with
    | none => rfl
    | some o => obtain ⟨o', e'⟩ := lv a o q'; rw [q] at e'; cases e'
  have lo : ∀ a, Loose F h₁ h a → Loose F hb h a := fun a ⟨q, r⟩ => ⟨old a q, r⟩
  obtain ⟨l, oe, vs, h1, h2, h3, h4, h5, h6⟩ := x
  exact ⟨lo _ l, oe, vs, h1, h2, h3, h4, h5, h6.imp id fun ⟨L, tb, otb, tvs, k1, k2, k3, k4, k5⟩ => ⟨L, tb, otb, tvs, k1, k2, k3, lo _ k4, k5⟩⟩
/-- statements: they end as Φ says, or an exception leaves them as Θ says -/
noncomputable def ExT (F : FC) (ρ : List Sl) (t : Sem Flow) (Φ : Fl → List Sl → Prop) (Θ : String → List Sl → Prop) : Prop :=
  ∀ s, Asr F ρ s.heap → ∀ (Q : Flow → Shared → Prop) (E : Value → Shared → Prop),
    (∀ f h' tk' fl ρ', Φ fl ρ' → Asr F ρ' h' → FlOK (F.X ρ') h' f fl → Stp F ρ ρ' s.heap h' → Q f { s with heap := h', toks := tk' }) →
    (∀ T e h' tk' ρ', Θ T ρ' → Asr F ρ' h' → ExcIn F s.heap h' e T → Stp F ρ ρ' s.heap h' → E (.ref e) { s with heap := h', toks := tk' }) → wpAny (model F.G.prog F.G.w) F.A t Q E s
noncomputable def noExc : String → List Sl → Prop := fun _ _ => False
noncomputable def Ex (F : FC) (ρ : List Sl) (ss : List Stmt) (Φ : Fl → List Sl → Prop) (Θ : String → List Sl → Prop := noExc) : Prop := ExT F ρ (execs ss F.env) Φ Θ
noncomputable def Ex1 (F : FC) (ρ : List Sl) (st : Stmt) (Φ : Fl → List Sl → Prop) (Θ : String → List Sl → Prop := noExc) : Prop := ExT F ρ (exec st F.env) Φ Θ

end Mine
end

section
open PySem PySem.Calls PyProof.Rows PySem.W
namespace Mine

/-- the name of a def, a class, a built-in -/
noncomputable def GName (G : GC) (x : Str) (v : Value) : Prop := ∃ mg, G.B.Ns mainGlobals mg ∧ (mg x = some v ∨ (mg x = none ∧ ∃ mb, G.B.Ns builtinsNs mb ∧ mb x = some v))
/-- the callee keeps its arguments by itself -/
noncomputable def Road (G : GC) (f : Value) : Prop := ∀ M h, In G h → ∃ k, (k = Keeper.frame ∨ k = Keeper.machine ∨ k = Keeper.boundFrame) ∧ Looks M h (keeperOf f) k
/-- a name that the frame may set -/
noncomputable def Sets (F : FC) (x : Str) : Prop := F.env.kindOf x = some .local ∨ (F.env.kindOf x = some .cell ∧ (F.env.cells.lookup x).isSome = true)

structure FC.Ok (F : FC) (n : Nat) : Prop where
  scope : F.env.scope = F.sc
  kind : F.env.scope.kind = .function
  globs : F.env.globals = mainGlobals
  builtins : F.env.builtins = builtinsNs
  hand : F.hd = false → F.A.handled = none
  depth : F.A.depth + n < recursionLimit
  units : F.A.units + 8 * n < cLine
  nolimit : F.G.B.NoLimit
  nodup : F.names.Nodup
  nodebug : ∀ x ∈ F.names, (x == ("__debug__" : Str)) = false
  locB : F.G.B.get? F.env.locals = none
  loc0 : F.h0.get? F.env.locals = none ∨ F.env.locals ∈ F.P
  cells : ∀ x c, F.env.kindOf x = some .cell → F.env.cells.lookup x = some c → F.G.B.get? c = none ∧ (F.h0.get? c = none ∨ c ∈ F.P)
  cs : ∀ x, F.env.kindOf x = some .cell → (F.env.cells.lookup x).isSome = true
  apart : ∀ x y c, F.env.cells.lookup x = some c → F.env.cells.lookup y = some c → x = y
  sets : ∀ (i : Nat) (x : Str), F.names[i]? = some x → i < F.own → Sets F x
  gls : ∀ p ∈ F.gls, F.env.kindOf p.1 = some .globalImplicit ∧ GName F.G p.1 p.2 ∧ Road F.G p.2 ∧ (p.1 == ("__debug__" : Str)) = false
  top : ∃ e outer L, F.A.frames = some (e :: outer) ∧ e.frame = F.env.frame ∧ F.env.frame = some L

noncomputable def Dom (X : List Addr) (h : Heap) : Prop := ∀ a ∈ X, ∃ o, h.get? a = some o
theorem Dom.kp {X : List Addr} {h h' : Heap} (x : Dom X h) (k : Kp h h') : Dom X h' := fun a ha => let ⟨o, e⟩ := x a ha; k.live e
theorem Dom.fresh {X : List Addr} {h : Heap} (x : Dom X h) : h.objs.size ∉ X := fun q => let ⟨_, e⟩ := x _ q; absurd (Heap.lt_size e) (Nat.lt_irrefl _)

section
variable {F : FC} {ρ : List Sl} {n : Nat}

theorem load_has {x : Str} {v : Value} {s : Shared} {Q : Value → Shared → Prop} {E : Value → Shared → Prop} (hk : F.env.scope.kind = .function) (hv : Has F s.heap x v) (h : Q v s) :
    wpAny (model F.G.prog F.G.w) F.A (loadName F.env x) Q E s := by
  rcases hv with ⟨e, m, hn, hm⟩ | ⟨e | ⟨e, hn⟩, c, hc, hv⟩
  · exact wpAny_loadName_local hk e hn hm h
  · exact wpAny_loadName_cell hk e hc hv h
  · exact wpAny_loadName_free hk e hc hv h hn

theorem Ev.name {i : Nat} {x : Str} {pos : Pos} {d : Dt} (hF : F.Ok n) (hx : F.names[i]? = some x) (hd : ρ[i]? = some (.imm d)) : Ev F ρ (.Name x pos) d := by
  intro s h Q E hq
  obtain ⟨v, hv, hr⟩ := h.sls.get hx hd
  exact wpAny_Name (load_has hF.kind hv (hq v s.heap s.toks (.refl h.stays) hr)) (hF.nodebug _ (List.mem_of_getElem? hx))
theorem Ev.int {i : Int} {k : Nat} {pos : Pos} : Ev F ρ (.Constant (.int i) k pos) (.int i) := fun s h _ _ hq => wpAny_Constant_int (hq _ s.heap (s.toks + 1) (.refl h.stays) (.int i _))
theorem Ev.str {x : Str} {k : Nat} {pos : Pos} : Ev F ρ (.Constant (.str x) k pos) (.str x) := fun s h _ _ hq => Calls.Constant_str (hq _ s.heap (s.toks + 1) (.refl h.stays) (.str x _))
theorem Ev.bool {b : Bool} {k : Nat} {pos : Pos} : Ev F ρ (.Constant (.bool b) k pos) (.bool b) := fun s h _ _ hq => wpAny_Constant_bool (hq _ s.heap s.toks (.refl h.stays) (.bool b))
/-- what an operator makes of two data -/
noncomputable def BinOK (G : GC) (A : Around) (op : Operator) (d1 d2 d : Dt) : Prop :=
  ∀ X s v1 v2, In G s.heap → Dom X s.heap → Rp X s.heap v1 d1 → Rp X s.heap v2 d2 → Mine.Gives G A X s (binaryOp op v1 v2) d
noncomputable def CmpOK (G : GC) (A : Around) (op : CmpOp) (d1 d2 : Dt) (b : Bool) : Prop :=
  ∀ X s v1 v2, In G s.heap → Dom X s.heap → Rp X s.heap v1 d1 → Rp X s.heap v2 d2 → Mine.Gives G A X s (compareOp op v1 v2) (.bool b)

theorem Ev.bin {l r : PySem.Expr} {op : Operator} {pos : Pos} {d1 d2 d : Dt} (h1 : Ev F ρ l d1) (h2 : Ev F ρ r d2) (op' : BinOK F.G F.A op d1 d2 d) : Ev F ρ (.BinOp l op r pos) d := by
  intro s h Q E hq
  refine wpAny_BinOp (h1 s h _ _ fun v1 h1' tk1 g1 r1 => ?_)
  refine h2 _ (h.grow g1) _ _ fun v2 h2' tk2 g2 r2 => ?_
  refine op' (F.X ρ) _ v1 v2 (by exact g2.stays) (by exact ((h.grow g1).grow g2).dom) (by exact r1.kp g2.kp) (by exact r2) _ _ fun v h3 tk3 g3 r3 => ?_
  exact hq v h3 tk3 ((g1.trans g2).trans g3) r3
theorem Ev.cmp {l r : PySem.Expr} {op : CmpOp} {pos : Pos} {d1 d2 : Dt} {b : Bool} (h1 : Ev F ρ l d1) (h2 : Ev F ρ r d2) (op' : CmpOK F.G F.A op d1 d2 b) (hm : behindInMarks op r = false := by rfl) : Ev F ρ (.Compare l [op] [r] pos) (.bool b) := by
  intro s h Q E hq
  refine wpAny_Compare1 (h1 s h _ _ fun v1 h1' tk1 g1 r1 => ?_) hm
  refine h2 _ (h.grow g1) _ _ fun v2 h2' tk2 g2 r2 => ?_
  refine op' (F.X ρ) _ v1 v2 (by exact g2.stays) (by exact ((h.grow g1).grow g2).dom) (by exact r1.kp g2.kp) (by exact r2) _ _ fun v h3 tk3 g3 r3 => ?_
  exact hq v h3 tk3 ((g1.trans g2).trans g3) r3

theorem Tr.cmp {l r : PySem.Expr} {op : CmpOp} {pos : Pos} {d1 d2 : Dt} {b : Bool} (h1 : Ev F ρ l d1) (h2 : Ev F ρ r d2) (op' : CmpOK F.G F.A op d1 d2 b) (hm : behindInMarks op r = false := by rfl) : Tr F ρ (.Compare l [op] [r] pos) b := by
  intro s h Q E hq
  refine wpAny_isTrue_Compare1 (h1 s h _ _ fun v1 h1' tk1 g1 r1 => ?_) hm
  refine h2 _ (h.grow g1) _ _ fun v2 h2' tk2 g2 r2 => ?_
  refine op' (F.X ρ) _ v1 v2 (by exact g2.stays) (by exact ((h.grow g1).grow g2).dom) (by exact r1.kp g2.kp) (by exact r2) _ _ fun v h3 tk3 g3 r3 => ?_
  cases r3
  exact wpAny_truthy_bool (hq h3 tk3 ((g1.trans g2).trans g3))
theorem Tr.not {e : PySem.Expr} {pos : Pos} {b : Bool} (h1 : Tr F ρ e b) : Tr F ρ (.UnaryOp .Not e pos) (!b) := fun s h _ _ hq => wpAny_isTrue_Not (h1 s h _ _ hq)

noncomputable def TruthOK (G : GC) (A : Around) (d : Dt) (b : Bool) : Prop :=
  ∀ X s v, In G s.heap → Rp X s.heap v d → GivesB G A s (truthy v) b
theorem Tr.val {e : PySem.Expr} {d : Dt} {b : Bool} (h1 : Ev F ρ e d) (t : TruthOK F.G F.A d b) (he : ∀ whole, PySem.isTrue e F.env whole = (do let v ← whole; standAt e.pos; holding [v] (truthy v)) := by intro _; rfl) : Tr F ρ e b := by
  intro s h Q E hq
  refine wpAny_isTrue_value (h1 s h _ _ fun v1 h1' tk1 g1 r1 => ?_) (he _)
  exact t (F.X ρ) _ v1 (by exact g1.stays) (by exact r1) _ _ fun h2 tk2 g2 => hq h2 tk2 (g1.trans g2)

theorem Tr.and_false {e : PySem.Expr} {r : List PySem.Expr} {pos : Pos} (h1 : Tr F ρ e false) : Tr F ρ (.BoolOp .And (e :: r) pos) false := by
  intro s h Q E hq
  refine wpAny_isTrue_BoolOp (wpAny_allTrue_And_cons (h1 s h _ _ fun h' tk' g => ?_))
  exact hq h' tk' g
theorem Tr.and_true {e : PySem.Expr} {r : List PySem.Expr} {pos : Pos} {b : Bool} (h1 : Tr F ρ e true) (h2 : Tr F ρ (.BoolOp .And r pos) b) : Tr F ρ (.BoolOp .And (e :: r) pos) b := by
  intro s h Q E hq
  refine wpAny_isTrue_BoolOp (wpAny_allTrue_And_cons (h1 s h _ _ fun h' tk' g => ?_))
  exact h2 _ (h.grow g) Q E fun h'' tk'' g' => hq h'' tk'' (g.trans g')
theorem Tr.and_nil {pos : Pos} : Tr F ρ (.BoolOp .And [] pos) true := fun s h _ _ hq => wpAny_isTrue_BoolOp (wpAny_allTrue_And_nil (hq s.heap s.toks (.refl h.stays)))
theorem Tr.or_true {e : PySem.Expr} {r : List PySem.Expr} {pos : Pos} (h1 : Tr F ρ e true) : Tr F ρ (.BoolOp .Or (e :: r) pos) true := by
  intro s h Q E hq
  refine wpAny_isTrue_BoolOp (wpAny_allTrue_Or_cons (h1 s h _ _ fun h' tk' g => ?_))
  exact hq h' tk' g
theorem Tr.or_false {e : PySem.Expr} {r : List PySem.Expr} {pos : Pos} {b : Bool} (h1 : Tr F ρ e false) (h2 : Tr F ρ (.BoolOp .Or r pos) b) : Tr F ρ (.BoolOp .Or (e :: r) pos) b := by
  intro s h Q E hq
  refine wpAny_isTrue_BoolOp (wpAny_allTrue_Or_cons (h1 s h _ _ fun h' tk' g => ?_))
  exact h2 _ (h.grow g) Q E fun h'' tk'' g' => hq h'' tk'' (g.trans g')
theorem Tr.or_nil {pos : Pos} : Tr F ρ (.BoolOp .Or [] pos) false := fun s h _ _ hq => wpAny_isTrue_BoolOp (wpAny_allTrue_Or_nil (hq s.heap s.toks (.refl h.stays)))

theorem EvL.nil : EvL F ρ [] [] := fun s h _ _ _ hq => Calls.spliced_nil (hq [] s.heap s.toks (.refl h.stays) .nil)
theorem EvL.cons {e : PySem.Expr} {es : List PySem.Expr} {d : Dt} {ds : List Dt} (h1 : Ev F ρ e d) (h2 : EvL F ρ es ds) (he : starEach (e :: es) F.env = (false, eval e F.env) :: starEach es F.env := by rfl) : EvL F ρ (e :: es) (d :: ds) := by
  intro s h pos Q E hq
  rw [he]
  show wpAny _ _ (spliced ((false, eval e F.env) :: backTo pos (starEach es F.env))) Q E s
  refine Calls.spliced_cons (h1 s h _ _ fun v h1' tk1 g1 r1 => ?_)
  exact h2 _ (h.grow g1) pos _ _ fun vs h2' tk2 g2 r2 => hq _ h2' tk2 (g1.trans g2) (.cons (r1.kp g2.kp) r2)

theorem Ev.list {es : List PySem.Expr} {ds : List Dt} {pos : Pos} (h1 : EvL F ρ es ds) (hs : ds.length ≤ sizeLine) : Ev F ρ (.List es pos) (.list ds) := by
  intro s h Q E hq
  refine wpAny_List (h1 s h _ _ _ fun vs h1' tk1 g1 r1 => ⟨by rw [r1.length]; exact hs, ?_⟩)
  have A1 := h.grow g1
  refine hq _ _ tk1 (g1.trans (.push g1.stays _)) (.list (Dom.fresh A1.dom) ⟨0, Heap.get?_push_size _ rfl⟩ (r1.kp (.push _ _)))
theorem Ev.tup {es : List PySem.Expr} {ds : List Dt} {k : Nat} {pos : Pos} (h1 : EvL F ρ es ds) (hs : ds.length ≤ sizeLine) : Ev F ρ (.Tuple es k pos) (.tup ds) := by
  intro s h Q E hq
  refine wpAny_Tuple (h1 s h _ _ _ fun vs h1' tk1 g1 r1 => ⟨by rw [r1.length]; exact hs, ?_⟩)
  exact hq _ _ tk1 (g1.trans (.push g1.stays _)) (.tup ⟨0, Heap.get?_push_size _ rfl⟩ (r1.kp (.push _ _)))

theorem Road.builtin {G : GC} (id : String) : Road G (.builtin id) := fun _ _ _ => ⟨.machine, .inr (.inl rfl), .now⟩
theorem Road.type {G : GC} (T : String) : Road G (.type T) := fun _ _ _ => ⟨.machine, .inr (.inl rfl), .now⟩
theorem Road.def {G : GC} {a : Addr} {o : Obj} {fd : FuncData} (ho : G.B.get? a = some o) (hd : o.data = .func fd) : Road G (.ref a) := fun _ _ st => ⟨.frame, .inl rfl, by
  refine (Looks.ld (part := Option.none) (st.stays _ _ ho)).andThen ?_
  rw [hd]; exact .now⟩

/-- what a call gives -/
noncomputable def CallOK (G : GC) (A : Around) (f : Value) (ds : List Dt) (d : Dt) : Prop :=
  ∀ X s vs, In G s.heap → FramesOK A G.B s.heap → Dom X s.heap → RpL X s.heap vs ds → Mine.Gives G A X s (call f vs) d

theorem name_glob {j : Nat} {f : Str} {fv : Value} {pos : Pos} {s : Shared} {Q : Value → Shared → Prop} {E : Value → Shared → Prop} (hF : F.Ok n) (hg : F.gls[j]? = some (f, fv)) (st : In F.G s.heap) (h : Q fv s) :
    wpAny (model F.G.prog F.G.w) F.A (eval (.Name f pos) F.env) Q E s := by
  obtain ⟨hk, ⟨mg, hn, hv⟩, _, hd⟩ := hF.gls _ (List.mem_of_getElem? hg)
  have e1 : s.heap.Ns F.env.globals mg := by rw [hF.globs]; exact hn.keeps st.stays
  rcases hv with hv | ⟨hv, mb, hb, hv'⟩
  · exact Name_function_global hF.kind hk (loadGlobal_global e1 hv h) hd
  · exact Name_function_global hF.kind hk (loadGlobal_builtin e1 hv (by rw [hF.builtins]; exact hb.keeps st.stays) hv' h) hd
/-- a built-in type's name as a value -/
theorem Ev.typ {j : Nat} {x : Str} {T : String} {pos : Pos} (hF : F.Ok n) (hg : F.gls[j]? = some (x, .type T)) : Ev F ρ (.Name x pos) (.typ T) :=
  fun s h _ _ hq => name_glob hF hg h.stays (hq _ s.heap s.toks (.refl h.stays) (.typ T))

theorem evalArgs_any {M : Model} {A : Around} {E : Value → Shared → Prop} {s : Shared} {env : Env} {f : Value} {es : List PySem.Expr} {pos : Pos} {Q : Args → Shared → Prop} (hs : (starEach es env).any (·.1) = false)
    (h : wpAny M A (spliced (backTo pos (starEach es env))) (fun vs s' => Q ⟨vs, []⟩ s') E s) : wpAny M A (evalArgs f true (backTo pos (starEach es env)) []) Q E s := by
  cases q : starEach es env with
  | nil =>
    rw [q] at h
    show wpAny M A (evalArgs f true [] []) Q E s
    unfold evalArgs
    show wpAny M A (spliced [] >>= _) Q E s
    refine wpAny_bind (wpAny_mono h (fun vs s' h' => ?_) fun _ _ x => x)
    refine wpAny_bind (wpAny_pure ?_)
    refine wpAny_holding ?_
    exact wpAny_bind (wpAny_pure (wpAny_bind (wpAny_pure (wpAny_pure h'))))
  | cons p r =>
    obtain ⟨b, t⟩ := p
    rw [q] at hs h
    simp only [List.any_cons, Bool.or_eq_false_iff] at hs
    obtain ⟨rfl, _⟩ := hs
    exact evalArgs_plain h

theorem Ev.call {j : Nat} {f : Str} {fv : Value} {fp pos : Pos} {es : List PySem.Expr} {ds : List Dt} {d : Dt} (hF : F.Ok n) (hg : F.gls[j]? = some (f, fv)) (ha : EvL F ρ es ds) (hc : CallOK F.G F.A fv ds d)
    (hs : (starEach es F.env).any (·.1) = false := by rfl) : Ev F ρ (.Call (.Name f fp) es [] pos) d := by
  intro s h Q E hq
  refine wpAny_Call_NameR (name_glob hF hg h.stays ?_)
  refine callWith_of (P := fun h => In F.G h) ?_ (fun h st => (hF.gls _ (List.mem_of_getElem? hg)).2.2.1 _ h st) (evalArgs_any hs (ha s h pos _ _ fun vs h1 tk1 g1 r1 => ⟨g1.stays, ?_⟩))
  · have : (backTo pos (starEach es F.env)).any (·.1) = (starEach es F.env).any (·.1) := by unfold backTo; rw [List.any_map]; rfl
    rw [this, hs]; rfl
  · have A1 := h.grow g1
    exact hc (F.X ρ) _ vs (by exact g1.stays) (by exact A1.frs) (by exact A1.dom) (by exact r1) _ _ fun v h2 tk2 g2 r2 => hq v h2 tk2 (g1.trans g2) r2
end
end Mine
end

section
open PySem PySem.Calls PyProof.Rows PySem.W
namespace Mine

theorem ns_inj {h : Heap} {a : Addr} {m m' : Str → Option Value} (x : h.Ns a m) (y : h.Ns a m') : m = m' := by
  obtain ⟨o, es, ep, ho, hd, _, f⟩ := x
  obtain ⟨o', es', ep', ho', hd', _, f'⟩ := y
  rw [ho] at ho'; cases ho'
  rw [hd] at hd'; cases hd'
  funext n
  rw [← f, ← f']
theorem ns_cell {h : Heap} {c : Addr} {m : Str → Option Value} {v : Option Value} (x : h.Ns c m) (y : h.IsCell c v) : False := by
  obtain ⟨o, es, ep, ho, hd, _⟩ := x
  obtain ⟨o', ho', hd'⟩ := y
  rw [ho] at ho'; cases ho'; rw [hd] at hd'; cases hd'

/-- one object of the frame's own has turned -/
structure Turn (F : FC) (h h' : Heap) (c : Addr) : Prop where
  others : ∀ b, b ≠ c → h'.get? b = h.get? b
  base : F.G.B.get? c = none
  entry : F.h0.get? c = none ∨ c ∈ F.P
  stay : ∃ o', h'.get? c = some o'
  cls : ∀ o es ep, h.get? c = some o → o.data = .dict es ep → ∃ o' es' ep', h'.get? c = some o' ∧ o'.cls = o.cls ∧ o'.data = .dict es' ep'
  code : ∀ o vs, h.get? c = some o → o.data = .fields vs → o.cls ≠ .none ∧ ∀ q t, vs[1]? ≠ some (.str q t)
theorem Turn.same {F : FC} {h h' : Heap} {c : Addr} (t : Turn F h h' c) {X : List Addr} (hb : ∀ o, h.get? c = some o → ¬ Bears X c o) : Same X h h' :=
  fun a o e q => (t.others a fun e' => by subst e'; exact hb o e q).trans e
theorem Turn.frs {F : FC} {h h' : Heap} {c : Addr} (t : Turn F h h' c) {A : Around} (x : FramesOK A F.G.B h) : FramesOK A F.G.B h' := by
  obtain ⟨fs, e, q, r⟩ := x
  refine ⟨fs, e, ?_, fun b hb => ?_⟩
  · clear e
    induction fs with
    | nil => trivial
    | cons env rest ih =>
      obtain ⟨hk, ⟨L, o, hf, hn, ho, hd⟩, hr⟩ := q
      refine ⟨hk, ?_, ih hr fun b hb => r b (by rw [List.filterMap_cons, hf]; exact List.mem_cons_of_mem _ hb)⟩
      by_cases hc : L = c
      · subst hc
        obtain ⟨o1, es, ep, h1, _, h2⟩ := r L (by rw [List.filterMap_cons, hf]; exact List.mem_cons_self)
        obtain ⟨o', es', ep', e1, _, e2⟩ := t.cls o1 es ep h1 h2
        exact ⟨L, o', hf, hn, e1, fun vs q => by rw [e2] at q; cases q⟩
      · exact ⟨L, o, hf, hn, (t.others L hc).trans ho, hd⟩
  · obtain ⟨o, es, ep, ho, hc, hd⟩ := r b hb
    by_cases hbc : b = c
    · subst hbc
      obtain ⟨o', es', ep', e1, e2, e3⟩ := t.cls o es ep ho hd
      exact ⟨o', es', ep', e1, e2.trans hc, e3⟩
    · exact ⟨o, es, ep, (t.others b hbc).trans ho, hc, hd⟩
theorem In.but {G : GC} {h h' : Heap} {c : Addr} (x : In G h) (oth : ∀ b, b ≠ c → h'.get? b = h.get? b) (base : G.B.get? c = none) (code : ∀ o vs, h.get? c = some o → o.data = .fields vs → o.cls ≠ .none ∧ ∀ q t, vs[1]? ≠ some (.str q t)) : In G h' := by
  refine ⟨fun b o e => (oth b (fun q => by rw [q, base] at e; cases e)).trans (x.stays b o e), ?_⟩
  obtain ⟨ps, a, b, c'⟩ := x.tab
  refine ⟨ps, (oth _ fun q => (code _ _ (q ▸ a) rfl).1 rfl).trans a, b, c'.imp id fun ⟨q, e, c2, o, vs, tq, e1, e2, e3, e4⟩ => ⟨q, e, c2, o, vs, tq, e1, (oth _ fun q => ?_).trans e2, e3, e4⟩⟩
  exact (code _ _ (q ▸ e2) e3).2 _ _ e4
theorem Turn.stays {F : FC} {h h' : Heap} {c : Addr} (t : Turn F h h' c) (x : In F.G h) : In F.G h' := x.but t.others t.base t.code
theorem Turn.kept {F : FC} {h h' : Heap} {c : Addr} (t : Turn F h h' c) (x : KpBut (· ∈ F.P) F.h0 h) : KpBut (· ∈ F.P) F.h0 h' := fun b o hb e => by
  have : b ≠ c := fun q => by subst q; exact t.entry.elim (fun q => by rw [q] at e; cases e) hb
  rw [t.others b this]; exact x b o hb e
theorem Turn.get {F : FC} {h h' : Heap} {c b : Addr} {o : Obj} (t : Turn F h h' c) (e : h.get? b = some o) : ∃ o', h'.get? b = some o' := by
  by_cases q : b = c
  · subst q; exact t.stay
  · exact ⟨o, (t.others b q).trans e⟩

theorem Asr.store {F : FC} {ρ : List Sl} {h h' : Heap} {c : Addr} {i : Nat} {x : Str} {v : Value} {sl : Sl} (X : Asr F ρ h) (t : Turn F h h' c) (hn : F.names.Nodup) (hx : F.names[i]? = some x)
    (hc : F.vol0 c) (hb : ∀ o, h.get? c = some o → ¬ Bears (F.X ρ) c o) (loc : ∃ m, h'.Ns1 F.env.locals m ∧ ∃ o, h'.get? F.env.locals = some o ∧ ((o.cls = .type "frame" ∧ F.env.locals ∉ F.X0) ∨ (o.cls = .type "dict" ∧ F.env.locals ∈ F.X0))) (cells : ∀ y c, F.env.kindOf y = some .cell → F.env.cells.lookup y = some c → ∃ v, h'.IsCell c v)
    (has : Has F h' x v) (oth : ∀ y u, y ≠ x → Has F h y u → Has F h' y u) (hv : sl = .unk ∨ ∃ d, sl = .imm d ∧ Rp (F.X ρ) h v d) : Asr F (ρ.set i sl) h' := by
  have hp : sl.plain = true := by rcases hv with rfl | ⟨d, rfl, _⟩ <;> rfl
  have sub := owned_setP hp ρ i
  have subX : ∀ a, a ∈ F.X (ρ.set i sl) → a ∈ F.X ρ := fun a ha => (List.mem_append.mp ha).elim (fun q => List.mem_append_left _ q) fun q => List.mem_append_right _ (sub.subset q)
  have sm : Same (F.X ρ) h h' := t.same hb
  refine ⟨t.stays X.stays, t.kept X.kept, t.frs X.frs, loc, cells, X.nodup.sublist sub, fun a ha => X.apart a (sub.subset ha), fun a ha => X.fresh a (sub.subset ha), fun a ha => let ⟨o, e⟩ := X.dom a (subX a ha); t.get e, .of_get fun j y sl' e1 e2 => ?_, by rw [List.length_set]; exact X.len⟩
  by_cases hj : i = j
  · subst hj
    rw [hx] at e1; cases e1
    rw [List.getElem?_set] at e2
    simp only [if_true] at e2
    split at e2
    · cases e2
      rcases hv with rfl | ⟨d, rfl, r⟩
      · trivial
      · exact ⟨v, has, r.same sm subX⟩
    · cases e2
  · rw [List.getElem?_set_ne hj] at e2
    have hy : y ≠ x := fun q => by
      subst q
      obtain ⟨hi', e1'⟩ := List.getElem?_eq_some_iff.mp hx
      obtain ⟨hj', e2'⟩ := List.getElem?_eq_some_iff.mp e1
      exact hj ((List.getElem_inj hn).mp (e1'.trans e2'.symm))
    have := X.sls.get e1 e2
    cases sl' with
    | unk => trivial
    | imm d' => obtain ⟨u, a, b⟩ := this; exact ⟨u, oth y u hy a, b.same sm subX⟩
    | own v' a' o' =>
      obtain ⟨a, b, c', d'⟩ := this
      exact ⟨a.imp id (oth y _ hy), b.frame sm subX fun b hb => t.others b fun q => c' b hb (q ▸ hc), c', fun b hb q => d' b hb (subX b q)⟩
theorem frame_not_bears {X : List Addr} {c : Addr} {o : Obj} (hc : o.cls = .type "frame") : ¬ Bears X c o := by
  rintro (⟨_, _, _, q | q⟩ | q)
  · rw [hc] at q; exact absurd q (ty_ne (by decide))
  · rw [hc] at q; exact absurd q.2 (ty_ne (by decide))
  · rw [hc] at q; exact absurd q.2.1 (ty_ne (by decide))
theorem loc_not_bears {F : FC} {ρ : List Sl} {o : Obj} (hc : (o.cls = .type "frame" ∧ F.env.locals ∉ F.X0) ∨ (o.cls = .type "dict" ∧ F.env.locals ∈ F.X0)) : ¬ Bears (F.X ρ) F.env.locals o := by
  rcases hc with ⟨hc, _⟩ | ⟨hc, hx⟩
  · exact frame_not_bears hc
  · have hx' : F.env.locals ∈ F.X ρ := List.mem_append_left _ hx
    rintro (⟨_, _, _, q | q⟩ | q)
    · rw [hc] at q; exact absurd q (ty_ne (by decide))
    · exact q.1 hx'
    · exact q.1 hx'
theorem cell_not_bears {X : List Addr} {h : Heap} {c : Addr} {v : Option Value} (x : h.IsCell c v) : ∀ o, h.get? c = some o → ¬ Bears X c o := by
  obtain ⟨o, e, hd⟩ := x
  intro o' e'
  rw [e] at e'; cases e'
  rintro (⟨_, _, q, _⟩ | ⟨_, _, _, _, q⟩) <;> rw [hd] at q <;> cases q

section
variable {F : FC} {ρ : List Sl} {n : Nat}
theorem store_local {i : Nat} {x : Str} {v : Value} {sl : Sl} {s : Shared} {Q : Unit → Shared → Prop} {E : Value → Shared → Prop} (hF : F.Ok n) (X : Asr F ρ s.heap) (hx : F.names[i]? = some x) (hk : F.env.kindOf x = some .local) (hv : sl = .unk ∨ ∃ d, sl = .imm d ∧ Rp (F.X ρ) s.heap v d)
    (h : ∀ h' tk', Asr F (ρ.set i sl) h' → Stp F ρ (ρ.set i sl) s.heap h' → Has F h' x v → Q () { s with heap := h', toks := tk' }) : wpAny (model F.G.prog F.G.w) F.A (storeName F.env x v) Q E s := by
  obtain ⟨m, hm, fo, hfo, hfc⟩ := X.loc
  rw [storeName_local hk (by rw [hF.kind]; rfl)]
  refine wpAny_nsSet1EFk hm fun h' hn' hs hc => ?_
  have hd0 : ∃ es ep, fo.data = .dict es ep := by
    obtain ⟨q, es, ep, e3, e4, _⟩ := hm
    rw [hfo] at e3; cases e3
    exact ⟨es, ep, e4⟩
  have t : Turn F s.heap h' F.env.locals := ⟨hs.2, hF.locB, hF.loc0, (let ⟨q, _, _, e3, _⟩ := hn'; ⟨q, e3⟩), fun o _ _ e _ => by
    obtain ⟨o', e1, e2, _⟩ := hc o e
    obtain ⟨q, es, ep, e3, e4, _⟩ := hn'
    rw [e1] at e3; cases e3
    exact ⟨o', es, ep, e1, e2, e4⟩, fun o vs e q => by
    rw [hfo] at e; cases e
    obtain ⟨es, ep, hd0⟩ := hd0
    rw [hd0] at q; cases q⟩
  obtain ⟨o', e1, e2, _⟩ := hc fo hfo
  refine h h' _ (X.store t hF.nodup hx (.inl rfl) (fun o e => by rw [hfo] at e; cases e; exact loc_not_bears hfc) ⟨_, hn', o', e1, hfc.imp (fun q => ⟨e2.trans q.1, q.2⟩) fun q => ⟨e2.trans q.1, q.2⟩⟩ (fun y c e1 e2 => ?_) (.inl ⟨hk, _, hn'.ns, by simp⟩) (fun y u hy q => ?_) hv) ⟨fun b o hb e => .inl ((hs.2 b fun q => hb (.inl (.inl q))).trans e), fun _ _ e => t.get e, fun a ha => .inl ((owned_setP (by rcases hv with rfl | ⟨d, rfl, _⟩ <;> rfl) ρ i).subset ha)⟩ (.inl ⟨hk, _, hn'.ns, by simp⟩)
  · obtain ⟨v, q⟩ := X.cells y c e1 e2
    exact ⟨v, q.sameBut hs fun q' => ns_cell hm.ns (q' ▸ q)⟩
  · rcases q with ⟨e, m', q1, q2⟩ | ⟨e, c, q1, q2⟩
    · obtain rfl := ns_inj q1 hm.ns
      exact .inl ⟨e, _, hn'.ns, by simp only [if_neg hy]; exact q2⟩
    · exact .inr ⟨e, c, q1, q2.sameBut hs fun q' => ns_cell hm.ns (q' ▸ q2)⟩

theorem store_cell {i : Nat} {x : Str} {v : Value} {sl : Sl} {s : Shared} {Q : Unit → Shared → Prop} {E : Value → Shared → Prop} (hF : F.Ok n) (X : Asr F ρ s.heap) (hx : F.names[i]? = some x) (hi : i < F.own) (hk : F.env.kindOf x = some .cell) (hl : (F.env.cells.lookup x).isSome = true) (hv : sl = .unk ∨ ∃ d, sl = .imm d ∧ Rp (F.X ρ) s.heap v d)
    (h : ∀ h' tk', Asr F (ρ.set i sl) h' → Stp F ρ (ρ.set i sl) s.heap h' → Has F h' x v → Q () { s with heap := h', toks := tk' }) : wpAny (model F.G.prog F.G.w) F.A (storeName F.env x v) Q E s := by
  obtain ⟨c, hc⟩ := Option.isSome_iff_exists.mp hl
  obtain ⟨v₀, hv₀⟩ := X.cells x c hk hc
  obtain ⟨m, hm, fo, hfo, hfc⟩ := X.loc
  refine wpAny_storeName_cell hF.kind hk hc hv₀ fun h' hv' hs => ?_
  have hLc : F.env.locals ≠ c := fun q => ns_cell hm.ns (q ▸ hv₀)
  have t : Turn F s.heap h' c := ⟨hs.2, (hF.cells x c hk hc).1, (hF.cells x c hk hc).2, (let ⟨o', e, _⟩ := hv'; ⟨o', e⟩), fun o _ _ e ed => (by
    obtain ⟨o1, e1, e2⟩ := hv₀
    rw [e] at e1; cases e1; rw [ed] at e2; cases e2), fun o vs e q => by
    obtain ⟨o1, e1, e2⟩ := hv₀
    rw [e] at e1; cases e1; rw [q] at e2; cases e2⟩
  refine h h' _ (X.store t hF.nodup hx (.inr ⟨i, x, hx, hi, hk, hc⟩) (cell_not_bears hv₀) ⟨m, hm.sameBut hs hLc, fo, (hs.2 _ hLc).trans hfo, hfc⟩ (fun y c' e1 e2 => ?_) (.inr ⟨.inl hk, c, hc, hv'⟩) (fun y u hy q => ?_) hv) ⟨fun b o hb e => .inl ((hs.2 b fun q => hb (.inl (.inr ⟨i, x, hx, hi, hk, q ▸ hc⟩))).trans e), fun _ _ e => t.get e, fun a ha => .inl ((owned_setP (by rcases hv with rfl | ⟨d, rfl, _⟩ <;> rfl) ρ i).subset ha)⟩ (.inr ⟨.inl hk, c, hc, hv'⟩)
  · by_cases q : c' = c
    · subst q; exact ⟨_, hv'⟩
    · obtain ⟨u, z⟩ := X.cells y c' e1 e2
      exact ⟨u, z.sameBut hs q⟩
  · rcases q with ⟨e, m', q1, q2⟩ | ⟨e, c', q1, q2⟩
    · exact .inl ⟨e, m', q1.sameBut hs hLc, q2⟩
    · exact .inr ⟨e, c', q1, q2.sameBut hs fun q => hy (hF.apart y x c (q ▸ q1) hc)⟩
end
end Mine
end

section
open PySem PySem.Calls PyProof.Rows PySem.W
namespace Mine
section
variable {F : FC} {ρ : List Sl} {n : Nat} {Φ : Fl → List Sl → Prop} {Θ : String → List Sl → Prop}

theorem Stp.refl {h : Heap} (X : Asr F ρ h) : Stp F ρ ρ h h := .of_grow (.refl X.stays)
/-- the rest of a walk, behind a part of it -/
theorem ExT.past {ρ ρ₁ : List Sl} {t : Sem Flow} {s : Shared} {h₁ : Heap} {tk₁ : Nat} {Q : Flow → Shared → Prop} {E : Value → Shared → Prop} (H : ExT F ρ₁ t Φ Θ) (X : Asr F ρ₁ h₁) (S : Stp F ρ ρ₁ s.heap h₁)
    (hq : ∀ f h' tk' fl ρ', Φ fl ρ' → Asr F ρ' h' → FlOK (F.X ρ') h' f fl → Stp F ρ ρ' s.heap h' → Q f { s with heap := h', toks := tk' })
    (he : ∀ T e h' tk' ρ', Θ T ρ' → Asr F ρ' h' → ExcIn F s.heap h' e T → Stp F ρ ρ' s.heap h' → E (.ref e) { s with heap := h', toks := tk' }) : wpAny (model F.G.prog F.G.w) F.A t Q E { s with heap := h₁, toks := tk₁ } :=
  H { s with heap := h₁, toks := tk₁ } X Q E (fun f h' tk' fl ρ' a b c d => hq f h' tk' fl ρ' a b c (S.trans d)) fun T e h' tk' ρ' a b c d => he T e h' tk' ρ' a b (c.base S.live) (S.trans d)
theorem Ex.nil (h : Φ .next ρ) : Ex F ρ [] Φ Θ := fun s X _ _ hq _ => wpAny_execs_nil (hq .next s.heap s.toks .next ρ h X trivial (.refl X))
theorem Ex.cons {st : Stmt} {rest : List Stmt} {Ψ : Fl → List Sl → Prop} (h1 : Ex1 F ρ st Ψ Θ) (h2 : ∀ fl ρ', Ψ fl ρ' → match fl with | .next => Ex F ρ' rest Φ Θ | fl => Φ fl ρ') : Ex F ρ (st :: rest) Φ Θ := by
  intro s X Q E hq he
  refine wpAny_execs_cons (h1 s X _ _ (fun f h' tk' fl ρ' hΨ X' hf S => ?_) he)
  have k := h2 fl ρ' hΨ
  cases fl with
  | next =>
    cases f <;> try exact hf.elim
    exact ExT.past k X' S hq he
  | brk => cases f <;> first | exact hf.elim | exact hq _ _ _ _ _ k X' hf S
  | cont => cases f <;> first | exact hf.elim | exact hq _ _ _ _ _ k X' hf S
  | ret d => cases f <;> first | exact hf.elim | exact hq _ _ _ _ _ k X' hf S
/-- a statement that ends in a known state, the rest behind it -/
theorem Ex.seq {st : Stmt} {rest : List Stmt} {ρ' : List Sl} (h1 : Ex1 F ρ st (fun fl r => fl = .next ∧ r = ρ') Θ) (h2 : Ex F ρ' rest Φ Θ) : Ex F ρ (st :: rest) Φ Θ :=
  .cons h1 fun fl r ⟨e, e'⟩ => by subst e e'; exact h2
theorem ExT.mono {t : Sem Flow} {Ψ : Fl → List Sl → Prop} {Ξ : String → List Sl → Prop} (h1 : ExT F ρ t Ψ Ξ) (h2 : ∀ fl ρ', Ψ fl ρ' → Φ fl ρ') (h3 : ∀ T ρ', Ξ T ρ' → Θ T ρ') : ExT F ρ t Φ Θ :=
  fun s X Q E hq he => h1 s X Q E (fun f h' tk' fl ρ' hΨ X' hf S => hq f h' tk' fl ρ' (h2 _ _ hΨ) X' hf S) fun T e h' tk' ρ' a b c d => he T e h' tk' ρ' (h3 _ _ a) b c d
theorem Ex1.mono {st : Stmt} {Ψ : Fl → List Sl → Prop} (h1 : Ex1 F ρ st Ψ Θ) (h2 : ∀ fl ρ', Ψ fl ρ' → Φ fl ρ') : Ex1 F ρ st Φ Θ := ExT.mono h1 h2 fun _ _ h => h
theorem Ex.mono {ss : List Stmt} {Ψ : Fl → List Sl → Prop} (h1 : Ex F ρ ss Ψ Θ) (h2 : ∀ fl ρ', Ψ fl ρ' → Φ fl ρ') : Ex F ρ ss Φ Θ := ExT.mono h1 h2 fun _ _ h => h
theorem store_ok {i : Nat} {x : Str} {v : Value} {d : Dt} {s : Shared} {Q : Unit → Shared → Prop} {E : Value → Shared → Prop} (hF : F.Ok n) (X : Asr F ρ s.heap) (hx : F.names[i]? = some x)
    (hi : i < F.own) (hv : Rp (F.X ρ) s.heap v d)
    (h : ∀ h' tk', Asr F (ρ.set i (.imm d)) h' → Stp F ρ (ρ.set i (.imm d)) s.heap h' → Q () { s with heap := h', toks := tk' }) : wpAny (model F.G.prog F.G.w) F.A (storeName F.env x v) Q E s :=
  (hF.sets i x hx hi).elim (fun hk => store_local hF X hx hk (.inr ⟨d, rfl, hv⟩) fun h' tk' a b _ => h h' tk' a b) fun hk => store_cell hF X hx hi hk.1 hk.2 (.inr ⟨d, rfl, hv⟩) fun h' tk' a b _ => h h' tk' a b

/-- a value is stored of which nothing is said -/
theorem store_unk {i : Nat} {x : Str} {v : Value} {s : Shared} {Q : Unit → Shared → Prop} {E : Value → Shared → Prop} (hF : F.Ok n) (X : Asr F ρ s.heap) (hx : F.names[i]? = some x) (hi : i < F.own)
    (h : ∀ h' tk', Asr F (ρ.set i .unk) h' → Stp F ρ (ρ.set i .unk) s.heap h' → Has F h' x v → Q () { s with heap := h', toks := tk' }) : wpAny (model F.G.prog F.G.w) F.A (storeName F.env x v) Q E s := by
  rcases hF.sets i x hx hi with hk | hk
  · exact store_local hF X hx hk (.inl rfl) h
  · exact store_cell hF X hx hi hk.1 hk.2 (.inl rfl) h
/-- what a statement gives that stores one datum -/
noncomputable abbrev Puts (ρ : List Sl) (i : Nat) (d : Dt) : Fl → List Sl → Prop := fun fl r => fl = .next ∧ r = ρ.set i (.imm d)
theorem Ex1.assign {i : Nat} {x : Str} {e : PySem.Expr} {np pos : Pos} {d : Dt} (hF : F.Ok n) (hx : F.names[i]? = some x) (hi : i < F.own) (he : Ev F ρ e d) (hs : swapsWith e (some (.Name x np)) pos.line F.env = pure false := by rfl) :
    Ex1 F ρ (.Assign [.Name x np] e pos) (Puts ρ i d) Θ := by
  intro s X Q E hq _
  refine wpAny_Assign_Name (he s X _ _ fun v h1 tk1 g1 r1 => ?_) hs
  refine store_ok (s := { s with heap := h1, toks := tk1 }) hF (X.grow g1) hx hi r1 fun h2 tk2 X2 S2 => ?_
  exact hq .next h2 tk2 .next _ ⟨rfl, rfl⟩ X2 trivial ((Stp.of_grow g1).trans S2)

noncomputable def AugOK (G : GC) (A : Around) (op : Operator) (d1 d2 d : Dt) : Prop :=
  ∀ X s v1 v2, In G s.heap → Dom X s.heap → Rp X s.heap v1 d1 → Rp X s.heap v2 d2 → Mine.Gives G A X s (inplaceOp op v1 v2) d
theorem Ex1.aug {i : Nat} {x : Str} {e : PySem.Expr} {op : Operator} {np pos : Pos} {d1 d2 d : Dt} (hF : F.Ok n) (hx : F.names[i]? = some x) (hi : i < F.own) (h1 : ρ[i]? = some (.imm d1)) (he : Ev F ρ e d2) (ho : AugOK F.G F.A op d1 d2 d) :
    Ex1 F ρ (.AugAssign (.Name x np) op e pos) (Puts ρ i d) Θ := by
  intro s X Q E hq _
  obtain ⟨v1, hv1, r1⟩ := X.sls.get hx h1
  refine wpAny_AugAssign_Name (load_has hF.kind hv1 (he s X _ _ fun v2 h2 tk2 g2 r2 => ?_))
  refine ho (F.X ρ) _ v1 v2 (by exact g2.stays) (by exact (X.grow g2).dom) (by exact r1.kp g2.kp) (by exact r2) _ _ fun v h3 tk3 g3 r3 => ?_
  refine store_ok (s := { s with heap := h3, toks := tk3 }) hF ((X.grow g2).grow g3) hx hi r3 fun h4 tk4 X4 S4 => ?_
  exact hq .next h4 tk4 .next _ ⟨rfl, rfl⟩ X4 trivial ((Stp.of_grow (g2.trans g3)).trans S4)

theorem Ex1.if_true {t : PySem.Expr} {b o : List Stmt} {pos : Pos} (ht : Tr F ρ t true) (hb : Ex F ρ b Φ Θ) : Ex1 F ρ (.If t b o pos) Φ Θ := fun s X Q E hq he =>
  wpAny_If (ht s X _ _ fun h1 tk1 g1 => ExT.past hb (X.grow g1) (.of_grow g1) hq he)
theorem Ex1.if_false {t : PySem.Expr} {b o : List Stmt} {pos : Pos} (ht : Tr F ρ t false) (hb : Ex F ρ o Φ Θ) : Ex1 F ρ (.If t b o pos) Φ Θ := fun s X Q E hq he =>
  wpAny_If (ht s X _ _ fun h1 tk1 g1 => ExT.past hb (X.grow g1) (.of_grow g1) hq he)
/-- what follows a statement's end -/
noncomputable def After (F : FC) (rest : List Stmt) (Φ : Fl → List Sl → Prop) (Θ : String → List Sl → Prop) (fl : Fl) (r : List Sl) : Prop := match fl with | .next => Ex F r rest Φ Θ | fl => Φ fl r
theorem Ex.if_true {t : PySem.Expr} {b o rest : List Stmt} {pos : Pos} (ht : Tr F ρ t true) (hb : Ex F ρ b (After F rest Φ Θ) Θ) : Ex F ρ (.If t b o pos :: rest) Φ Θ := .cons (.if_true ht hb) fun fl _ h => by cases fl <;> exact h
theorem Ex.if_false {t : PySem.Expr} {b o rest : List Stmt} {pos : Pos} (ht : Tr F ρ t false) (hb : Ex F ρ o (After F rest Φ Θ) Θ) : Ex F ρ (.If t b o pos :: rest) Φ Θ := .cons (.if_false ht hb) fun fl _ h => by cases fl <;> exact h
theorem Ex1.ret {e : PySem.Expr} {pos : Pos} {d : Dt} (he : Ev F ρ e d) : Ex1 F ρ (.Return (some e) pos) (fun fl r => fl = .ret d ∧ r = ρ) Θ := by
  intro s X Q E hq _
  exact wpAny_Return_some (he s X _ _ fun v h1 tk1 g1 r1 => hq (.ret v) h1 tk1 (.ret d) ρ ⟨rfl, rfl⟩ (X.grow g1) r1 (.of_grow g1))
theorem Ex1.brk {pos : Pos} : Ex1 F ρ (.Break pos) (fun fl r => fl = .brk ∧ r = ρ) Θ :=
  fun s X _ _ hq _ => wpAny_Break (hq .brk s.heap s.toks .brk ρ ⟨rfl, rfl⟩ X trivial (.refl X))
/-- the last statement hands something back -/
theorem Ex.ret {e : PySem.Expr} {pos : Pos} {rest : List Stmt} {d : Dt} (he : Ev F ρ e d) (h : Φ (.ret d) ρ) : Ex F ρ (.Return (some e) pos :: rest) Φ Θ :=
  .cons (.ret he) fun fl r ⟨e, e'⟩ => by subst e e'; exact h
theorem Ex.brk {pos : Pos} {rest : List Stmt} (h : Φ .brk ρ) : Ex F ρ (.Break pos :: rest) Φ Θ :=
  .cons .brk fun fl r ⟨e, e'⟩ => by subst e e'; exact h

theorem mem_owned {v : Value} {a : Addr} {o : Ob} : ∀ {ρ : List Sl} {i : Nat}, ρ[i]? = some (.own v a o) → a ∈ owned ρ
  | [], _, e => by simp at e
  | .own b c es :: r, 0, e => by simp at e; obtain ⟨rfl, rfl, rfl⟩ := e; exact List.mem_cons_self
  | .unk :: r, 0, e => by simp at e
  | .imm _ :: r, 0, e => by simp at e
  | .unk :: r, i + 1, e => mem_owned (ρ := r) (i := i) (by simpa using e)
  | .imm _ :: r, i + 1, e => mem_owned (ρ := r) (i := i) (by simpa using e)
  | .own b c es :: r, i + 1, e => List.mem_cons_of_mem _ (mem_owned (ρ := r) (i := i) (by simpa using e))
/-- an own list is made a datum -/
theorem owned_freeze {v : Value} {a : Addr} {o : Ob} {d : Dt} : ∀ {ρ : List Sl} {i : Nat}, ρ[i]? = some (.own v a o) → (owned ρ).Nodup → a ∉ owned (ρ.set i (.imm d))
  | [], _, e, _ => by simp at e
  | .own b c es :: r, 0, e, h => by simp at e; obtain ⟨rfl, rfl, rfl⟩ := e; exact (List.nodup_cons.mp h).1
  | .unk :: r, 0, e, _ => by simp at e
  | .imm _ :: r, 0, e, _ => by simp at e
  | .unk :: r, i + 1, e, h => owned_freeze (ρ := r) (i := i) (by simpa using e) h
  | .imm _ :: r, i + 1, e, h => owned_freeze (ρ := r) (i := i) (by simpa using e) h
  | .own b c es :: r, i + 1, e, h => fun q => by
    have e1 : r[i]? = some (.own v a o) := by simpa using e
    have q' : a ∈ c :: owned (r.set i (.imm d)) := q
    rcases List.mem_cons.mp q' with q2 | q2
    · exact (List.nodup_cons.mp h).1 (q2 ▸ mem_owned e1)
    · exact owned_freeze (ρ := r) (i := i) e1 (List.nodup_cons.mp h).2 q2
noncomputable def Ob.dt : Ob → Option Dt
  | .list ds => some (.list ds)
  | .dict p w kvs => some (.dict p w kvs)
  | .abs _ _ => none
theorem ObAt.rp {X Y : List Addr} {h : Heap} {v : Value} {a : Addr} {d : Dt} (hs : ∀ a, a ∈ Y → a ∈ X) (ha : a ∉ Y) {o : Ob} (x : ObAt X h v a o) (q : o.dt = some d) : Rp Y h v d := by
  cases o with
  | list ds => obtain ⟨e, vs, x, r⟩ := x; cases q; subst e; exact .list ha x (r.same (.of_kp (.refl h)) hs)
  | dict p w kvs => obtain ⟨e, hm, kvs, x, r⟩ := x; cases q; subst e; exact .dict ha hm x r
  | abs l P => cases q
theorem Asr.freeze {h : Heap} {i : Nat} {x : Str} {v : Value} {a : Addr} {o : Ob} {d : Dt} (X : Asr F ρ h) (hx : F.names[i]? = some x) (hne : x ≠ "") (e : ρ[i]? = some (.own v a o)) (ed : o.dt = some d) : Asr F (ρ.set i (.imm d)) h := by
  have sub := owned_set d ρ i
  have subX : ∀ a, a ∈ F.X (ρ.set i (.imm d)) → a ∈ F.X ρ := fun a ha => (List.mem_append.mp ha).elim (fun q => List.mem_append_left _ q) fun q => List.mem_append_right _ (sub.subset q)
  have sm : Same (F.X ρ) h h := .of_kp (.refl h)
  refine ⟨X.stays, X.kept, X.frs, X.loc, X.cells, X.nodup.sublist sub, fun a ha => X.apart a (sub.subset ha), fun a ha => X.fresh a (sub.subset ha), fun a ha => X.dom a (subX a ha), .of_get fun j y sl e1 e2 => ?_, by rw [List.length_set]; exact X.len⟩
  by_cases hj : i = j
  · subst hj
    rw [List.getElem?_set] at e2
    simp only [if_true] at e2
    split at e2
    · cases e2
      obtain ⟨q1, q2, q3⟩ := X.sls.get e1 e
      rw [hx] at e1; cases e1
      exact ⟨v, q1.resolve_left hne, q2.rp subX (fun q => (List.mem_append.mp q).elim (X.apart a (mem_owned e)) (owned_freeze e X.nodup)) ed⟩
    · cases e2
  · rw [List.getElem?_set_ne hj] at e2
    have := X.sls.get e1 e2
    cases sl with
    | unk => trivial
    | imm d' => obtain ⟨u, a, b⟩ := this; exact ⟨u, a, b.same sm subX⟩
    | own v' a' o' => obtain ⟨a, b, c, d'⟩ := this; exact ⟨a, b.frame sm subX fun _ _ => rfl, c, fun b hb q => d' b hb (subX b q)⟩
theorem Stp.freeze {ρ' : List Sl} {h h' : Heap} {i : Nat} {d : Dt} (S : Stp F (ρ.set i (.imm d)) ρ' h h') : Stp F ρ ρ' h h' :=
  ⟨S.kept.mono fun b hb => hb.imp id fun q => (owned_set d ρ i).subset q, S.live, fun a ha => (S.own a ha).imp (fun q => (owned_set d ρ i).subset q) id⟩
theorem Ex.freeze {ss : List Stmt} {i : Nat} {x : Str} {v : Value} {a : Addr} {o : Ob} {d : Dt} (hx : F.names[i]? = some x) (hne : x ≠ "") (e : ρ[i]? = some (.own v a o)) (ed : o.dt = some d) (h : Ex F (ρ.set i (.imm d)) ss Φ Θ) : Ex F ρ ss Φ Θ :=
  fun s X Q E hq he => h s (X.freeze hx hne e ed) Q E (fun f h' tk' fl ρ' a b c S => hq f h' tk' fl ρ' a b c S.freeze) fun T e h' tk' ρ' a b c S => he T e h' tk' ρ' a b c S.freeze

/-- what is known of a name is let go -/
inductive Wk : List Sl → List Sl → Prop
  | nil : Wk [] []
  | keep {a : Sl} {r r' : List Sl} : Wk r r' → Wk (a :: r) (a :: r')
  | drop {a : Sl} {r r' : List Sl} : Wk r r' → Wk (a :: r) (.unk :: r')
theorem Wk.length {r r' : List Sl} (w : Wk r r') : r'.length = r.length := by
  induction w with
  | nil => rfl
  | keep _ ih => exact congrArg (· + 1) ih
  | drop _ ih => exact congrArg (· + 1) ih
theorem Wk.owned {r r' : List Sl} (w : Wk r r') : (owned r').Sublist (owned r) := by
  induction w with
  | nil => exact .refl _
  | @keep a _ _ _ ih => cases a with
    | own v a o => exact ih.cons_cons _
    | _ => exact ih
  | @drop a _ _ _ ih => cases a with
    | own v a o => exact ih.cons _
    | _ => exact ih
theorem Wk.get {r r' : List Sl} (w : Wk r r') : ∀ {i : Nat} {sl : Sl}, r'[i]? = some sl → sl = .unk ∨ r[i]? = some sl := by
  induction w with
  | nil => intro i sl e; simp at e
  | keep _ ih => intro i sl e; cases i with
    | zero => exact .inr (by simpa using e)
    | succ i => rcases ih (i := i) (by simpa using e) with q | q
                · exact .inl q
                · exact .inr (by simpa using q)
  | drop _ ih => intro i sl e; cases i with
    | zero => exact .inl (by simp only [List.getElem?_cons_zero, Option.some.injEq] at e; exact e.symm)
    | succ i => rcases ih (i := i) (by simpa using e) with q | q
                · exact .inl q
                · exact .inr (by simpa using q)
theorem Wk.refl : ∀ r : List Sl, Wk r r
  | [] => .nil
  | _ :: r => .keep (Wk.refl r)
theorem Asr.weak {ρ' : List Sl} {h : Heap} (X : Asr F ρ h) (w : Wk ρ ρ') : Asr F ρ' h := by
  have sub := w.owned
  have subX : ∀ a, a ∈ F.X ρ' → a ∈ F.X ρ := fun a ha => (List.mem_append.mp ha).elim (fun q => List.mem_append_left _ q) fun q => List.mem_append_right _ (sub.subset q)
  have sm : Same (F.X ρ) h h := .of_kp (.refl h)
  refine ⟨X.stays, X.kept, X.frs, X.loc, X.cells, X.nodup.sublist sub, fun a ha => X.apart a (sub.subset ha), fun a ha => X.fresh a (sub.subset ha), fun a ha => X.dom a (subX a ha), .of_get fun j y sl e1 e2 => ?_, w.length.trans X.len⟩
  rcases w.get e2 with q | q
  · subst q; trivial
  · have := X.sls.get e1 q
    cases sl with
    | unk => trivial
    | imm d' => obtain ⟨u, a, b⟩ := this; exact ⟨u, a, b.same sm subX⟩
    | own v' a' o' => obtain ⟨a, b, c, d'⟩ := this; exact ⟨a, b.frame sm subX fun _ _ => rfl, c, fun b hb q => d' b hb (subX b q)⟩
theorem Stp.weak {ρ' ρ₁ : List Sl} {h h' : Heap} (w : Wk ρ ρ') (S : Stp F ρ' ρ₁ h h') : Stp F ρ ρ₁ h h' :=
  ⟨S.kept.mono fun b hb => hb.imp id fun q => w.owned.subset q, S.live, fun a ha => (S.own a ha).imp (fun q => w.owned.subset q) id⟩
theorem Stp.weakR {ρ' ρ₁ : List Sl} {h h' : Heap} (w : Wk ρ₁ ρ') (S : Stp F ρ ρ₁ h h') : Stp F ρ ρ' h h' := ⟨S.kept, S.live, fun a ha => S.own a (w.owned.subset ha)⟩
theorem Ex.weak {ss : List Stmt} {ρ' : List Sl} (w : Wk ρ ρ') (h : Ex F ρ' ss Φ Θ) : Ex F ρ ss Φ Θ :=
  fun s X Q E hq he => h s (X.weak w) Q E (fun f h' tk' fl ρ' a b c S => hq f h' tk' fl ρ' a b c (S.weak w)) fun T e h' tk' ρ' a b c S => he T e h' tk' ρ' a b c (S.weak w)
end
end Mine
end

section
open PySem PySem.Calls PyProof.Rows PySem.W
namespace Mine

structure EnvIn (h₀ : Heap) (env : Env) (m cm : Str → Option Value) (h : Heap) : Prop where
  ns : h.Ns1 env.locals m
  frame : ∃ o, h.get? env.locals = some o ∧ o.cls = .type "frame"
  keep : ∀ b o, h₀.get? b = some o → h.get? b = some o
  cell : ∀ n c, env.cells.lookup n = some c → h.IsCell c (cm n)
  size : h₀.objs.size ≤ h.objs.size

theorem bind_in {M : Model} {A : Around} {E : Value → Shared → Prop} {h₀ : Heap} {env : Env} (hk : env.scope.kind = .function) (hL : h₀.objs.size ≤ env.locals) (hC : ∀ n c, (n, c) ∈ env.cells → env.locals < c)
    (hap : env.cells.Pairwise fun x y => x.2 ≠ y.2) (f : Str × Value → PUnit → Sem (ForInStep PUnit)) (hf : ∀ n v u, f (n, v) u = (do storeName env n v; pure (.yield ⟨⟩))) :
    ∀ (binds : List (Str × Value)) (m cm : Str → Option Value) (s : Shared) (Q : PUnit → Shared → Prop), EnvIn h₀ env m cm s.heap →
      (∀ x ∈ binds, env.kindOf x.1 = some .local ∨ (env.kindOf x.1 = some .cell ∧ (env.cells.lookup x.1).isSome = true)) →
      (∀ h' tk', EnvIn h₀ env (bindL env.kindOf binds m) (bindC env.kindOf binds cm) h' → Q ⟨⟩ { s with heap := h', toks := tk' }) → wpAny M A (forIn binds ⟨⟩ f) Q E s
  | [], m, cm, s, Q, x, _, h => by rw [List.forIn_nil]; exact wpAny_pure (h s.heap s.toks x)
  | (n, v) :: r, m, cm, s, Q, x, hkind, h => by
    rw [List.forIn_cons, hf]
    have hr : ∀ y ∈ r, env.kindOf y.1 = some .local ∨ (env.kindOf y.1 = some .cell ∧ (env.cells.lookup y.1).isSome = true) := fun y hy => hkind y (List.mem_cons_of_mem _ hy)
    rcases hkind (n, v) List.mem_cons_self with hl | ⟨hl, hc⟩
    · refine wpAny_bind (wpAny_bind ?_)
      rw [storeName_local hl (by rw [hk]; rfl)]
      refine wpAny_nsSet1EFk x.ns fun h' hn' hs hcl => wpAny_pure (bind_in hk hL hC hap f hf r _ _ _ _ (⟨hn', ?_, fun b o e => ?_, fun k c hc => ?_, ?_⟩ : EnvIn h₀ env _ cm h') hr fun h'' tk'' x'' => h h'' tk'' ?_)
      · obtain ⟨o, e, c⟩ := x.frame
        obtain ⟨o', e', c', _⟩ := hcl o e
        exact ⟨o', e', c'.trans c⟩
      · exact (hs.2 b (Nat.ne_of_lt (Nat.lt_of_lt_of_le (Heap.lt_size e) hL))).trans (x.keep b o e)
      · exact (x.cell k c hc).sameBut hs (Nat.ne_of_gt (hC k c (mem_of_lookup hc)))
      · show _ ≤ h'.objs.size
        rw [hs.1]; exact x.size
      · unfold bindL bindC; rw [if_pos hl, if_pos hl]; exact x''
    · obtain ⟨c, hc⟩ := Option.isSome_iff_exists.mp hc
      have hnl : ¬ env.kindOf n = some .local := by rw [hl]; decide
      refine wpAny_bind (wpAny_bind (wpAny_storeName_cell hk hl hc (x.cell n c hc) fun h' hv' hs => wpAny_pure (bind_in hk hL hC hap f hf r _ _ _ _ (⟨x.ns.sameBut hs (Nat.ne_of_lt (hC n c (mem_of_lookup hc))), ?_, fun b o e => ?_, fun k c' hc' => ?_, ?_⟩ : EnvIn h₀ env m (fun y => if y = n then some v else cm y) h') hr fun h'' tk'' x'' => h h'' tk'' ?_)))
      · obtain ⟨o, e, q⟩ := x.frame
        exact ⟨o, (hs.2 _ (Nat.ne_of_lt (hC n c (mem_of_lookup hc)))).trans e, q⟩
      · exact (hs.2 b (Nat.ne_of_lt (Nat.lt_trans (Nat.lt_of_lt_of_le (Heap.lt_size e) hL) (hC n c (mem_of_lookup hc))))).trans (x.keep b o e)
      · by_cases hkn : k = n
        · subst hkn; rw [hc] at hc'; cases hc'; simpa using hv'
        · rw [if_neg hkn]
          exact (x.cell k c' hc').sameBut hs fun q => hkn (name_of_addr hap (mem_of_lookup hc') (q ▸ mem_of_lookup hc))
      · show _ ≤ h'.objs.size
        rw [hs.1]; exact x.size
      · unfold bindL bindC; rw [if_neg hnl, if_neg hnl]; exact x''

theorem newEnv_in {M : Model} {A : Around} {E : Value → Shared → Prop} {s : Shared} {scope : Scope} {globals : Addr} {binds : List (Str × Value)} {qual : Str} {func : Option Addr} {code : Value} {builtins : Addr} {Q : Env → Shared → Prop} (hk : scope.kind = .function)
    (hkind : ∀ x ∈ binds, scope.names.lookup x.1 = some .local ∨ (scope.names.lookup x.1 = some .cell ∧ ((cellsFrom (s.heap.objs.size + 1) scope.names []).lookup x.1).isSome = true))
    (hQ : ∀ env h' tk', env = newEnv scope s.heap.objs.size globals (cellsFrom (s.heap.objs.size + 1) scope.names []) qual func code none builtins → (∀ n c, (n, c) ∈ env.cells → s.heap.objs.size < c) → (env.cells.Pairwise fun x y => x.2 ≠ y.2) →
      EnvIn s.heap env (bindL env.kindOf binds fun _ => none) (bindC env.kindOf binds fun _ => none) h' → Q env { s with heap := h', toks := tk' }) :
    wpAny M A (newFunctionEnv scope globals [] binds qual func code none builtins) Q E s := by
  simp only [newFunctionEnv, Option.isSome_none, Bool.false_eq_true, if_false]
  refine wpAny_bind (wpAny_alloc ?_)
  refine wpAny_bind (wpAny_layCells _ (fun name kind cells => by cases hkc : kind == NameKind.cell <;> simp [hkc]) _ _ _ _ ?_)
  have ok := cellsFrom_ok scope.names (s.heap.push { cls := .type "frame", data := .dict #[] }) (s.heap.objs.size + 1) [] ⟨fun _ _ hm => (nomatch hm), List.Pairwise.nil⟩ (by rw [Heap.size_push]; exact Nat.le_refl _)
  rw [Heap.size_push] at ok
  rw [show ({ s with heap := s.heap.push { cls := .type "frame", data := .dict #[] } } : Shared).heap.objs.size = s.heap.objs.size + 1 from Heap.size_push ..]
  have hC : ∀ n c, (n, c) ∈ cellsFrom (s.heap.objs.size + 1) scope.names [] → s.heap.objs.size < c := fun n c hm => (ok.empty n c hm).2
  have kp := pushCells_keeps scope.names (s.heap.push { cls := .type "frame", data := .dict #[] })
  have hfr := kp _ _ (Heap.get?_push_size s.heap (o := { cls := .type "frame", data := .dict #[] }) rfl)
  refine wpAny_bind (bind_in (h₀ := s.heap) (env := newEnv scope s.heap.objs.size globals (cellsFrom (s.heap.objs.size + 1) scope.names []) qual func code none builtins) hk (Nat.le_refl _) hC ok.apart
    _ (fun _ _ _ => rfl) binds (fun _ => none) (fun _ => none) _ _ ⟨(Heap.Ns.new s.heap (.type "frame")).keeps kp |> Heap.Ns1.of_empty, ⟨_, hfr, rfl⟩, fun b o e => kp _ _ (Heap.get?_push_of_some _ e), fun n c hc => (ok.empty n c (mem_of_lookup hc)).1, ?_⟩ hkind fun h' tk' x => wpAny_pure (hQ _ h' tk' rfl hC ok.apart x))
  exact Nat.le_of_lt (Heap.lt_size hfr)

/-- the def's object -/
structure DefAt (G : GC) (f : Addr) (fd : FuncData) (body : List Stmt) : Prop where
  obj : ∃ o, G.B.get? f = some o ∧ o.data = .func fd
  body : fd.body = .stmts body
  closure : fd.closure = []
  globs : fd.globals = mainGlobals
  builtins : fd.builtins = builtinsNs
  code : G.B.CodeRec fd.code fd.qualname
  kind : fd.scope.kind = .function
  co : fd.scope.isCoroutine = false
  gen : fd.scope.isGenerator = false

theorem owned_imm (ds : List Dt) : owned (ds.map Sl.imm) = [] := by
  induction ds with
  | nil => rfl
  | cons d r ih => exact ih
theorem owned_append : ∀ (ρ σ : List Sl), owned (ρ ++ σ) = owned ρ ++ owned σ
  | [], _ => rfl
  | .unk :: r, σ => owned_append r σ
  | .imm _ :: r, σ => owned_append r σ
  | .own _ a _ :: r, σ => congrArg (a :: ·) (owned_append r σ)
theorem owned_unk (k : Nat) : owned (List.replicate k Sl.unk) = [] := by
  induction k with
  | zero => rfl
  | succ k ih => exact ih
theorem owned_take (ρ : List Sl) (k : Nat) : (owned (ρ.take k)).Sublist (owned ρ) := by
  have := owned_append (ρ.take k) (ρ.drop k)
  rw [List.take_append_drop] at this
  rw [this]; exact List.sublist_append_left _ _
theorem mem_owned_iff {a : Addr} : ∀ {ρ : List Sl}, a ∈ owned ρ → ∃ v o, .own v a o ∈ ρ
  | .unk :: r, h => let ⟨v, o, q⟩ := mem_owned_iff (ρ := r) h; ⟨v, o, .tail _ q⟩
  | .imm _ :: r, h => let ⟨v, o, q⟩ := mem_owned_iff (ρ := r) h; ⟨v, o, .tail _ q⟩
  | .own v b o :: r, h => by
    rcases List.mem_cons.mp (show a ∈ b :: owned r from h) with rfl | q
    · exact ⟨v, o, .head _⟩
    · obtain ⟨v, o, q⟩ := mem_owned_iff (ρ := r) q; exact ⟨v, o, .tail _ q⟩
/-- a value that a slot speaks of -/
noncomputable def SlV (X : List Addr) (h : Heap) (v : Value) : Sl → Prop
  | .unk => False
  | .imm d => Rp X h v d
  | .own v' a o => v' = v ∧ ObAt X h v a o ∧ ∀ b ∈ o.sup, b ∉ X
inductive SlVs (X : List Addr) (h : Heap) : List Value → List Sl → Prop
  | nil : SlVs X h [] []
  | cons {v : Value} {vs : List Value} {sl : Sl} {r : List Sl} : SlV X h v sl → SlVs X h vs r → SlVs X h (v :: vs) (sl :: r)
theorem SlV.kp {X : List Addr} {h h' : Heap} {v : Value} (k : Kp h h') : ∀ {sl : Sl}, SlV X h v sl → SlV X h' v sl
  | .imm _, x => Rp.kp x k
  | .own _ _ _, ⟨e, x, y⟩ => ⟨e, x.kp k, y⟩
theorem SlVs.length {X : List Addr} {h : Heap} {vs : List Value} {r : List Sl} (x : SlVs X h vs r) : vs.length = r.length := by
  induction x with
  | nil => rfl
  | cons _ _ ih => exact congrArg (· + 1) ih
theorem SlVs.get {X : List Addr} {h : Heap} {vs : List Value} {r : List Sl} (x : SlVs X h vs r) : ∀ {i : Nat} {sl : Sl}, r[i]? = some sl → ∃ v, vs[i]? = some v ∧ SlV X h v sl := by
  induction x with
  | nil => intro i sl e; simp at e
  | cons a _ ih =>
    intro i sl e
    cases i with
    | zero => simp only [List.getElem?_cons_zero, Option.some.injEq] at e; subst e; exact ⟨_, rfl, a⟩
    | succ i => obtain ⟨v, q, r⟩ := ih (i := i) (by simpa using e); exact ⟨v, by simpa using q, r⟩
theorem SlVs.of_rp {X : List Addr} {h : Heap} : ∀ {vs : List Value} {ds : List Dt}, RpL X h vs ds → SlVs X h vs (ds.map .imm)
  | _, _, .nil => .nil
  | _, _, .cons a b => .cons a (SlVs.of_rp b)

/-- the frame's start: the parameters, then what is not set yet -/
noncomputable def start (ps : List Sl) (k : Nat) : List Sl := ps ++ List.replicate k Sl.unk
theorem owned_start (ps : List Sl) (k : Nat) : owned (start ps k) = owned ps := by
  unfold start
  rw [owned_append, owned_unk, List.append_nil]

/-- a call gives the datum, and turns what it was handed to change -/
noncomputable def CallC (G : GC) (A : Around) (f : Value) (ps : List Sl) (Φ : Dt → List Sl → Prop) : Prop :=
  ∀ X0 s vs, In G s.heap → FramesOK A G.B s.heap → Dom (X0 ++ owned ps) s.heap → (owned ps).Nodup → (∀ a ∈ owned ps, a ∉ X0 ∧ G.B.get? a = none) → SlVs (X0 ++ owned ps) s.heap vs ps →
    ∀ (Q : Value → Shared → Prop) (E : Value → Shared → Prop), (∀ v d h' tk' ps', Φ d ps' → In G h' → KpBut (· ∈ owned ps) s.heap h' → (∀ a ∈ owned ps, ∃ o, h'.get? a = some o) → (∀ a ∈ owned ps', a ∈ owned ps ∨ s.heap.get? a = none) → Rp (X0 ++ owned ps') h' v d →
      (∀ v a o, .own v a o ∈ ps' → ObAt (X0 ++ owned ps') h' v a o) → Q v { s with heap := h', toks := tk' }) → wpAny (model G.prog G.w) A (call f vs) Q E s
noncomputable def FnC (G : GC) (n : Nat) (f : Value) (ps : List Sl) (Φ : Dt → List Sl → Prop) : Prop := ∀ A : Around, A.handled = none → A.depth + n < recursionLimit → A.units + 8 * n < cLine → CallC G A f ps Φ
/-- a call of the def gives the datum: with room for n frames -/
noncomputable def FnOK (G : GC) (n : Nat) (f : Value) (ds : List Dt) (d : Dt) : Prop := ∀ A : Around, A.handled = none → A.depth + n < recursionLimit → A.units + 8 * n < cLine → CallOK G A f ds d
theorem FnOK.use {F : FC} {m n : Nat} {f : Value} {ds : List Dt} {d : Dt} (h : FnOK F.G m f ds d) (hF : F.Ok n) (hmn : m ≤ n) (hq0 : F.hd = false := by rfl) : CallOK F.G F.A f ds d := h F.A (hF.hand hq0) (by have := hF.depth; lia) (by have := hF.units; lia)
theorem FnC.use {F : FC} {m n : Nat} {f : Value} {ps : List Sl} {Φ : Dt → List Sl → Prop} (h : FnC F.G m f ps Φ) (hF : F.Ok n) (hmn : m ≤ n) (hq0 : F.hd = false := by rfl) : CallC F.G F.A f ps Φ := h F.A (hF.hand hq0) (by have := hF.depth; lia) (by have := hF.units; lia)
theorem FnC.plain {G : GC} {n : Nat} {f : Value} {ds : List Dt} {d : Dt} (h : FnC G n f (ds.map .imm) fun d' _ => d' = d) : FnOK G n f ds d := by
  intro A a b c X s vs i fr dom hvs Q E hq
  refine h A a b c X s vs i fr (by rw [owned_imm, List.append_nil]; exact dom) (by rw [owned_imm]; exact .nil) (fun a ha => (by rw [owned_imm] at ha; cases ha)) (.of_rp (by rw [owned_imm, List.append_nil]; exact hvs)) Q E fun v d' h' tk' ps' e i' k _ _ r _ => ?_
  subst e
  rw [owned_imm] at k
  exact hq v h' tk' ⟨fun b o e => k b o (by simp) e, i'⟩ (r.same (.of_kp (.refl _)) fun a ha => List.mem_append_left _ ha)

/-- the static part of a frame: what its scope says of the names -/
structure Names (G : GC) (scope : Scope) (names : List Str) (own : Nat) (gls : List (Str × Value)) : Prop where
  nodup : names.Nodup
  nodebug : ∀ x ∈ names, (x == ("__debug__" : Str)) = false
  sets : ∀ (i : Nat) (x : Str), names[i]? = some x → i < own → scope.names.lookup x = some .local ∨ (scope.names.lookup x = some .cell ∧ ∀ n, ((cellsFrom n scope.names []).lookup x).isSome = true)
  gls : ∀ p ∈ gls, scope.names.lookup p.1 = some .globalImplicit ∧ GName G p.1 p.2 ∧ Road G p.2 ∧ (p.1 == ("__debug__" : Str)) = false

/-- the binding of the arguments -/
noncomputable def Binds (G : GC) (fd : FuncData) (pn : List Str) (ps qs : List Sl) : Prop := ∀ (A : Around) X s vs, In G s.heap → Dom X s.heap → SlVs X s.heap vs ps → ∀ (Q : List (Str × Value) → Shared → Prop) (E : Value → Shared → Prop),
  (∀ ws h' tk', Grow G s.heap h' → SlVs X h' ws qs → Q (pn.zip ws) { s with heap := h', toks := tk' }) → wpAny (model G.prog G.w) A (bindArgs fd ⟨vs, []⟩) Q E s
theorem Binds.pure {G : GC} {fd : FuncData} {pn : List Str} {ps : List Sl} (h : ∀ vs, vs.length = ps.length → bindArgs fd ⟨vs, []⟩ = Pure.pure (pn.zip vs)) : Binds G fd pn ps ps := fun A X s vs i _ hv Q E hq => by
  rw [h vs hv.length]; exact wpAny_pure (hq vs s.heap s.toks (.refl i) hv)

theorem Fn.enter {G : GC} {f : Addr} {fd : FuncData} {body : List Stmt} {n k own : Nat} {pn names : List Str} {gls : List (Str × Value)} {ps qs : List Sl} (D : DefAt G f fd body) (N : Names G fd.scope names own gls) (hlim : G.B.NoLimit)
    (hpn : names.take pn.length = pn) (hpl : pn.length = qs.length) (hpo : pn.length ≤ own) (hpq : owned qs = owned ps) (hlen : qs.length + k = names.length)
    (hbind : Binds G fd pn ps qs) {A : Around} (hA : A.handled = none) (hd : A.depth + (n + 1) < recursionLimit) (hu : A.units + 8 * (n + 1) < cLine) {X : List Addr} {s : Shared} {vs : List Value}
    (st : In G s.heap) (fr : FramesOK A G.B s.heap) (dom : Dom (X ++ owned ps) s.heap) (hnd : (owned ps).Nodup) (hap : ∀ a ∈ owned ps, a ∉ X ∧ G.B.get? a = none) (hvs : SlVs (X ++ owned ps) s.heap vs ps) {R : Result → Shared → Prop}
    (hbody : ∀ (env : Env) (h1 : Heap) (tk1 : Nat), (FC.mk G (A.deeper env) env names own gls fd.scope s.heap (owned ps) X).Ok n → Asr (FC.mk G (A.deeper env) env names own gls fd.scope s.heap (owned ps) X) (start qs k) h1 → env.code = fd.code → env.qual = fd.qualname ++ ".<locals>." →
      wpAny (model G.prog G.w) (A.deeper env) (execs body env) (fun fl s' => R (.ok (.ret (match fl with | .ret v => v | _ => .none))) s') (fun _ _ => False) { s with heap := h1, toks := tk1 }) :
    codeAny (model G.prog G.w) A (.call (.ref f) ⟨vs, []⟩) R s := by
  obtain ⟨o, ho, hod⟩ := D.obj
  refine codeAny_call_function (by lia) (st.stays _ _ ho) hod D.co D.gen D.body (D.code.keeps st.stays) ?_
  rw [D.closure]
  refine hbind _ _ s vs st dom hvs _ _ fun ws hb tkb gb hws => ?_
  have nb0 : ∀ b, s.heap.get? b = none → G.B.get? b = none := fun b e => by
    cases q : G.B.get? b with
    | none => rfl
    | some o => rw [st.stays b o q] at e; cases e
  refine newEnv_in (s := { s with heap := hb, toks := tkb }) D.kind (fun x hx => ?_) fun env h1 tk1 he hC hap' I => ?_
  · have hx' : x.1 ∈ pn := (List.of_mem_zip (a := x.1) (b := x.2) hx).1
    obtain ⟨i, e⟩ := List.mem_iff_getElem?.mp hx'
    have hil := (List.getElem?_eq_some_iff.mp e).1
    have e' := congrArg (fun l => l[i]?) hpn
    rw [e, List.getElem?_take, if_pos hil] at e'
    have this : names[i]? = some x.1 := e'
    exact (N.sets i x.1 this (by lia)).imp id fun q => ⟨q.1, q.2 _⟩
  subst he
  dsimp only at hC I ⊢
  have In1 : In G h1 := gb.stays.keep I.keep
  have Kp1 : Kp s.heap h1 := gb.kp.trans (.of_keep I.keep)
  refine ⟨(hlim.keeps In1.stays), codeAny_func ?_⟩
  obtain ⟨fs, hfs, hff, hfd⟩ := fr.kp Kp1
  have hL : ∀ b, hb.objs.size ≤ b → s.heap.get? b = none := fun b e => gb.kp.none (Heap.get?_none_of_le e)
  have hXd : Dom (X ++ owned ps) h1 := dom.kp Kp1
  generalize henv : newEnv fd.scope hb.objs.size fd.globals (cellsFrom (hb.objs.size + 1) fd.scope.names []) (fd.qualname ++ ".<locals>.") (some f) fd.code none fd.builtins = env at *
  have e1 : env.scope = fd.scope := by rw [← henv]; rfl
  have e2 : env.locals = hb.objs.size := by rw [← henv]; rfl
  have e3 : env.cells = cellsFrom (hb.objs.size + 1) fd.scope.names [] := by rw [← henv]; rfl
  have e4 : env.globals = mainGlobals := by rw [← henv]; exact D.globs
  have e5 : env.builtins = builtinsNs := by rw [← henv]; exact D.builtins
  have e7 : env.code = fd.code := by rw [← henv]; rfl
  have e8 : env.qual = fd.qualname ++ ".<locals>." := by rw [← henv]; rfl
  have e6 : env.frame = some hb.objs.size := by rw [← henv]; rfl
  have ek : ∀ x, env.kindOf x = fd.scope.names.lookup x := fun x => by rw [← henv]; rfl
  have hok : (FC.mk G (A.deeper env) env names own gls fd.scope s.heap (owned ps) X).Ok n := by
    refine ⟨e1, e1 ▸ D.kind, e4, e5, fun _ => hA, ?_, ?_, hlim, N.nodup, N.nodebug, ?_, ?_, fun x c _ q2 => ?_, fun x hx => ?_, fun x y c q1 q2 => ?_, fun i x q1 q2 => ?_, fun p hp => ?_, env, fs, hb.objs.size, Around.frames_deeper hfs, rfl, e6⟩
    · show A.depth + 1 + n < _; lia
    · show A.units + 3 + 8 * n < _; lia
    · show G.B.get? env.locals = none; rw [e2]; exact nb0 _ (hL _ (Nat.le_refl _))
    · refine .inl ?_; show s.heap.get? env.locals = none; rw [e2]; exact hL _ (Nat.le_refl _)
    · have := hC x c (mem_of_lookup q2)
      have q : s.heap.get? c = none := hL c (Nat.le_of_lt this)
      exact ⟨nb0 _ q, .inl q⟩
    · show (env.cells.lookup x).isSome = true
      rw [e3]; exact cellsFrom_some _ _ _ (.inl ((ek x).symm.trans hx))
    · exact name_of_addr hap' (mem_of_lookup q1) (mem_of_lookup q2)
    · show _ ∨ _
      rw [show (FC.mk G (A.deeper env) env names own gls fd.scope s.heap (owned ps) X).env.kindOf x = fd.scope.names.lookup x from ek x]
      refine (N.sets i x q1 q2).imp id fun q => ⟨q.1, ?_⟩
      show (env.cells.lookup x).isSome = true
      rw [e3]; exact q.2 _
    · obtain ⟨a, b, c, d⟩ := N.gls p hp
      exact ⟨(ek p.1).trans a, b, c, d⟩
  have hbc : ∀ (i : Nat) (x : Str) (v : Value), pn[i]? = some x → ws[i]? = some v → Has (FC.mk G (A.deeper env) env names own gls fd.scope s.heap (owned ps) X) h1 x v := by
    intro i x v hx hv
    have hnd : pn.Nodup := hpn ▸ N.nodup.sublist (List.take_sublist _ _)
    have hil : i < pn.length := (List.getElem?_eq_some_iff.mp hx).1
    have hxi : names[i]? = some x := by
      have e' := congrArg (fun l => l[i]?) hpn
      rw [hx, List.getElem?_take, if_pos hil] at e'
      exact e'
    have key : ∀ (l : List (Str × Value)) (m cm : Str → Option Value), (l.map (·.1)).Nodup → (x, v) ∈ l → (env.kindOf x = some .local → bindL env.kindOf l m x = some v) ∧ (¬ env.kindOf x = some .local → bindC env.kindOf l cm x = some v) := by
      intro l
      induction l with
      | nil => intro _ _ _ h; cases h
      | cons p r ih =>
        obtain ⟨a, b⟩ := p
        intro m cm nd h
        have nd' := List.nodup_cons.mp nd
        unfold bindL bindC
        rcases List.mem_cons.mp h with q | q
        · cases q
          have keep : ∀ (l : List (Str × Value)) (m cm : Str → Option Value), x ∉ l.map (·.1) → bindL env.kindOf l m x = m x ∧ bindC env.kindOf l cm x = cm x := by
            intro l
            induction l with
            | nil => intro m cm _; exact ⟨rfl, rfl⟩
            | cons p r ih =>
              obtain ⟨a, b⟩ := p
              intro m cm hn
              have hn' : x ≠ a ∧ x ∉ r.map (·.1) := by simpa [not_or] using hn
              unfold bindL bindC
              obtain ⟨k1, k2⟩ := ih (if env.kindOf a = some .local then fun y => if y = a then some b else m y else m) (if env.kindOf a = some .local then cm else fun y => if y = a then some b else cm y) hn'.2
              rw [k1, k2]
              constructor <;> split <;> simp [hn'.1]
          obtain ⟨k1, k2⟩ := keep r (if env.kindOf x = some .local then fun y => if y = x then some v else m y else m) (if env.kindOf x = some .local then cm else fun y => if y = x then some v else cm y) nd'.1
          exact ⟨fun e => by rw [k1, if_pos e]; simp, fun e => by rw [k2, if_neg e]; simp⟩
        · exact ih _ _ nd'.2 q
    have hmem : (x, v) ∈ pn.zip ws := List.mem_of_getElem? (i := i) (by rw [List.getElem?_zip_eq_some]; exact ⟨hx, hv⟩)
    have hzn : ((pn.zip ws).map (·.1)).Nodup := by rw [List.map_fst_zip (by have := hws.length; lia)]; exact hnd
    obtain ⟨k1, k2⟩ := key (pn.zip ws) (fun _ => none) (fun _ => none) hzn hmem
    rcases N.sets i x hxi (by lia) with q | ⟨q, q'⟩
    · have q2 : env.kindOf x = some .local := (ek x).trans q
      exact .inl ⟨q2, _, I.ns.ns, k1 q2⟩
    · have q2 : env.kindOf x = some .cell := (ek x).trans q
      obtain ⟨c, hc⟩ := Option.isSome_iff_exists.mp (q' (hb.objs.size + 1))
      rw [← e3] at hc
      refine .inr ⟨.inl q2, c, hc, ?_⟩
      have := I.cell x c hc
      rw [k2 (by rw [q2]; decide)] at this
      exact this
  have v0new : ∀ b, (FC.mk G (A.deeper env) env names own gls fd.scope s.heap (owned ps) X).vol0 b → hb.objs.size ≤ b := by
    rintro b (q | ⟨_, x, _, _, _, q⟩)
    · rw [q]; exact Nat.le_of_eq e2.symm
    · exact Nat.le_of_lt (hC x b (mem_of_lookup q))
  have X1 : Asr (FC.mk G (A.deeper env) env names own gls fd.scope s.heap (owned ps) X) (start qs k) h1 := by
    obtain ⟨fo, ho1, hc1⟩ := I.frame
    obtain ⟨o2, es, ep, ho2, hd2, _⟩ := I.ns
    rw [ho1] at ho2; cases ho2
    have hfr : s.heap.get? hb.objs.size = none := hL _ (Nat.le_refl _)
    refine ⟨In1, Kp1.but, ⟨env :: fs, Around.frames_deeper hfs, ?_, ?_⟩, ⟨_, I.ns, fo, ho1, .inl ⟨hc1, fun q => by
      obtain ⟨o, e⟩ := dom _ (List.mem_append_left _ q)
      rw [show (FC.mk G (A.deeper env) env names own gls fd.scope s.heap (owned ps) X).env.locals = hb.objs.size from e2, hfr] at e; cases e⟩⟩, fun x c q1 q2 => ⟨_, I.cell x c q2⟩, by rw [owned_start, hpq]; exact hnd, fun a ha => (by rw [owned_start, hpq] at ha; exact (hap a ha).1), fun a ha => (by rw [owned_start, hpq] at ha; exact ⟨(hap a ha).2, .inr ha⟩), ?_, .of_get fun i x sl hx hsl => ?_, by unfold start; rw [List.length_append, List.length_replicate]; exact hlen⟩
    · exact ⟨by rw [e1, D.kind]; decide, ⟨_, fo, e6, nb0 _ hfr, by rw [← e2]; exact ho1, fun vs q => by rw [hd2] at q; cases q⟩, hff⟩
    · intro b hb'
      rw [List.filterMap_cons, e6] at hb'
      rcases List.mem_cons.mp hb' with q | q
      · subst q; exact ⟨fo, es, ep, by rw [← e2]; exact ho1, hc1, hd2⟩
      · exact hfd b q
    · intro a ha
      rw [FC.X, owned_start, hpq] at ha
      exact hXd a ha
    · rw [FC.X, owned_start, hpq]
      unfold start at hsl
      by_cases hi : i < qs.length
      · rw [List.getElem?_append_left hi] at hsl
        obtain ⟨v, hv, hr⟩ := hws.get hsl
        have hh := hbc i x v (by rw [← hpn, List.getElem?_take, if_pos (by lia)]; exact hx) hv
        have hr1 := hr.kp (.of_keep I.keep)
        cases sl with
        | unk => trivial
        | imm d => exact ⟨v, hh, hr1⟩
        | own v' a o =>
          obtain ⟨rfl, q1, q2⟩ := hr1
          refine ⟨.inr hh, q1, fun b hbm q => ?_, q2⟩
          obtain ⟨ob, e, _⟩ := hr.2.1.there b hbm
          exact absurd (Heap.lt_size e) (Nat.not_lt.mpr (v0new b q))
      · rw [List.getElem?_append_right (by simpa using hi)] at hsl
        have : sl = .unk := by
          rw [List.getElem?_replicate] at hsl
          split at hsl
          · exact (Option.some.inj hsl).symm
          · cases hsl
        subst this; trivial
  exact wpAny_mono (hbody env h1 tk1 hok X1 e7 e8) (fun _ _ q => q) fun _ _ q => q.elim
theorem Fn.def {G : GC} {f : Addr} {fd : FuncData} {body : List Stmt} {n k own : Nat} {pn names : List Str} {gls : List (Str × Value)} {ps qs : List Sl} {Φ : Dt → List Sl → Prop} (D : DefAt G f fd body) (N : Names G fd.scope names own gls) (hlim : G.B.NoLimit)
    (hpn : names.take pn.length = pn) (hpl : pn.length = qs.length) (hpo : pn.length ≤ own) (hpq : owned qs = owned ps) (hlen : qs.length + k = names.length)
    (hbind : Binds G fd pn ps qs)
    (hbody : ∀ (A : Around) (env : Env) (h0 : Heap) (X0 : List Addr), (FC.mk G A env names own gls fd.scope h0 (owned ps) X0).Ok n → Ex (FC.mk G A env names own gls fd.scope h0 (owned ps) X0) (start qs k) body fun fl ρ' => ∃ d, fl = .ret d ∧ Φ d (ρ'.take qs.length)) : FnC G (n + 1) (.ref f) ps Φ := by
  intro A hA hd hu X s vs st fr dom hnd hap hvs Q E hq
  refine wpAny_call (Fn.enter (R := fun r s' => match r with | .ok (.ret v) => Q v s' | .ok _ => False | .error e => E e s') D N hlim hpn hpl hpo hpq hlen hbind hA hd hu st fr dom hnd hap hvs fun env h1 tk1 hok X1 _ _ => ?_)
  refine wpAny_mono (hbody (A.deeper env) env s.heap X hok { s with heap := h1, toks := tk1 } X1 (fun fl s' => Q (match fl with | .ret v => v | _ => .none) s') (fun _ _ => False) ?_ fun _ _ _ _ _ q => q.elim) (fun _ _ q => q) fun _ _ q => q.elim
  intro fl h2 tk2 fl' ρ' hΦ X2 hfl S2
  obtain ⟨d, rfl, hΦ⟩ := hΦ
  cases fl <;> try exact hfl.elim
  rename_i v
  have sub : ∀ a, a ∈ X ++ owned (ρ'.take qs.length) → a ∈ (FC.mk G (A.deeper env) env names own gls fd.scope s.heap (owned ps) X).X ρ' := fun a ha => List.mem_append.mpr ((List.mem_append.mp ha).imp id fun q => (owned_take _ _).subset q)
  refine hq v d h2 tk2 _ hΦ X2.stays X2.kept (fun a ha => ?_) (fun a ha => ?_) (Rp.same (.of_kp (.refl _)) sub hfl) fun v a o hm => ?_
  · obtain ⟨o, e⟩ := X1.dom a (List.mem_append_right _ (by rw [owned_start, hpq]; exact ha))
    exact S2.live a o e
  · rcases X2.fresh a ((owned_take _ _).subset ha) with ⟨_, q | q⟩
    · exact .inr q
    · exact .inl q
  · obtain ⟨i, e⟩ := List.mem_iff_getElem?.mp hm
    have hil := (List.getElem?_eq_some_iff.mp e).1
    rw [List.length_take] at hil
    rw [List.getElem?_take, if_pos (by lia)] at e
    have hnl : i < names.length := by
      have := congrArg List.length hpn
      rw [List.length_take] at this
      lia
    have := X2.sls.get (List.getElem?_eq_getElem hnl) e
    exact this.2.1.frame (.of_kp (.refl _)) sub fun _ _ => rfl

theorem Asr.ob {F : FC} {ρ : List Sl} {h : Heap} (X : Asr F ρ h) {v : Value} {a : Addr} {o : Ob} (hm : Sl.own v a o ∈ ρ) : ObAt (F.X ρ) h v a o ∧ (∀ b ∈ a :: o.sup, ¬ F.vol0 b) ∧ ∀ b ∈ o.sup, b ∉ F.X ρ := by
  obtain ⟨i, e⟩ := List.mem_iff_getElem?.mp hm
  have hi : i < F.names.length := X.len ▸ (List.getElem?_eq_some_iff.mp e).1
  exact (X.sls.get (List.getElem?_eq_getElem hi) e).2
theorem Asr.own_plain {F : FC} {ρ : List Sl} {h : Heap} (X : Asr F ρ h) {a : Addr} (ha : a ∈ owned ρ) : ∃ ob, h.get? a = some ob ∧ Plain ob ∧ ¬ Neut ob ∧ ob.cls ≠ .type "tuple" := by
  obtain ⟨v, o, hm⟩ := mem_owned_iff ha
  exact (X.ob hm).1.plain
/-- what is no datum and no iterator -/
theorem Asr.vol0_not {F : FC} {ρ : List Sl} {h : Heap} (X : Asr F ρ h) {b : Addr} (hb : F.vol0 b) {o : Obj} (e : h.get? b = some o) : ¬ Bears (F.X ρ) b o ∧ ¬ Neut o := by
  rcases hb with rfl | ⟨_, x, _, _, k, l⟩
  · obtain ⟨m, ⟨o1, es, ep, e1, hd, _⟩, fo, e2, hc⟩ := X.loc
    rw [e] at e1 e2; cases e1; cases e2
    exact ⟨loc_not_bears hc, fun ⟨_, _, _, _, q, _⟩ => by rw [hd] at q; cases q⟩
  · obtain ⟨v, hv⟩ := X.cells x b k l
    refine ⟨cell_not_bears hv o e, fun ⟨_, _, _, _, q, _⟩ => ?_⟩
    obtain ⟨o1, e1, hd⟩ := hv
    rw [e] at e1; cases e1; rw [hd] at q; cases q
theorem Stp.same {F : FC} {ρ ρ' : List Sl} {h h' : Heap} (X : Asr F ρ h) (S : Stp F ρ ρ' h h') : Same (F.X ρ) h h' := fun a o e q => by
  refine S.kept.same (fun q' => ?_) e q.plain
  rcases q' with q' | q'
  · exact (X.vol0_not q' e).1 q
  · obtain ⟨ob, e', _, _, nt⟩ := X.own_plain q'
    rw [e] at e'; cases e'
    have ha : a ∈ F.X ρ := List.mem_append_right _ q'
    rcases q with ⟨_, _, _, q | q⟩ | q
    · exact nt q
    · exact q.1 ha
    · exact q.1 ha
end Mine
end

section
open PySem PySem.Calls PyProof.Rows PySem.W
namespace Mine

/-! operators and built-ins over data -/
section
variable {G : GC} {A : Around} {X : List Addr} {s : Shared} {t : Sem Value} {d : Dt}
/-- the tree ends in the same heap -/
theorem gives_here {v : Value} {d : Dt} {s : Shared} {tk : Nat} {Q : Value → Shared → Prop} (st : In G s.heap) (hr : Rp X s.heap v d) (hq : ∀ v h' tk', Grow G s.heap h' → Rp X h' v d → Q v { s with heap := h', toks := tk' }) : Q v { s with toks := tk } := hq v s.heap tk (.refl st) hr
/-- .. with one object more -/
theorem gives_new {v : Value} {d : Dt} {s : Shared} {o : Obj} {tk : Nat} {Q : Value → Shared → Prop} (st : In G s.heap) (hr : Rp X (s.heap.push o) v d) (hq : ∀ v h' tk', Grow G s.heap h' → Rp X h' v d → Q v { s with heap := h', toks := tk' }) : Q v { s with heap := s.heap.push o, toks := tk } := hq v _ tk (.push st o) hr
end

section
variable {G : GC} {A : Around}

theorem bin_add_int (a b : Int) : BinOK G A .Add (.int a) (.int b) (.int (a + b)) := fun _ _ _ _ st _ h1 h2 _ _ hq => by obtain ⟨_, rfl⟩ := h1.int'; obtain ⟨_, rfl⟩ := h2.int'; exact add_int (gives_here st (.int _ _) hq)
theorem bin_mod_int (a b : Int) (hb : b ≠ 0) : BinOK G A .Mod (.int a) (.int b) (.int (a.fmod b)) := fun _ _ _ _ st _ h1 h2 _ _ hq => by obtain ⟨_, rfl⟩ := h1.int'; obtain ⟨_, rfl⟩ := h2.int'; exact mod_int' hb (gives_here st (.int _ _) hq)
theorem bin_floordiv_int (a b : Int) (hb : b ≠ 0) (hp : Builtin.divisionGoesByPylong a b = false) : BinOK G A .FloorDiv (.int a) (.int b) (.int (a.fdiv b)) := fun _ _ _ _ st _ h1 h2 _ _ hq => by obtain ⟨_, rfl⟩ := h1.int'; obtain ⟨_, rfl⟩ := h2.int'; exact floordiv_int hb (gives_here st (.int _ _) hq) (.inl hp)
theorem bin_pow_int (a b : Int) (h0 : 0 ≤ b) (hs : ↑(Builtin.Int.intBits a) * b ≤ 2 ^ 27) : BinOK G A .Pow (.int a) (.int b) (.int (a ^ b.toNat)) := fun _ _ _ _ st _ h1 h2 _ _ hq => by obtain ⟨_, rfl⟩ := h1.int'; obtain ⟨_, rfl⟩ := h2.int'; exact pow_int h0 hs (gives_here st (.int _ _) hq)
theorem bin_add_str (x y : Str) (hs : x.length + y.length ≤ sizeLine) : BinOK G A .Add (.str x) (.str y) (.str (x ++ y)) := fun _ _ _ _ st _ h1 h2 _ _ hq => by obtain ⟨_, rfl⟩ := h1.str'; obtain ⟨_, rfl⟩ := h2.str'; exact add_str (fun _ _ => gives_here st (.str _ _) hq) hs
theorem bin_mul_str (x : Str) (n : Int) (hs : MulOk x n) : BinOK G A .Mult (.str x) (.int n) (.str (Txt.mul x n)) := fun _ _ _ _ st _ h1 h2 _ _ hq => by obtain ⟨_, rfl⟩ := h1.str'; obtain ⟨_, rfl⟩ := h2.int'; exact SB.mul hs (fun _ _ => gives_here st (.str _ _) hq)
theorem bin_add_list (l m : List Dt) (hs : l.length + m.length ≤ sizeLine) : BinOK G A .Add (.list l) (.list m) (.list (l ++ m)) := fun X s _ _ st dm h1 h2 _ _ hq => by
  obtain ⟨_, _, rfl, _, l1, r1⟩ := h1.list'
  obtain ⟨_, _, rfl, _, l2, r2⟩ := h2.list'
  obtain ⟨n1, e1⟩ := l1
  obtain ⟨n2, e2⟩ := l2
  refine P.add_list e1 e2 (gives_new st (.list (Dom.fresh dm) ⟨0, ?_⟩ ((r1.append r2).kp (.push _ _))) hq) (by simp only [List.size_toArray]; rw [r1.length, r2.length]; exact hs)
  rw [Heap.get?_push_size _ rfl]; simp [LO]

theorem aug_add_int (a b : Int) : AugOK G A .Add (.int a) (.int b) (.int (a + b)) := fun _ _ _ _ st _ h1 h2 _ _ hq => by obtain ⟨_, rfl⟩ := h1.int'; obtain ⟨_, rfl⟩ := h2.int'; exact iadd_int (gives_here st (.int _ _) hq)
theorem aug_add_str (x y : Str) (hs : x.length + y.length ≤ sizeLine) : AugOK G A .Add (.str x) (.str y) (.str (x ++ y)) := fun _ _ _ _ st _ h1 h2 _ _ hq => by obtain ⟨_, rfl⟩ := h1.str'; obtain ⟨_, rfl⟩ := h2.str'; exact SBL.iadd (fun _ _ _ => gives_here st (.str _ _) hq) hs

theorem cmp_eq_int (a b : Int) : CmpOK G A .Eq (.int a) (.int b) (a == b) := fun _ _ _ _ st _ h1 h2 _ _ hq => by obtain ⟨_, rfl⟩ := h1.int'; obtain ⟨_, rfl⟩ := h2.int'; exact eq_int (gives_here st (.bool _) hq)
theorem cmp_lt_int (a b : Int) : CmpOK G A .Lt (.int a) (.int b) (decide (a < b)) := fun _ _ _ _ st _ h1 h2 _ _ hq => by obtain ⟨_, rfl⟩ := h1.int'; obtain ⟨_, rfl⟩ := h2.int'; exact P.lt_int (gives_here st (.bool _) hq)
theorem cmp_gt_int (a b : Int) : CmpOK G A .Gt (.int a) (.int b) (decide (a > b)) := fun _ _ _ _ st _ h1 h2 _ _ hq => by obtain ⟨_, rfl⟩ := h1.int'; obtain ⟨_, rfl⟩ := h2.int'; exact P.gt_int (gives_here st (.bool _) hq)
theorem cmp_ge_int (a b : Int) : CmpOK G A .GtE (.int a) (.int b) (decide (a ≥ b)) := fun _ _ _ _ st _ h1 h2 _ _ hq => by obtain ⟨_, rfl⟩ := h1.int'; obtain ⟨_, rfl⟩ := h2.int'; exact P.ge_int (gives_here st (.bool _) hq)
theorem cmp_eq_str (x y : Str) : CmpOK G A .Eq (.str x) (.str y) (x == y) := fun _ _ _ _ st _ h1 h2 _ _ hq => by obtain ⟨_, rfl⟩ := h1.str'; obtain ⟨_, rfl⟩ := h2.str'; exact eq_str (gives_here st (.bool _) hq)
theorem cmp_ne_str (x y : Str) : CmpOK G A .NotEq (.str x) (.str y) (x != y) := fun _ _ _ _ st _ h1 h2 _ _ hq => by obtain ⟨_, rfl⟩ := h1.str'; obtain ⟨_, rfl⟩ := h2.str'; exact ne_str (gives_here st (.bool _) hq)
theorem cmp_lt_str (x y : Str) : CmpOK G A .Lt (.str x) (.str y) (decide (x.cps.toList < y.cps.toList)) := fun _ _ _ _ st _ h1 h2 _ _ hq => by obtain ⟨_, rfl⟩ := h1.str'; obtain ⟨_, rfl⟩ := h2.str'; exact P.lt_str (gives_here st (.bool _) hq)
theorem cmp_gt_str (x y : Str) : CmpOK G A .Gt (.str x) (.str y) (decide (y.cps.toList < x.cps.toList)) := fun _ _ _ _ st _ h1 h2 _ _ hq => by obtain ⟨_, rfl⟩ := h1.str'; obtain ⟨_, rfl⟩ := h2.str'; exact P.gt_str (gives_here st (.bool _) hq)

theorem truth_str (x : Str) (hs : x.length ≤ sizeLine) : TruthOK G A (.str x) ((x.length : Int) != 0) := fun _ s v st h1 _ _ hq => by
  obtain ⟨_, rfl⟩ := h1.str'
  exact PySem.P.truthy_str (by rw [sizeLine_eq] at hs; lia) (hq s.heap _ (.refl st))
theorem truth_bool (b : Bool) : TruthOK G A (.bool b) b := fun _ s v st h1 _ _ hq => by obtain rfl := h1.bool'; exact wpAny_truthy_bool (hq s.heap s.toks (.refl st))
theorem truth_list (l : List Dt) (hs : l.length ≤ sizeLine) : TruthOK G A (.list l) (!l.isEmpty) := fun _ s v st h1 _ _ hq => by
  obtain ⟨_, _, rfl, _, l1, r1⟩ := h1.list'
  refine wpAny_truthy_list l1.isList (by rw [sizeLine_eq] at hs; simp only [List.size_toArray]; rw [r1.length]; lia) ?_
  cases r1 <;> exact hq s.heap _ (.refl st)
theorem truth_bytes (b : Array UInt8) (hs : b.size ≤ sizeLine) : TruthOK G A (.bytes b) ((b.size : Int) != 0) := fun _ s v st h1 _ _ hq => by
  obtain ⟨_, rfl⟩ := h1.bytes'
  exact truthy_bytes (by rw [sizeLine_eq] at hs; lia) (hq s.heap _ (.refl st))

theorem call_len_l (l : List Dt) (hs : l.length ≤ sizeLine) : CallOK G A (.builtin "len") [.list l] (.int l.length) := fun X s vs st _ _ h1 _ _ hq => by
  obtain ⟨v, rfl, k1⟩ := h1.one
  obtain ⟨_, _, rfl, _, l1, r1⟩ := k1.list'
  refine call_len_list l1.isList (by rw [sizeLine_eq] at hs; simp only [List.size_toArray]; rw [r1.length]; lia) ?_
  simp only [List.size_toArray]; rw [r1.length]
  exact gives_here st (.int _ _) hq
theorem call_len_s (x : Str) (hs : x.length ≤ sizeLine) : CallOK G A (.builtin "len") [.str x] (.int x.length) := fun X s vs st _ _ h1 _ _ hq => by
  obtain ⟨v, rfl, k1⟩ := h1.one
  obtain ⟨_, rfl⟩ := k1.str'
  exact PySem.P.len_str (by rw [sizeLine_eq] at hs; lia) (gives_here st (.int _ _) hq)
theorem call_isinstance_bytes (x : Str) : CallOK G A (.builtin "isinstance") [.str x, .typ "bytes"] (.bool false) := fun X s vs st _ _ h1 _ _ hq => by
  obtain ⟨v, u, rfl, k1, k2⟩ := h1.two
  obtain ⟨_, rfl⟩ := k1.str'
  obtain rfl := k2.typ'
  exact IsiPair.str_bytes (gives_here st (.bool _) hq)

theorem code_entry {prog : Program} {w : World} {s : Shared} {id : String} {b : Builtin} {args : List Value} {R : Result → Shared → Prop} (hk : builtinKind id = none) (hp : plainId id = true)
    (hb : entryFor table id = some b) (ha : argsOk id ⟨args, []⟩)
    (hc : wpAny (model prog w) A.in1 (b ⟨args, []⟩) (fun fin s' => ∃ v, fin = .done (.ret v) ∧ R (.ok (.ret v)) s') (fun e s' => R (.error e) s') s) : codeAny (model prog w) A (.call (.builtin id) ⟨args, []⟩) R s := by
  refine codeAny_call_builtin hp hb ?_
  have hfin := wpAny_mono hc (Q' := fun fin s' => match fin with
      | .done f => R (.ok f) s'
      | .again c' => c'.quiet = true ∧ codeAny (model prog w) A c' R s')
    (fun fin s' h' => by obtain ⟨v, rfl, hv⟩ := h'; exact hv) fun _ _ h' => h'
  simp only [checkBuiltinCall, hk]
  cases hsig : Manifest.signature? id with
  | none => exact wpAny_pure hfin
  | some sig =>
    simp only [argsOk, hsig] at ha
    have h2 : Bind.checkArgs id sig ⟨args, []⟩ = pure () := ha
    show wpAny _ A.in1 (Bind.checkArgs id sig ⟨args, []⟩) _ _ s
    rw [h2]; exact wpAny_pure hfin

theorem call_type_str (x : Str) : CallOK G A (.type "type") [.str x] (.typ "str") := fun X s vs st _ _ h1 _ _ hq => by
  obtain ⟨v, rfl, k1⟩ := h1.one
  obtain ⟨_, rfl⟩ := k1.str'
  exact call_type_of (Tx := "str") rfl (by decide) (hq _ s.heap s.toks (.refl st) (.typ _))

theorem sub_tup_tup : isSubtype (.type "tuple") (.type "tuple") = pure true := by rw [isSubtype_type]; kernel_rfl
theorem ty_str : typeOf (.type "str") = pure (.type "type") := by kernel_rfl
theorem kind_isn : builtinKind "issubclass.nested" = none := by decide +kernel
theorem plain_isn : plainId "issubclass.nested" = true := by decide +kernel
theorem args_isn (a b c : Value) : argsOk "issubclass.nested" ⟨[a, b, c], []⟩ := by unfold argsOk; kernel_rfl
theorem isn_str {prog : Program} {w : World} {A : Around} {s : Shared} {d : Int} {t : Tok} {E : Value → Shared → Prop} {Q : PySem.Fin → Shared → Prop} (h : Q (.done (.ret (.bool true))) s) :
   wpAny (model prog w) A (Builtin.«issubclass.nested» ⟨[.type "str", .type "str", .int d t], []⟩) Q E s := by
  have f1 := ty_str
  have f2 := PySem.F.sub_str_str
  repeat (any_goals (first | assumption | (rw [f1]) | (rw [f2]) | wp_step))
theorem isn_pair {prog : Program} {w : World} {A : Around} {s : Shared} {a : Addr} {n : Nat} {E : Value → Shared → Prop} {Q : PySem.Fin → Shared → Prop} (e : s.heap.get? a = some { cls := .type "tuple", data := .seq #[.type "str", .type "bytes"] n }) (h : Q (.done (.ret (.bool true))) s) :
   wpAny (model prog w) A (Builtin.«issubclass.nested» ⟨[.type "str", .ref a, rawInt 0], []⟩) Q E s := by
  have hT : s.TypeIs (.ref a) "tuple" := ⟨_, e, rfl⟩
  have f1 := sub_tup_tup
  wp_walk using wpAny_load e
  repeat (any_goals (first | assumption | (rw [f1]) | wp_step))
  refine code_entry kind_isn plain_isn PySem.F.entry_issubclass_nested (args_isn _ _ _) (isn_str ⟨_, rfl, ?_⟩)
  repeat (any_goals (first | assumption | wp_step))
noncomputable def strBytes : Dt := .tup [.typ "str", .typ "bytes"]
theorem call_issubclass_str : CallOK G A (.builtin "issubclass") [.typ "str", strBytes] (.bool true) := fun X s vs st _ _ h1 _ _ hq => by
  obtain ⟨v, u, rfl, k1, k2⟩ := h1.two
  obtain rfl := k1.typ'
  obtain ⟨_, _, rfl, t2, r2⟩ := k2.tup'
  obtain ⟨v1, v2, rfl, q1, q2⟩ := r2.two
  cases q1; cases q2
  obtain ⟨n, e⟩ := t2
  refine call_issubclass (S := fun _ R s' => s' = s ∧ R (.ok (.ret (.bool true))) s') (fun prog w A R s' hs => ?_) ⟨rfl, hq _ s.heap s.toks (.refl st) (.bool true)⟩
  obtain ⟨rfl, hs⟩ := hs
  exact issubclass_outer (isn_pair e hs)
end
end Mine
end

section
open PySem PySem.Calls PyProof.Rows PySem.W
namespace Mine

noncomputable def tyOf : Dt → String
  | .none => "NoneType"
  | .bool _ => "bool"
  | .int _ => "int"
  | .str _ => "str"
  | .bytes _ => "bytes"
  | .list _ => "list"
  | .tup _ => "tuple"
  | .typ _ => "type"
  | .dict _ _ _ => "dict"
theorem Rp.typeIs {X : List Addr} {s : Shared} {v : Value} {d : Dt} (r : Rp X s.heap v d) (hd : ∀ T, d ≠ .typ T) : s.TypeIs v (tyOf d) := by
  cases r with
  | none => exact rfl
  | bool => exact rfl
  | int => exact rfl
  | str => exact rfl
  | bytes => exact rfl
  | typ n => exact absurd rfl (hd n)
  | list _ l _ => obtain ⟨n, e⟩ := l; exact ⟨_, e, rfl⟩
  | tup l _ => obtain ⟨n, e⟩ := l; exact ⟨_, e, rfl⟩
  | dict _ _ l _ => obtain ⟨o, _, _, e, q, _⟩ := l; exact ⟨o, e, q.1⟩
theorem Rp.noDict {X : List Addr} {h : Heap} {v : Value} {d : Dt} (r : Rp X h v d) (a : Addr) (e : v = .ref a) : ∃ ob, h.get? a = some ob ∧ ob.dict = Option.none := by
  cases r with
  | list _ l _ => obtain ⟨n, e'⟩ := l; cases e; exact ⟨_, e', rfl⟩
  | tup l _ => obtain ⟨n, e'⟩ := l; cases e; exact ⟨_, e', rfl⟩
  | dict _ _ l _ => obtain ⟨o, _, _, e', q, _⟩ := l; cases e; exact ⟨o, e', q.2.1⟩
  | _ => cases e

section
variable {F : FC} {ρ : List Sl} {n : Nat}

/-- a built-in type's method of what a datum is -/
theorem Ev.meth {o : PySem.Expr} {name : Str} {T id : String} {apos pos : Pos} {es : List PySem.Expr} {d0 d : Dt} {ds : List Dt} (pa : PlainAttrs T) (slot : Slot T name id) (hty : typeOf (.builtin id) = pure (.type "method_descriptor"))
    (h1 : Ev F ρ o d0) (ha : EvL F ρ es ds) (hc : CallOK F.G F.A (.builtin id) (d0 :: ds) d) (hT : tyOf d0 = T := by rfl) (hd : ∀ T, d0 ≠ .typ T := by intro T h; cases h)
    (hbase : attributeBase o name F.env (eval o F.env) = eval o F.env := by rfl)
    (hfew : ((backTo pos (starEach es F.env)).all (fun x => !x.1) && (backToKw pos (keywordEach [] F.env)).all (fun x => x.1.isSome) && decide (es.length + ([] : List Keyword).length + (if ([] : List Keyword).isEmpty then 0 else 1) < 30)) = true := by rfl)
    (hline : (apos.endLine == pos.line) = true := by rfl) (hs : (starEach es F.env).any (·.1) = false := by rfl) : Ev F ρ (.Call (.Attribute o name apos) es [] pos) d := by
  intro s h Q E hq
  refine wpAny_Call_method hbase hfew hline pa slot hty (h1 s h _ _ fun v h1' tk1 g1 r1 => ⟨hT ▸ r1.typeIs hd, r1.noDict, ?_⟩)
  refine callWith_of (P := fun h => True) ?_ (fun h _ => ⟨.machine, .inr (.inl rfl), .now⟩) (evalArgs_any hs (ha _ (h.grow g1) pos _ _ fun vs h2 tk2 g2 r2 => ⟨trivial, ?_⟩))
  · have : (backTo pos (starEach es F.env)).any (·.1) = (starEach es F.env).any (·.1) := by unfold backTo; rw [List.any_map]; rfl
    rw [this, hs]; rfl
  · have A1 := (h.grow g1).grow g2
    exact hc (F.X ρ) _ (v :: vs) (by exact g2.stays) (by exact A1.frs) (by exact A1.dom) (by exact .cons (r1.kp g2.kp) r2) _ _ fun v h3 tk3 g3 r3 => hq v h3 tk3 ((g1.trans g2).trans g3) r3

/-- what is at an index -/
noncomputable def ItemOK (G : GC) (A : Around) (d i r : Dt) : Prop :=
  ∀ X s v u, In G s.heap → Dom X s.heap → Rp X s.heap v d → Rp X s.heap u i → Mine.Gives G A X s (getItem v u) r
theorem Ev.item {e i : PySem.Expr} {pos : Pos} {T id : String} {d1 d2 d : Dt} (hl : typeLookup (.type T) "__getitem__" = pure (some (.builtin id))) (h1 : Ev F ρ e d1) (h2 : Ev F ρ i d2) (hi : ItemOK F.G F.A d1 d2 d)
    (hT : tyOf d1 = T := by rfl) (hd : ∀ T, d1 ≠ .typ T := by intro T h; cases h) (hs : ∀ o k, ∃ ops, subscripted i false o k = operate ops (getItem o k) := by intro _ _; exact ⟨_, rfl⟩) : Ev F ρ (.Subscript e i pos) d := by
  intro s h Q E hq
  refine Subscript_ (h1 s h _ _ fun v h1' tk1 g1 r1 => h2 _ (h.grow g1) _ _ fun u h2' tk2 g2 r2 => ?_)
  obtain ⟨ops, hs⟩ := hs v u
  refine tail_any (T := T) (by exact hT ▸ (r1.kp g2.kp).typeIs (s := { s with heap := h2', toks := tk2 }) hd) hl (hi (F.X ρ) _ v u (by exact g2.stays) (by exact ((h.grow g1).grow g2).dom) (by exact r1.kp g2.kp) (by exact r2) _ _ fun r h3 tk3 g3 r3 => ?_) hs
  exact hq r h3 tk3 ((g1.trans g2).trans g3) r3

/-- a part of a slice's -/
inductive EvO (F : FC) (ρ : List Sl) : Option PySem.Expr → Option Int → Prop
  | none : EvO F ρ none none
  | some {e : PySem.Expr} {i : Int} : Ev F ρ e (.int i) → EvO F ρ (some e) (some i)
theorem EvO.run {x : Option PySem.Expr} {k : Option Int} (h : EvO F ρ x k) {s : Shared} (X : Asr F ρ s.heap) {Q E : Value → Shared → Prop} (hq : ∀ v h' tk', Grow F.G s.heap h' → IsPart v k → Q v { s with heap := h', toks := tk' }) :
    wpAny (model F.G.prog F.G.w) F.A (evalPart x F.env) Q E s := by
  cases h with
  | none => exact wpAny_pure (hq .none s.heap s.toks (.refl X.stays) .none)
  | some h => exact h s X _ _ fun v h' tk' g r => by cases r; exact hq _ h' tk' g (.int _ _)
noncomputable def sliceD {α : Type} (ds : List α) (lo hi st : Option Int) : List α :=
  (sliceRange (sliceBounds lo hi st ds.length).1 (sliceBounds lo hi st ds.length).2.1 (sliceBounds lo hi st ds.length).2.2).filterMap (ds[·]?)
theorem RpL.filterMap {X : List Addr} {h : Heap} {vs : List Value} {ds : List Dt} (r : RpL X h vs ds) : ∀ l : List Nat, RpL X h (l.filterMap (vs[·]?)) (l.filterMap (ds[·]?))
  | [] => .nil
  | k :: l => by
    cases e : ds[k]? with
    | none =>
      have e' : vs[k]? = none := by rw [List.getElem?_eq_none_iff] at e ⊢; rw [r.length]; exact e
      rw [List.filterMap_cons, List.filterMap_cons, e, e']; exact r.filterMap l
    | some d =>
      obtain ⟨v, e', q⟩ := r.get e
      rw [List.filterMap_cons, List.filterMap_cons, e, e']; exact .cons q (r.filterMap l)
theorem RpL.slice {X : List Addr} {h : Heap} {vs : List Value} {ds : List Dt} (r : RpL X h vs ds) (lo hi st : Option Int) : RpL X h (slicePick vs.toArray lo hi st).toList (sliceD ds lo hi st) := by
  unfold slicePick sliceD
  rw [List.size_toArray, r.length]
  simp only [List.getElem?_toArray]
  exact r.filterMap _
theorem Ev.slice {e : PySem.Expr} {lo hi st : Option PySem.Expr} {sp pos : Pos} {l r : List Dt} {a b c : Option Int} (h1 : Ev F ρ e (.list l)) (hl : EvO F ρ lo a) (hu : EvO F ρ hi b) (hst : EvO F ρ st c) (hc : c ≠ some 0) (hsz : l.length ≤ sizeLine) (hr : sliceD l a b c = r)
    (hs : ∀ o k, ∃ ops, subscripted (.Slice lo hi st sp) false o k = operate ops (getItem o k) := by intro _ _; exact ⟨_, rfl⟩) : Ev F ρ (.Subscript e (.Slice lo hi st sp) pos) (.list r) := by
  subst hr
  intro s h Q E hq
  refine Subscript_ (h1 s h _ _ fun v h1' tk1 g1 r1 => wpAny_Slice (hl.run (h.grow g1) fun vl h2' tk2 g2 p1 => hu.run ((h.grow g1).grow g2) fun vu h3 tk3 g3 p2 => hst.run (((h.grow g1).grow g2).grow g3) fun vs h4 tk4 g4 p3 => ?_))
  have g14 := ((g1.trans g2).trans g3).trans g4
  have r4 := ((r1.kp g2.kp).kp g3.kp).kp g4.kp
  cases r4 with
  | @list al ws _ ha L R =>
  obtain ⟨n, eL⟩ := L
  obtain ⟨ops, hs⟩ := hs (.ref al) (.ref h4.objs.size)
  have g5 : Grow F.G h4 (h4.push { cls := .type "slice", data := .fields #[vl, vu, vs] }) := .push g4.stays _
  have eL5 := Heap.get?_push_of_some { cls := .type "slice", data := .fields #[vl, vu, vs] } eL
  refine tail_any (T := "list") ⟨_, eL5, rfl⟩ list_getitem_lookup (wpAny_getItem_list_slice ⟨_, eL5, rfl, n, rfl⟩ (.new ..) p1 p2 p3 hc ?_ (by simp only [List.size_toArray]; rw [R.length]; exact hsz)) hs
  have g6 : Grow F.G (h4.push { cls := .type "slice", data := .fields #[vl, vu, vs] }) ((h4.push { cls := .type "slice", data := .fields #[vl, vu, vs] }).push { cls := .type "list", data := .seq (slicePick ws.toArray a b c) }) := .push g5.stays _
  refine hq _ _ tk4 ((g14.trans g5).trans g6) (.list (Dom.fresh ((h.grow (g14.trans g5)).dom)) ⟨0, ?_⟩ ((R.slice a b c).kp (g5.kp.trans g6.kp)))
  rw [Heap.get?_push_size _ rfl]

theorem Ev.slice_str {e : PySem.Expr} {lo hi : Option PySem.Expr} {sp pos : Pos} {x r : Str} {a b : Option Int} (h1 : Ev F ρ e (.str x)) (hl : EvO F ρ lo a) (hu : EvO F ρ hi b) (hsz : x.length ≤ sizeLine) (hr : Txt.slice x a b = r)
    (hs : ∀ o k, ∃ ops, subscripted (.Slice lo hi Option.none sp) false o k = operate ops (getItem o k) := by intro _ _; exact ⟨_, rfl⟩) : Ev F ρ (.Subscript e (.Slice lo hi Option.none sp) pos) (.str r) := by
  subst hr
  intro s h Q E hq
  refine Subscript_ (h1 s h _ _ fun v h1' tk1 g1 r1 => wpAny_Slice (hl.run (h.grow g1) fun vl h2' tk2 g2 p1 => hu.run ((h.grow g1).grow g2) fun vu h3 tk3 g3 p2 => ?_))
  rw [evalPart_none]
  refine wpAny_pure ?_
  have g13 := (g1.trans g2).trans g3
  cases r1 with
  | str x t =>
  obtain ⟨ops, hs⟩ := hs (.str x t) (.ref h3.objs.size)
  have g5 : Grow F.G h3 (h3.push { cls := .type "slice", data := .fields #[vl, vu, .none] }) := .push g3.stays _
  have hp : ∀ {v : Value} {k : Option Int}, IsPart v k → ∃ l : Option (Int × Tok), v = partValue l ∧ l.map (·.1) = k := fun p => by
    cases p with
    | none => exact ⟨Option.none, rfl, rfl⟩
    | int i t => exact ⟨Option.some (i, t), rfl, rfl⟩
  obtain ⟨l, rfl, rfl⟩ := hp p1
  obtain ⟨u, rfl, rfl⟩ := hp p2
  refine tail_any (T := "str") rfl PySem.F.slot_str_getitem.lookup (wpAny_getItem_str_slice (l := l) (u := u) (st := Option.none) ⟨_, Heap.get?_push_size _ rfl, rfl, rfl⟩ rfl (post_val_or_str ⟨Nat.le_trans (Txt.slice_le x _ _) hsz, fun t' k => ?_⟩)) hs
  exact hq _ _ k (g13.trans g5) (.str _ t')
end

section
variable {G : GC} {A : Around}
theorem item_list (l : List Dt) (k : Int) (d : Dt) (h0 : 0 ≤ k) (hfit : k < 2 ^ 63) (hx : l[k.toNat]? = some d) : ItemOK G A (.list l) (.int k) d := fun X s v u st _ h1 h2 _ _ hq => by
  obtain ⟨_, rfl⟩ := h2.int'
  obtain ⟨_, _, rfl, _, L, R⟩ := h1.list'
  obtain ⟨v, e, r⟩ := R.get hx
  exact wpAny_getItem_list L.isList h0 hfit (by simpa using e) (hq _ s.heap s.toks (.refl st) r)
theorem item_tup (l : List Dt) (k : Int) (d : Dt) (h0 : 0 ≤ k) (hfit : k < 2 ^ 63) (hx : l[k.toNat]? = some d) : ItemOK G A (.tup l) (.int k) d := fun X s v u st _ h1 h2 _ _ hq => by
  obtain ⟨_, rfl⟩ := h2.int'
  obtain ⟨_, _, rfl, L, R⟩ := h1.tup'
  obtain ⟨v, e, r⟩ := R.get hx
  have hl : k.toNat < l.length := (List.getElem?_eq_some_iff.mp hx).1
  refine PyProof.Rows.getItem_tuple L.isTup (by lia) hfit (j := k.toNat) ?_ (by simpa using e) (hq _ s.heap s.toks (.refl st) r)
  rw [List.size_toArray, R.length]
  unfold seqIndex?
  have hn : ¬ k < 0 := by lia
  simp [hn]; lia

theorem call_startswith (x y : Str) : CallOK G A (.builtin "str.startswith") [.str x, .str y] (.bool (Txt.startswith x y)) := fun X s vs st _ _ h1 _ _ hq => by
  obtain ⟨v, u, rfl, k1, k2⟩ := h1.two
  obtain ⟨_, rfl⟩ := k1.str'
  obtain ⟨_, rfl⟩ := k2.str'
  exact SC.startswith (gives_here st (.bool _) hq)
theorem call_endswith (x y : Str) : CallOK G A (.builtin "str.endswith") [.str x, .str y] (.bool (Txt.endswith x y)) := fun X s vs st _ _ h1 _ _ hq => by
  obtain ⟨v, u, rfl, k1, k2⟩ := h1.two
  obtain ⟨_, rfl⟩ := k1.str'
  obtain ⟨_, rfl⟩ := k2.str'
  exact SC.endswith (gives_here st (.bool _) hq)
theorem call_rfind (x y : Str) : CallOK G A (.builtin "str.rfind") [.str x, .str y] (.int (Txt.rfind x y)) := fun X s vs st _ _ h1 _ _ hq => by
  obtain ⟨v, u, rfl, k1, k2⟩ := h1.two
  obtain ⟨_, rfl⟩ := k1.str'
  obtain ⟨_, rfl⟩ := k2.str'
  exact SC.rfind (gives_here st (.int _ _) hq)
theorem call_rstrip (x y : Str) (hs : x.length ≤ sizeLine) : CallOK G A (.builtin "str.rstrip") [.str x, .str y] (.str (Txt.rstripChars x y)) := fun X s vs st _ _ h1 _ _ hq => by
  obtain ⟨v, u, rfl, k1, k2⟩ := h1.two
  obtain ⟨_, rfl⟩ := k1.str'
  obtain ⟨_, rfl⟩ := k2.str'
  exact SC.rstripChars (fun _ _ => gives_here st (.str _ _) hq) hs

noncomputable def strD (l : List Str) : Dt := .list (l.map .str)
theorem RpL.strs {X : List Addr} {h : Heap} : ∀ {l : List Str} {vs : List Value}, RpL X h vs (l.map .str) → ∃ m : List (Str × Tok), vs = strValues m ∧ m.map (·.1) = l
  | [], vs, r => ⟨[], r.inv0, rfl⟩
  | x :: l, vs, r => by
    obtain ⟨v, r', rfl, a, b⟩ := r.inv
    obtain ⟨m, rfl, rfl⟩ := RpL.strs b
    cases a with
    | str x t => exact ⟨(x, t) :: m, rfl, rfl⟩
theorem RpL.of_strs {X : List Addr} {h : Heap} : ∀ m : List (Str × Tok), RpL X h (strValues m) ((m.map (·.1)).map .str)
  | [] => .nil
  | (x, t) :: m => .cons (.str x t) (RpL.of_strs m)
theorem call_join (x : Str) (l : List Str) (hs : JoinOk x l = true) : CallOK G A (.builtin "str.join") [.str x, strD l] (.str (Txt.join x l)) := fun X s vs st _ _ h1 _ _ hq => by
  obtain ⟨v, u, rfl, k1, k2⟩ := h1.two
  obtain ⟨_, rfl⟩ := k1.str'
  obtain ⟨al, ws, rfl, ha, L, R⟩ := k2.list'
  obtain ⟨m, rfl, hm⟩ := R.strs
  exact SC.join L.isList hm hs fun _ _ => gives_here st (.str _ _) hq
theorem call_split (x y : Str) (hy : (y.length == 0) = false) (hs : x.length ≤ sizeLine) (hs2 : (Builtin.Str.partsBetween x (Builtin.Str.occurrences x y 0 x.length (x.length + 1)) y.length).length ≤ sizeLine) :
    CallOK G A (.builtin "str.split") [.str x, .str y] (strD (Txt.split x y)) := fun X s vs st _ dm h1 Q E hq => by
  obtain ⟨v, u, rfl, k1, k2⟩ := h1.two
  obtain ⟨_, rfl⟩ := k1.str'
  obtain ⟨_, rfl⟩ := k2.str'
  have fin : ∀ (m : List (Str × Tok)) (tk : Nat), m.map (·.1) = Txt.split x y → Q (.ref s.heap.objs.size) { s with heap := s.heap.push { cls := .type "list", data := .seq (strValues m).toArray }, toks := tk } := fun m tk e =>
    gives_new st (.list (Dom.fresh dm) ⟨0, Heap.get?_push_size _ rfl⟩ (e ▸ .of_strs m)) hq
  cases h1 : (decide (x.length < y.length) || decide (Builtin.Str.strKind x < Builtin.Str.strKind y))
  · cases hf : (Builtin.Str.occurrences x y 0 x.length (x.length + 1)).isEmpty
    · refine call_meets F.slot_str_split (typeIs_str _ _ _) F.entry_str_split (F.args_str_split_2 _ _) (meets_str_split_sep x y _ _ h1 hy hf hs hs2) ?_
      show wants Q E _ { s with toks := _, heap := s.heap.push { cls := .type "list", data := .seq (strsFrom s.toks (Builtin.Str.partsBetween x (Builtin.Str.occurrences x y 0 x.length (x.length + 1)) y.length)).toArray } }
      rw [strsFrom_eq]
      exact fin (numbered s.toks _) _ ((numbered_texts _ _).trans ((if_neg (ne_true_of_eq_false h1)).trans (if_neg (ne_true_of_eq_false hf))).symm)
    · exact call_meets F.slot_str_split (typeIs_str _ _ _) F.entry_str_split (F.args_str_split_2 _ _) (meets_str_split_not_found x y _ _ h1 hy hf)
        (fin [(x, _)] s.toks ((if_neg (ne_true_of_eq_false h1)).trans (if_pos hf)).symm)
  · exact call_meets F.slot_str_split (typeIs_str _ _ _) F.entry_str_split (F.args_str_split_2 _ _) (meets_str_split_cannot_occur x y _ _ h1)
      (fin [(x, _)] s.toks (if_pos h1).symm)
end
end Mine
end

section
open PySem PySem.Calls PyProof.Rows PySem.W
namespace Mine

theorem Neut.bears {X : List Addr} {a : Addr} {o : Obj} (x : Neut o) : ¬ Bears X a o := by
  obtain ⟨T, vs, _, _, hd, _⟩ := x
  rintro (⟨_, _, q, _⟩ | ⟨_, _, _, _, q⟩) <;> rw [hd] at q <;> cases q
/-- what an iterator's turn does -/
structure Moves (wr : List Addr) (h h' : Heap) : Prop where
  others : ∀ b o, b ∉ wr → h.get? b = some o → h'.get? b = some o
  neut : ∀ b ∈ wr, ∃ o, h.get? b = some o ∧ Neut o
theorem Moves.not {wr : List Addr} {h h' : Heap} (m : Moves wr h h') {b : Addr} {o : Obj} (e : h.get? b = some o) (hn : ¬ Neut o) : h'.get? b = some o :=
  m.others b o (fun hb => by obtain ⟨o', e', n⟩ := m.neut b hb; rw [e] at e'; cases e'; exact hn n) e
theorem Moves.same {wr : List Addr} {h h' : Heap} (m : Moves wr h h') (X : List Addr) : Same X h h' := fun a o e q => m.not e fun n => n.bears q
theorem not_neut_fields {o : Obj} (h : ∀ vs, o.data ≠ .fields vs) : ¬ Neut o := fun ⟨_, vs, _, _, q, _⟩ => h vs q

theorem Same.mono {X Z : List Addr} {h h' : Heap} (k : Same X h h') (hs : ∀ a, a ∈ X → a ∈ Z) : Same Z h h' := fun a o e q => k a o e (by
  rcases q with ⟨xs, n, q1, q2⟩ | ⟨q1, q2⟩
  · exact .inl ⟨xs, n, q1, q2.imp id fun q => ⟨fun q' => q.1 (hs _ q'), q.2⟩⟩
  · exact .inr ⟨fun q' => q1 (hs _ q'), q2⟩)
theorem RpL.keep {X Y : List Addr} {h h' : Heap} {vs : List Value} {ds : List Dt} (r : RpL X h vs ds) (hs : Same X h h') (hy : ∀ a ∈ Y, a ∈ X ∨ h.get? a = Option.none) : RpL Y h' vs ds :=
  (r.more (Y := X ++ Y) fun a ha => (List.mem_append.mp ha).elim .inl (hy a)).same (hs.mono fun a ha => List.mem_append_left _ ha) fun a ha => List.mem_append_right _ ha
theorem Rp.keep {X Y : List Addr} {h h' : Heap} {v : Value} {d : Dt} (r : Rp X h v d) (hs : Same X h h') (hy : ∀ a ∈ Y, a ∈ X ∨ h.get? a = Option.none) : Rp Y h' v d :=
  (r.more (Y := X ++ Y) fun a ha => (List.mem_append.mp ha).elim .inl (hy a)).same (hs.mono fun a ha => List.mem_append_left _ ha) fun a ha => List.mem_append_right _ ha

noncomputable def isTupE : PySem.Expr → Bool
  | .Tuple .. => true
  | _ => false
structure ItOK (G : GC) (A : Around) (it : Value) (wr : List Addr) (St : List Addr → Heap → List Dt → Prop) (any : Bool) : Prop where
  item : ∀ X (s : Shared) d ds (Q : Option Value → Shared → Prop) (E : Value → Shared → Prop), In G s.heap → Dom X s.heap → St X s.heap (d :: ds) →
    (∀ v s₁, (∀ (target : PySem.Expr) (Q' : Unit → Shared → Prop) (E' : Value → Shared → Prop), (any || isTupE target) = true → (∀ h' tk', Rp X h' v d → St X h' ds → Moves wr s.heap h' → Q' () { s with heap := h', toks := tk' }) → wpAny (model G.prog G.w) A (letOwnedTupleGo target it v) Q' E' s₁) → Q (some v) s₁) →
    wpAny (model G.prog G.w) A (pyNext it) Q E s
  done : ∀ X (s : Shared) (Q : Option Value → Shared → Prop) (E : Value → Shared → Prop), In G s.heap → St X s.heap [] → (∀ h' tk', Moves wr s.heap h' → Q none { s with heap := h', toks := tk' }) → wpAny (model G.prog G.w) A (pyNext it) Q E s
  keep : ∀ X Y h h' ds, St X h ds → (∀ b ∈ wr, h'.get? b = h.get? b) → Same X h h' → (∀ a ∈ Y, a ∈ X ∨ h.get? a = none) → St Y h' ds
  neut : ∀ X h ds, St X h ds → ∀ b ∈ wr, ∃ o, h.get? b = some o ∧ Neut o
  self : ∀ X (s : Shared) ds (Q : Value → Shared → Prop) (E : Value → Shared → Prop), St X s.heap ds → Q it s → wpAny (model G.prog G.w) A (pyIter it) Q E s
/-- what is to be walked -/
noncomputable def EvIt (F : FC) (ρ : List Sl) (e : PySem.Expr) (ds : List Dt) (any : Bool := true) : Prop := ∀ s, Asr F ρ s.heap → ∀ (Q : Value → Shared → Prop) (E : Value → Shared → Prop),
  (∀ it h' tk' wr St, Grow F.G s.heap h' → ItOK F.G F.A it wr St any → St (F.X ρ) h' ds → (∀ b ∈ wr, s.heap.get? b = none) → Q it { s with heap := h', toks := tk' }) →
  wpAny (model F.G.prog F.G.w) F.A (eval e F.env) (fun x s₁ => wpAny (model F.G.prog F.G.w) F.A (pyIter x) Q E s₁) E s

theorem go_plain {M : Model} {A : Around} {E : Value → Shared → Prop} {s : Shared} {Q : Unit → Shared → Prop} {target : PySem.Expr} {I : Addr} {v : Value} {o : Obj} {T : String} {vs : Array Value} (ho : s.heap.get? I = some o) (hc : o.cls = .type T) (hd : o.data = .fields vs)
    (hT : ["enumerate", "zip", "dict_itemiterator", "dict_reverseitemiterator", "odict_iterator", "itertools.zip_longest", "itertools.pairwise"].contains T = false) (h : Q () s) : wpAny M A (letOwnedTupleGo target (.ref I) v) Q E s := by
  have key : ∀ a, wpAny M A (do
      let o ← load I
      match o.cls, o.data with
      | .type n, .fields vs =>
        if ["enumerate", "zip", "dict_itemiterator", "dict_reverseitemiterator", "odict_iterator", "itertools.zip_longest", "itertools.pairwise"].contains n && vs[0]? == some (rawInt a) then
          rule "for.unpacks-the-owned-tuple"
          updateField I 0 .none
      | _, _ => pure ()) Q E s := fun a => by
    refine wpAny_bind (wpAny_load ho ?_)
    rw [hc, hd]
    dsimp only
    rw [hT, Bool.false_and]
    exact wpAny_pure h
  unfold letOwnedTupleGo
  cases target <;> first
    | exact wpAny_pure h
    | (cases v <;> first | exact wpAny_pure h | exact key _)

section
variable {G : GC} {A : Around}
theorem neut_iter {T : String} {o : Obj} {vs : Array Value} (hc : o.cls = .type T) (hT : ["frame", "tuple", "list", "dict"].contains T = false) (hd : o.data = .fields vs) (h1 : ∀ q t, vs[1]? ≠ some (.str q t)) : Neut o := ⟨T, vs, hc, hT, hd, h1⟩
noncomputable def WSt (fp wr : List Addr) (n : Nat) (P : Nat → Value → Prop) (St : Nat → Heap → Prop) (X : List Addr) (h : Heap) (ds : List Dt) : Prop :=
  ∃ k, St k h ∧ n = k + ds.length ∧ (∀ b ∈ fp, b ∈ wr ∨ ∃ o, h.get? b = some o ∧ Bears X b o) ∧ ∀ j d, ds[j]? = some d → ∀ v, P (k + j) v → Rp X h v d
theorem Bears.fewer {X Y : List Addr} {a : Addr} {o : Obj} (x : Bears X a o) (h : a ∈ Y → a ∈ X) : Bears Y a o := by
  rcases x with ⟨xs, n, q1, q2⟩ | ⟨q1, q2⟩
  · exact .inl ⟨xs, n, q1, q2.imp id fun q => ⟨fun q' => q.1 (h q'), q.2⟩⟩
  · exact .inr ⟨fun q' => q1 (h q'), q2⟩
theorem itOK_walks {I : Addr} {fp wr : List Addr} {n : Nat} {P : Nat → Value → Prop} {St : Nat → Heap → Prop} (W : Walks G.prog G.w A I fp wr n P St) (hI : wr = [I])
    (hn : ∀ i h, St i h → ∃ o T vs, h.get? I = some o ∧ o.cls = .type T ∧ o.data = .fields vs ∧ ["frame", "tuple", "list", "dict"].contains T = false ∧ (∀ q t, vs[1]? ≠ some (.str q t)) ∧
      ["enumerate", "zip", "dict_itemiterator", "dict_reverseitemiterator", "odict_iterator", "itertools.zip_longest", "itertools.pairwise"].contains T = false) : ItOK G A (.ref I) wr (WSt fp wr n P St) true where
  item := fun X s d ds Q E hin hdm ⟨k, st, hk, hfp, hv⟩ hq => by
    refine W.item k s Q E (by simp at hk; lia) st fun v h' tk hP st' kp => hq v _ fun target Q' E' _ hq' => ?_
    obtain ⟨o, T, vs, e, c, dd, _, _, hT⟩ := hn _ _ st'
    have mv : Moves wr s.heap h' := ⟨kp, fun b hb => by
      rw [hI] at hb
      obtain rfl := List.mem_singleton.mp hb
      obtain ⟨o, T, vs, e, c, d, t1, t2, _⟩ := hn _ _ st
      exact ⟨o, e, T, vs, c, t1, d, t2⟩⟩
    have hr := hv 0 d rfl v hP
    refine go_plain (s := { s with heap := h', toks := tk }) e c dd hT (hq' h' tk (hr.same (mv.same X) fun _ q => q) ⟨k + 1, st', by simp at hk ⊢; lia, fun b hb => (hfp b hb).imp id fun ⟨o, e, q⟩ => ⟨o, mv.same X b o e q, q⟩, fun j d' hj v' hP' => ?_⟩ mv)
    exact (hv (j + 1) d' (by simpa using hj) v' (by rw [show k + (j + 1) = k + 1 + j by lia]; exact hP')).same (mv.same X) fun _ q => q
  done := fun X s Q E hin ⟨k, st, hk, hfp, hv⟩ hq => by
    have hk' : k = n := by simp at hk; lia
    subst hk'
    refine W.done s Q E st fun h' tk kp => hq h' tk ⟨kp, fun b hb => ?_⟩
    rw [hI] at hb
    obtain rfl := List.mem_singleton.mp hb
    obtain ⟨o, T, vs, e, c, d, t1, t2, _⟩ := hn _ _ st
    exact ⟨o, e, T, vs, c, t1, d, t2⟩
  keep := fun X Y h h' ds ⟨k, st, hk, hfp, hv⟩ hw hs hy => by
    refine ⟨k, W.frame _ _ _ st fun b hb o e => ?_, hk, fun b hb => (hfp b hb).imp id fun ⟨o, e, q⟩ => ⟨o, hs b o e q, q.fewer fun hy' => (hy b hy').resolve_right fun q => by rw [e] at q; cases q⟩, fun j d hj v hP => (hv j d hj v hP).keep hs hy⟩
    rcases hfp b hb with q | ⟨o', e', q⟩
    · rw [hw b q]; exact e
    · exact hs b o e (by rw [e] at e'; cases e'; exact q)
  neut := fun X h ds ⟨k, st, _⟩ b hb => by
    rw [hI] at hb
    obtain rfl := List.mem_singleton.mp hb
    obtain ⟨o, T, vs, e, c, d, t1, t2, _⟩ := hn _ _ st
    exact ⟨o, e, T, vs, c, t1, d, t2⟩
  self := fun X s ds Q E ⟨k, st, _⟩ hq => W.self _ _ _ _ st hq
end

section
variable {F : FC} {ρ : List Sl} {n : Nat} {Φ : Fl → List Sl → Prop} {Θ : String → List Sl → Prop}
theorem Asr.moved {h h' : Heap} {wr : List Addr} (X : Asr F ρ h) (m : Moves wr h h') (hb : ∀ b ∈ wr, F.G.B.get? b = none) (he : ∀ b ∈ wr, F.h0.get? b = none ∨ b ∈ F.P) (hx : ∀ b ∈ wr, b ∉ F.X ρ) : Asr F ρ h' := by
  have inn : ∀ b o, h.get? b = some o → ¬ Neut o → h'.get? b = some o := fun b o => m.not
  have sm := m.same (F.X ρ)
  obtain ⟨mm, hm, fo, hfo, hfc⟩ := X.loc
  obtain ⟨o1, es, ep, ho1, hd1, q1⟩ := hm
  rw [hfo] at ho1; cases ho1
  have hloc := inn _ _ hfo (not_neut_fields fun vs q => by rw [hd1] at q; cases q)
  have cellk : ∀ c v, h.IsCell c v → h'.IsCell c v := fun c v ⟨o, e, hd⟩ => ⟨o, inn _ _ e (not_neut_fields fun vs q => by rw [hd] at q; cases q), hd⟩
  have nsk : ∀ c mm, h.Ns c mm → h'.Ns c mm := fun c mm ⟨o, es, ep, e, hd, q⟩ => ⟨o, es, ep, inn _ _ e (not_neut_fields fun vs q => by rw [hd] at q; cases q), hd, q⟩
  have hask : ∀ x v, Has F h x v → Has F h' x v := fun x v q => by
    rcases q with ⟨e, m', q1, q2⟩ | ⟨e, c, q1, q2⟩
    · exact .inl ⟨e, m', nsk _ _ q1, q2⟩
    · exact .inr ⟨e, c, q1, cellk _ _ q2⟩
  refine ⟨⟨fun b o e => m.others b o (fun q => by rw [hb b q] at e; cases e) (X.stays.stays b o e), ?_⟩, fun b o hP e => ?_, ?_, ⟨mm, ⟨fo, es, ep, hloc, hd1, q1⟩, fo, hloc, hfc⟩, fun x c a b => let ⟨v, q⟩ := X.cells x c a b; ⟨v, cellk _ _ q⟩, X.nodup, X.apart, X.fresh, ?_, .of_get fun i x sl e1 e2 => ?_, X.len⟩
  · obtain ⟨ps, a, b, c⟩ := X.stays.tab
    refine ⟨ps, inn _ _ a (fun ⟨T, _, q, _⟩ => by cases q), b, c.imp id fun ⟨q, e, c2, o, vs, tq, e1, e2, e3, e4⟩ => ⟨q, e, c2, o, vs, tq, e1, inn _ _ e2 (fun ⟨_, vs', _, _, q', q''⟩ => ?_), e3, e4⟩⟩
    rw [e3] at q'; cases q'
    exact q'' _ _ e4
  · exact (X.kept b o hP e).next fun p e' => .inl (m.others b p (fun q => (he b q).elim (fun q => by rw [q] at e; cases e) hP) e')
  · obtain ⟨fs, e, q, r⟩ := X.frs
    refine ⟨fs, e, q.of_keeps fun b o ho hd => ⟨o, inn _ _ ho (not_neut_fields hd), rfl⟩, fun b hb => ?_⟩
    obtain ⟨o, es, ep, ho, hc, hd⟩ := r b hb
    exact ⟨o, es, ep, inn _ _ ho (not_neut_fields fun vs q => by rw [hd] at q; cases q), hc, hd⟩
  · intro a ha
    obtain ⟨o, e⟩ := X.dom a ha
    exact ⟨o, m.others _ _ (fun q => hx a q ha) e⟩
  · have := X.sls.get e1 e2
    cases sl with
    | unk => trivial
    | imm d' => obtain ⟨u, a, b⟩ := this; exact ⟨u, hask _ _ a, b.same sm fun _ q => q⟩
    | own v' a' o' =>
      obtain ⟨a, b, c, d'⟩ := this
      refine ⟨a.imp id (hask _ _), b.frame sm (fun _ q => q) fun b' hb' => ?_, c, d'⟩
      obtain ⟨ob, e, nn⟩ := b.there b' hb'
      rw [e, inn _ _ e nn]

theorem Neut.plain {o : Obj} (x : Neut o) : Plain o := by
  obtain ⟨T, vs, hc, hT, _⟩ := x
  refine ⟨fun q => ?_, fun q => by rw [hc] at q; cases q⟩
  rw [hc] at q
  injection q with q
  subst q
  revert hT; decide
/-- a step of the frame leaves an iterator as it is -/
theorem Stp.iter {ρ' : List Sl} {h h' : Heap} {A : Around} {it : Value} {wr : List Addr} {St : List Addr → Heap → List Dt → Prop} {ds : List Dt} {any : Bool} (X : Asr F ρ h) (S : Stp F ρ ρ' h h') (I : ItOK F.G A it wr St any) (st : St (F.X ρ) h ds) : St (F.X ρ') h' ds ∧ ∀ b ∈ wr, h'.get? b = h.get? b := by
  have hw : ∀ b ∈ wr, h'.get? b = h.get? b := fun b hb => by
    obtain ⟨o, e, nt⟩ := I.neut _ _ _ st b hb
    rw [e]
    refine S.kept.same (fun q => ?_) e nt.plain
    rcases q with q | q
    · exact (X.vol0_not q e).2 nt
    · obtain ⟨ob, e', _, nn, _⟩ := X.own_plain q
      rw [e] at e'; cases e'; exact nn nt
  refine ⟨I.keep _ _ _ _ _ st hw (S.same X) fun a ha => ?_, hw⟩
  rcases List.mem_append.mp ha with q | q
  · exact .inl (List.mem_append_left _ q)
  · exact (S.own a q).imp (fun q => List.mem_append_right _ q) id

/-- a value is stored in a target -/
noncomputable def Tgt (F : FC) (target : PySem.Expr) (d : Dt) (ρ ρ' : List Sl) : Prop := ∀ s v, Asr F ρ s.heap → Rp (F.X ρ) s.heap v d → ∀ (Q : Unit → Shared → Prop) (E : Value → Shared → Prop),
  (∀ h' tk', Asr F ρ' h' → Stp F ρ ρ' s.heap h' → Q () { s with heap := h', toks := tk' }) → wpAny (model F.G.prog F.G.w) F.A (assign target F.env v) Q E s
theorem Tgt.name {i : Nat} {x : Str} {pos : Pos} {d : Dt} (hF : F.Ok n) (hx : F.names[i]? = some x) (hi : i < F.own) : Tgt F (.Name x pos) d ρ (ρ.set i (.imm d)) :=
  fun s v X r Q E hq => wpAny_assign_Name (store_ok hF X hx hi r hq)

/-- before the k-th turn of a walk over ds -/
structure LInv (F : FC) (s : Heap) (h₂ : Heap) (wr : List Addr) (St : List Addr → Heap → List Dt → Prop) (ds : List Dt) (I : Nat → List Sl) (k : Nat) (h : Heap) : Prop where
  le : k ≤ ds.length
  asr : Asr F (I k) h
  st : St (F.X (I k)) h (ds.drop k)
  kp : KpBut (F.vol (I 0)) s h
  lv : ∀ b o, s.get? b = some o → ∃ o', h.get? b = some o'
  ow : ∀ a ∈ owned (I k), a ∈ owned (I 0) ∨ h₂.get? a = none
  l2 : ∀ b o, h₂.get? b = some o → b ∉ wr → ∃ o', h.get? b = some o'
/-- how a walk starts -/
structure LBase (F : FC) (s : Heap) (h₂ : Heap) (it : Value) (wr : List Addr) (St : List Addr → Heap → List Dt → Prop) (ds : List Dt) (any : Bool) (ρ : List Sl) : Prop where
  asr : Asr F ρ h₂
  kp : KpBut (F.vol ρ) s h₂
  lv : ∀ b o, s.get? b = some o → ∃ o', h₂.get? b = some o'
  ok : ItOK F.G F.A it wr St any
  st : St (F.X ρ) h₂ ds
  new : ∀ b ∈ wr, s.get? b = none
  nb : ∀ b ∈ wr, F.G.B.get? b = none
  n0 : ∀ b ∈ wr, F.h0.get? b = none ∨ b ∈ F.P
  nx : ∀ b ∈ wr, b ∉ F.X ρ
theorem LBase.of {s h₂ : Heap} {it : Value} {wr : List Addr} {St : List Addr → Heap → List Dt → Prop} {ds : List Dt} {any : Bool} (X : Asr F ρ s) (g : Grow F.G s h₂) (ok : ItOK F.G F.A it wr St any) (st : St (F.X ρ) h₂ ds) (hw : ∀ b ∈ wr, s.get? b = none) : LBase F s h₂ it wr St ds any ρ := by
  refine ⟨X.grow g, g.kp.but, fun b o e => g.kp.live e, ok, st, hw, fun b hb => ?_, fun b hb => ?_, fun b hb q => ?_⟩
  · cases q : F.G.B.get? b with
    | none => rfl
    | some o => have := X.stays.stays b o q; rw [hw b hb] at this; cases this
  · by_cases hP : b ∈ F.P
    · exact .inr hP
    · cases q : F.h0.get? b with
      | none => exact .inl rfl
      | some o => obtain ⟨o', e⟩ := X.kept.live hP q; rw [hw b hb] at e; cases e
  · obtain ⟨o, e⟩ := X.dom b q
    rw [hw b hb] at e; cases e
theorem LBase.start {s h₂ : Heap} {it : Value} {wr : List Addr} {St : List Addr → Heap → List Dt → Prop} {ds : List Dt} {any : Bool} {I : Nat → List Sl} (B : LBase F s h₂ it wr St ds any (I 0)) : LInv F s h₂ wr St ds I 0 h₂ :=
  ⟨by lia, B.asr, by simpa using B.st, B.kp, B.lv, fun a ha => .inl ha, fun b o e _ => ⟨o, e⟩⟩
theorem LBase.turn {s h₂ : Heap} {it : Value} {wr : List Addr} {St : List Addr → Heap → List Dt → Prop} {ds : List Dt} {any : Bool} {I : Nat → List Sl} (B : LBase F s h₂ it wr St ds any (I 0)) {k : Nat} {sh : Shared} (L : LInv F s h₂ wr St ds I k sh.heap)
    {Q : Option Value → Shared → Prop} {E : Value → Shared → Prop}
    (hend : ∀ h' tk', k = ds.length → Asr F (I k) h' → Stp F (I 0) (I k) s h' → Q none { sh with heap := h', toks := tk' })
    (hitem : ∀ d v s₁, ds[k]? = some d → (∀ (target : PySem.Expr) (Q' : Unit → Shared → Prop) (E' : Value → Shared → Prop), (any || isTupE target) = true → (∀ h3 tk3, Asr F (I k) h3 → Rp (F.X (I k)) h3 v d → (∀ ρ5 h5, Asr F ρ5 h5 → Stp F (I k) ρ5 h3 h5 → Stp F (I 0) ρ5 s h5 ∧ (Wk ρ5 (I (k + 1)) → LInv F s h₂ wr St ds I (k + 1) h5)) →
        Q' () { sh with heap := h3, toks := tk3 }) → wpAny (model F.G.prog F.G.w) F.A (letOwnedTupleGo target it v) Q' E' s₁) → Q (some v) s₁) :
    wpAny (model F.G.prog F.G.w) F.A (pyNext it) Q E sh := by
  obtain ⟨X, kp₂, lv₂, ok, st₂, hw, nb, n0, nx⟩ := B
  obtain ⟨hk, Xk, st, kp, lv, ow, l2⟩ := L
  have old : ∀ a, h₂.get? a = none → s.get? a = none := fun a e => by
    cases q : s.get? a with
    | none => rfl
    | some o => obtain ⟨o', e'⟩ := lv₂ a o q; rw [e] at e'; cases e'
  have hwX : ∀ b ∈ wr, b ∉ F.X (I k) := fun b hb q => by
    rcases List.mem_append.mp q with q | q
    · exact nx b hb (List.mem_append_left _ q)
    · rcases ow b q with q | q
      · exact nx b hb (List.mem_append_right _ q)
      · obtain ⟨o, e, _⟩ := ok.neut _ _ _ st₂ b hb
        rw [q] at e; cases e
  have kmv : ∀ h', Moves wr sh.heap h' → KpBut (F.vol (I 0)) s h' ∧ (∀ b o, s.get? b = some o → ∃ o', h'.get? b = some o') := fun h' mv => by
    refine ⟨fun b o hb e => (kp b o hb e).next fun p e' => .inl (mv.others b p (fun q => by rw [hw b q] at e; cases e) e'), fun b o e => ?_⟩
    obtain ⟨o', e'⟩ := lv b o e
    exact ⟨o', mv.others b o' (fun q => by rw [hw b q] at e; cases e) e'⟩
  cases e : ds.drop k with
  | nil =>
    rw [e] at st
    have hk' : k = ds.length := by
      have := congrArg List.length e
      simp at this; lia
    refine ok.done _ sh _ _ Xk.stays st fun h' tk' mv => ?_
    obtain ⟨k1, k2⟩ := kmv h' mv
    exact hend h' tk' hk' (Xk.moved mv nb n0 hwX) ⟨k1, k2, fun a ha => (ow a ha).imp id (old a)⟩
  | cons d r =>
    rw [e] at st
    have hd : ds[k]? = some d := by
      have := congrArg (fun l => l[0]?) e
      simpa [List.getElem?_drop] using this
    have hkl : k < ds.length := (List.getElem?_eq_some_iff.mp hd).1
    refine ok.item _ sh d r _ _ Xk.stays Xk.dom st fun v s₁ hgo => hitem d v s₁ hd fun target Q' E' ha hq' => hgo target _ _ ha fun h3 tk3 rv st3 mv => ?_
    have X3 := Xk.moved mv nb n0 hwX
    obtain ⟨k1, k2⟩ := kmv h3 mv
    refine hq' h3 tk3 X3 rv fun ρ5 h5 X5 S35 => ?_
    have vs : ∀ b, F.vol (I k) b → F.vol (I 0) b ∨ s.get? b = none := fun b q => by
      rcases q with q | q
      · exact .inl (.inl q)
      · exact (ow b q).imp .inr (old b)
    have kp5 : KpBut (F.vol (I 0)) s h5 := fun b o hb e => (k1 b o hb e).next fun p e' => S35.kept b p (fun q => (vs b q).elim hb fun q => by rw [q] at e; cases e) e'
    have lv5 : ∀ b o, s.get? b = some o → ∃ o', h5.get? b = some o' := fun b o e => let ⟨o', e'⟩ := k2 b o e; S35.live b o' e'
    have ow5 : ∀ ρ6, (∀ a ∈ owned ρ6, a ∈ owned ρ5) → ∀ a ∈ owned ρ6, a ∈ owned (I 0) ∨ h₂.get? a = none := fun ρ6 hs a ha => by
      rcases S35.own a (hs a ha) with q | q
      · exact ow a q
      · cases e2 : h₂.get? a with
        | none => exact .inr rfl
        | some o =>
          by_cases hw' : a ∈ wr
          · obtain ⟨o', e3, _⟩ := ok.neut _ _ _ st3 a hw'
            rw [q] at e3; cases e3
          · obtain ⟨o', e3⟩ := l2 a o e2 hw'
            have := mv.others a o' hw' e3
            rw [q] at this; cases this
    obtain ⟨st5, hw5⟩ := Stp.iter X3 S35 ok st3
    have e5 : ds.drop (k + 1) = r := by
      have := congrArg (List.drop 1) e
      simpa [List.drop_drop, Nat.add_comm] using this
    refine ⟨⟨kp5, lv5, fun a ha => (ow5 ρ5 (fun _ q => q) a ha).imp id (old a)⟩, fun w => ⟨by lia, X5.weak w, e5 ▸ ok.keep _ _ _ _ _ st5 (fun _ _ => rfl) (.of_kp (.refl _)) fun a ha => .inl ((List.mem_append.mp ha).elim (fun q => List.mem_append_left _ q) fun q => List.mem_append_right _ (w.owned.subset q)), kp5, lv5, ow5 _ fun a ha => w.owned.subset ha, fun b o e hb => ?_⟩⟩
    obtain ⟨o', e'⟩ := l2 b o e hb
    exact S35.live b o' (mv.others b o' hb e')

theorem Ex1.for {target iter : PySem.Expr} {body : List Stmt} {pos : Pos} {ds : List Dt} {any : Bool} {I : Nat → List Sl} (hi : EvIt F ρ iter ds any) (h0 : I 0 = ρ)
    (hb : ∀ k d, ds[k]? = some d → ∃ ρ', Tgt F target d (I k) ρ' ∧ Ex F ρ' body fun fl r => match fl with | .next => Wk r (I (k + 1)) | .cont => Wk r (I (k + 1)) | .brk => Φ .next r | .ret d => Φ (.ret d) r)
    (hend : Φ .next (I ds.length)) (ha : (any || isTupE target) = true := by rfl) (hs : ∀ x, foldedSetIterable iter F.env x = pure x := by intro _; rfl) : Ex1 F ρ (.For target iter body [] pos) Φ Θ := by
  subst h0
  intro s X Q E hq _
  refine wpAny_For (hi s X _ _ fun it h₂ tk₂ wr St g₂ ok st₂ hw => ?_) hs
  have B : LBase F s.heap h₂ it wr St ds any (I 0) := .of X g₂ ok st₂ hw
  refine codeAny_forLoop_any (fun m s' => ∃ k h tk, m = ds.length - k ∧ s' = { s with heap := h, toks := tk } ∧ LInv F s.heap h₂ wr St ds I k h) (fun m s' hI => ?_) ds.length ⟨0, h₂, tk₂, by lia, rfl, B.start⟩
  obtain ⟨k, h, tk, rfl, rfl, L⟩ := hI
  refine B.turn (sh := { s with heap := h, toks := tk }) L (fun h' tk' e X' S' => wpAny_execs_nil ?_) fun d v s₁ hd hgo => hgo _ _ _ ha fun h3 tk3 X3 rv close => ?_
  · subst e; exact hq .next h' tk' .next _ hend X' trivial S'
  · obtain ⟨ρ', ht, hbd⟩ := hb k d hd
    have hkl : k < ds.length := (List.getElem?_eq_some_iff.mp hd).1
    refine ht { s with heap := h3, toks := tk3 } v X3 rv _ _ fun h4 tk4 X4 S4 => ?_
    refine hbd { s with heap := h4, toks := tk4 } X4 _ _ (fun f h5 tk5 fl ρ5 hΦ X5 hf S5 => ?_) fun _ _ _ _ _ q => q.elim
    obtain ⟨stp5, nx⟩ := close ρ5 h5 X5 (S4.trans S5)
    cases fl with
    | next =>
      cases f <;> try exact hf.elim
      exact ⟨ds.length - (k + 1), by lia, k + 1, h5, tk5, rfl, rfl, nx hΦ⟩
    | cont =>
      cases f <;> try exact hf.elim
      exact ⟨ds.length - (k + 1), by lia, k + 1, h5, tk5, rfl, rfl, nx hΦ⟩
    | brk =>
      cases f <;> try exact hf.elim
      exact hq .next h5 tk5 .next _ hΦ X5 trivial stp5
    | ret d =>
      cases f <;> try exact hf.elim
      exact hq _ h5 tk5 _ _ hΦ X5 hf stp5
end
end Mine
end

section
open PySem PySem.Calls PyProof.Rows PySem.W
namespace Mine
section
variable {F : FC} {ρ : List Sl} {n : Nat}

theorem EvIt.list {e : PySem.Expr} {ds : List Dt} (hF : F.Ok n) (h1 : Ev F ρ e (.list ds)) (hq0 : F.hd = false := by rfl) : EvIt F ρ e ds := by
  intro s X Q E hq
  refine h1 s X _ _ fun v h' tk' g r => ?_
  cases r with
  | @list l vs _ hl L R =>
  obtain ⟨nn, eL⟩ := id L
  have hne : l ≠ h'.objs.size := Nat.ne_of_lt (Heap.lt_size eL)
  refine wpAny_pyIter_list L.isList ?_
  have g2 := g.trans (.push g.stays { cls := .type "list_iterator", data := .fields #[.ref l, .int 0 0] })
  refine hq _ _ tk' _ _ g2 (itOK_walks (Walks.list (hF.hand hq0) _ l hne vs.toArray) rfl fun i h st => ?_) ⟨0, ⟨⟨_, Heap.get?_push_size _ rfl, rfl, rfl⟩, (L.kp (.push _ _)).isList⟩, by simp [R.length], fun b hb => ?_, fun j d hj v hv => ?_⟩ fun b hb => ?_
  · obtain ⟨⟨o, a, b, c⟩, _⟩ := st
    exact ⟨o, _, _, a, b, c, by decide, by simp, by decide⟩
  · rcases List.mem_cons.mp hb with rfl | hb
    · exact .inl (by simp)
    · obtain rfl := List.mem_singleton.mp hb
      exact .inr ⟨_, Heap.get?_push_of_some _ eL, .inl ⟨_, nn, rfl, .inr ⟨hl, rfl⟩⟩⟩
  · obtain ⟨v', e', r'⟩ := R.get hj
    have : vs[j]? = some v := by simpa using hv
    rw [e'] at this; cases this
    exact r'.kp (.push _ _)
  · obtain rfl := List.mem_singleton.mp hb
    exact g.kp.none (Heap.get?_none_of_le (Nat.le_refl _))
theorem EvIt.tup {e : PySem.Expr} {ds : List Dt} (hF : F.Ok n) (h1 : Ev F ρ e (.tup ds)) (hq0 : F.hd = false := by rfl) : EvIt F ρ e ds := by
  intro s X Q E hq
  refine h1 s X _ _ fun v h' tk' g r => ?_
  cases r with
  | @tup l vs _ L R =>
  obtain ⟨nn, eL⟩ := id L
  have hne : l ≠ h'.objs.size := Nat.ne_of_lt (Heap.lt_size eL)
  refine wpAny_pyIter_tuple L.isTup ?_
  have g2 := g.trans (.push g.stays { cls := .type "tuple_iterator", data := .fields #[.ref l, .int 0 0] })
  refine hq _ _ tk' _ _ g2 (itOK_walks (Walks.tuple (hF.hand hq0) _ l hne vs.toArray) rfl fun i h st => ?_) ⟨0, ⟨⟨_, Heap.get?_push_size _ rfl, rfl, rfl⟩, (L.kp (.push _ _)).isTup⟩, by simp [R.length], fun b hb => ?_, fun j d hj v hv => ?_⟩ fun b hb => ?_
  · obtain ⟨⟨o, a, b, c⟩, _⟩ := st
    exact ⟨o, _, _, a, b, c, by decide, by simp, by decide⟩
  · rcases List.mem_cons.mp hb with rfl | hb
    · exact .inl (by simp)
    · obtain rfl := List.mem_singleton.mp hb
      exact .inr ⟨_, Heap.get?_push_of_some _ eL, .inl ⟨_, nn, rfl, .inl rfl⟩⟩
  · obtain ⟨v', e', r'⟩ := R.get hj
    have : vs[j]? = some v := by simpa using hv
    rw [e'] at this; cases this
    exact r'.kp (.push _ _)
  · obtain rfl := List.mem_singleton.mp hb
    exact g.kp.none (Heap.get?_none_of_le (Nat.le_refl _))
noncomputable def signs (x : Str) : List Dt := x.cps.toList.map fun c => .str ⟨#[c]⟩
theorem EvIt.str {e : PySem.Expr} {x : Str} (hF : F.Ok n) (h1 : Ev F ρ e (.str x)) (hq0 : F.hd = false := by rfl) : EvIt F ρ e (signs x) := by
  intro s X Q E hq
  refine h1 s X _ _ fun v h' tk' g r => ?_
  cases r with
  | str _ t =>
  have fin : ∀ T, ["frame", "tuple", "list", "dict"].contains T = false → ["enumerate", "zip", "dict_itemiterator", "dict_reverseitemiterator", "odict_iterator", "itertools.zip_longest", "itertools.pairwise"].contains T = false →
      (Walks F.G.prog F.G.w F.A h'.objs.size [h'.objs.size] [h'.objs.size] x.cps.size (SignAt x) fun i h => h.IsStrIter h'.objs.size T x t i) → Q (.ref h'.objs.size) { s with heap := h'.push { cls := .type T, data := .fields #[.str x t, .int 0 0] }, toks := tk' } := fun T t1 t2 W => by
    refine hq _ _ tk' _ _ (g.trans (.push g.stays _)) (itOK_walks W rfl fun i h st => ?_) ⟨0, ⟨_, Heap.get?_push_size _ rfl, rfl, rfl⟩, by simp [signs], fun b hb => .inl hb, fun j d hj v hv => ?_⟩ fun b hb => ?_
    · obtain ⟨o, a, b, c⟩ := st
      exact ⟨o, _, _, a, b, c, t1, by simp, t2⟩
    · obtain ⟨c, u, hc, rfl⟩ := hv
      rw [Nat.zero_add] at hc
      have : d = .str ⟨#[c]⟩ := by
        unfold signs at hj
        rw [List.getElem?_map, Array.getElem?_toList, hc] at hj
        exact (Option.some.inj hj).symm
      subst this; exact .str _ _
    · obtain rfl := List.mem_singleton.mp hb
      exact g.kp.none (Heap.get?_none_of_le (Nat.le_refl _))
  cases ha : x.cps.all (· < 128)
  · exact wpAny_pyIter_wide ha (fin _ (by decide) (by decide) (Walks.strWide (hF.hand hq0) _ x t))
  · exact wpAny_pyIter_ascii ha (fin _ (by decide) (by decide) (Walks.strAscii (hF.hand hq0) _ x t))
noncomputable def countD (k : Nat) : List Dt := (List.range k).map fun i : Nat => Dt.int (i : Int)
theorem EvIt.range {j : Nat} {f : Str} {fp pos : Pos} {e : PySem.Expr} {k : Nat} (hF : F.Ok n) (hg : F.gls[j]? = some (f, .type "range")) (h1 : Ev F ρ e (.int k)) (hk : k ≤ 1000) (hs : (starEach [e] F.env).any (·.1) = false := by rfl)
    (hse : starEach [e] F.env = (false, eval e F.env) :: starEach [] F.env := by rfl) (hq0 : F.hd = false := by rfl) : EvIt F ρ (.Call (.Name f fp) [e] [] pos) (countD k) := by
  intro s X Q E hq
  refine wpAny_Call_NameR (name_glob hF hg X.stays ?_)
  refine callWith_of (P := fun h => True) ?_ (fun h st => ⟨.machine, .inr (.inl rfl), .now⟩) (evalArgs_any hs ((EvL.cons h1 .nil hse) s X pos _ _ fun vs h' tk' g r => ⟨trivial, ?_⟩))
  · have : (backTo pos (starEach [e] F.env)).any (·.1) = (starEach [e] F.env).any (·.1) := by unfold backTo; rw [List.any_map]; rfl
    rw [this, hs]; rfl
  · obtain ⟨v, rfl, r1⟩ := r.one
    cases r1 with
    | int _ t1 =>
    have h0 : Builtin.Range.rangeSize 0 (k : Int) 1 = k := by
      unfold Builtin.Range.rangeSize
      simp
      lia
    show wpAny _ _ (call (.type "range") [.int (k : Int) t1]) _ _ _
    refine call_range_1 ?_
    refine wpAny_pyIter_range (IsRange.new ..) ?_ ?_
    · unfold Builtin.Range.small
      rw [h0]
      have f1 : ∀ i : Int, -2000 ≤ i → i ≤ 2000 → Builtin.Range.rangeFitsLong i = true := fun i a b => by
        unfold Builtin.Range.rangeFitsLong
        simp; lia
      simp [f1 0 (by lia) (by lia), f1 1 (by lia) (by lia), f1 k (by lia) (by lia)]
    · rw [h0]
      have g2 := (g.trans (.push g.stays { cls := .type "range", data := .fields #[.int 0 tk', .int k t1, .int 1 (tk' + 1)] }))
      refine hq _ _ _ _ _ (g2.trans (.push g2.stays _)) (itOK_walks (Walks.range (hF.hand hq0) _ 0 1 k) rfl fun i h st => ⟨_, _, _, st, rfl, rfl, by decide, by simp [rawInt], by decide⟩) ⟨0, ?_, by simp [countD], fun b hb => .inl hb, fun j d hj v hv => ?_⟩ fun b hb => ?_
      · show Heap.get? _ _ = _
        rw [Heap.get?_push_size _ rfl]
        simp
      · obtain ⟨t, rfl⟩ := hv
        unfold countD at hj
        rw [List.getElem?_map] at hj
        obtain ⟨i, hi, rfl⟩ := Option.map_eq_some_iff.mp hj
        have : i = j := by
          rw [List.getElem?_range] at hi
          · simpa using hi.symm
          · have := (List.getElem?_eq_some_iff.mp hi).1
            simpa using this
        subst this
        rw [show (0 : Int) + ((0 + i : Nat) : Int) * 1 = (i : Int) by simp]
        exact .int _ _
      · obtain rfl := List.mem_singleton.mp hb
        exact g2.kp.none (Heap.get?_none_of_le (Nat.le_refl _))
end
end Mine
end

section
open PySem PySem.Calls PyProof.Rows PySem.W
namespace Mine
section
variable {F : FC} {ρ : List Sl} {n : Nat} {Φ : Fl → List Sl → Prop} {Θ : String → List Sl → Prop}

theorem owned_set_own {v : Value} {a : Addr} {o o' : Ob} : ∀ {ρ : List Sl} {i : Nat}, ρ[i]? = some (.own v a o) → owned (ρ.set i (.own v a o')) = owned ρ
  | [], _, e => by simp at e
  | sl :: r, 0, e => by simp only [List.getElem?_cons_zero, Option.some.injEq] at e; subst e; rfl
  | .unk :: r, i + 1, e => owned_set_own (ρ := r) (i := i) (by simpa using e)
  | .imm _ :: r, i + 1, e => owned_set_own (ρ := r) (i := i) (by simpa using e)
  | .own _ b _ :: r, i + 1, e => congrArg (b :: ·) (owned_set_own (ρ := r) (i := i) (by simpa using e))
theorem owned_two {v v' : Value} {a : Addr} {o o' : Ob} : ∀ {ρ : List Sl} {i j : Nat}, (owned ρ).Nodup → ρ[i]? = some (.own v a o) → ρ[j]? = some (.own v' a o') → i = j
  | [], _, _, _, e, _ => by simp at e
  | sl :: r, 0, 0, _, _, _ => rfl
  | sl :: r, 0, j + 1, hn, e, e' => by
    simp only [List.getElem?_cons_zero, Option.some.injEq] at e; subst e
    exact absurd (mem_owned (ρ := r) (by simpa using e')) (List.nodup_cons.mp hn).1
  | sl :: r, i + 1, 0, hn, e, e' => by
    simp only [List.getElem?_cons_zero, Option.some.injEq] at e'; subst e'
    exact absurd (mem_owned (ρ := r) (by simpa using e)) (List.nodup_cons.mp hn).1
  | sl :: r, i + 1, j + 1, hn, e, e' => congrArg (· + 1) (owned_two (ρ := r) (by cases sl <;> first | exact hn | exact (List.nodup_cons.mp hn).2) (by simpa using e) (by simpa using e'))
/-- an object of the frame's own turns -/
theorem Asr.own_turn {h h' : Heap} {i : Nat} {x : Str} {v : Value} {a : Addr} {o o' : Ob} (X : Asr F ρ h) (hx : F.names[i]? = some x) (e : ρ[i]? = some (.own v a o)) (oth : ∀ b, b ≠ a → h'.get? b = h.get? b) (hnew : Same (F.X ρ) h h' → ObAt (F.X ρ) h' v a o') (hsup : o'.sup = o.sup)
    (hc : ∀ ob es ep, h.get? a = some ob → ob.data = .dict es ep → ∃ o' es' ep', h'.get? a = some o' ∧ o'.cls = ob.cls ∧ o'.data = .dict es' ep') (hf : ∀ ob vs, h.get? a = some ob → ob.data ≠ .fields vs) (hst : ∃ ob, h'.get? a = some ob) :
    Asr F (ρ.set i (.own v a o')) h' ∧ Stp F ρ (ρ.set i (.own v a o')) h h' := by
  have hm := mem_owned e
  have hob := X.ob (List.mem_of_getElem? e)
  have t : Turn F h h' a := ⟨oth, (X.fresh a hm).1, (X.fresh a hm).2, hst, hc, fun ob vs e q => absurd q (hf ob vs e)⟩
  have haX : a ∈ F.X ρ := List.mem_append_right _ hm
  have sm : Same (F.X ρ) h h' := t.same fun ob eo q => by
    obtain ⟨ob', e', _, _, nt⟩ := X.own_plain hm
    rw [eo] at e'; cases e'
    rcases q with ⟨_, _, _, q | q⟩ | q
    · exact nt q
    · exact q.1 haX
    · exact q.1 haX
  have eX : F.X (ρ.set i (.own v a o')) = F.X ρ := by unfold FC.X; rw [owned_set_own e]
  have nv : ∀ b, F.vol0 b → b ≠ a := fun b hb q => hob.2.1 a List.mem_cons_self (q ▸ hb)
  have nocell : ∀ ob, h.get? a = some ob → ∀ u, ob.data ≠ .cell u := fun ob e' u q2 => by
    have := hob.1
    cases o with
    | list ds => obtain ⟨_, vs, ⟨_, e2⟩, _⟩ := this; rw [e'] at e2; cases e2; cases q2
    | dict p w kvs => obtain ⟨_, _, kvs, ⟨o2, es, ep, e2, _, hd, _⟩, _⟩ := this; rw [e'] at e2; cases e2; rw [hd] at q2; cases q2
    | abs l P => obtain ⟨_, ⟨o2, es, ep, e2, hd, _⟩, _⟩ := this; rw [e'] at e2; cases e2; rw [hd] at q2; cases q2
  obtain ⟨m, hml, fo, hfo, hfc⟩ := X.loc
  have el := oth _ (nv _ (.inl rfl))
  have hask : ∀ y u, Has F h y u → Has F h' y u := fun y u q => by
    rcases q with ⟨k, m', ⟨o1, es, ep, e1, r⟩, q2⟩ | ⟨k, c, q1, o1, e1, q2⟩
    · exact .inl ⟨k, m', ⟨o1, es, ep, el.trans e1, r⟩, q2⟩
    · have hca : c ≠ a := fun q => by
        subst q
        obtain ⟨ob, e', _, _, _⟩ := X.own_plain hm
        rw [e'] at e1; cases e1
        exact nocell _ e' _ q2
      exact .inr ⟨k, c, q1, o1, (oth c hca).trans e1, q2⟩
  refine ⟨⟨t.stays X.stays, t.kept X.kept, t.frs X.frs, ⟨m, ?_, fo, el.trans hfo, hfc⟩, fun y c q1 q2 => ?_, by rw [owned_set_own e]; exact X.nodup, by rw [owned_set_own e]; exact X.apart, by rw [owned_set_own e]; exact X.fresh, by rw [eX]; exact fun b hb => let ⟨o, e⟩ := X.dom b hb; t.get e, ?_, by rw [List.length_set]; exact X.len⟩,
    fun b ob hb eb => .inl ((oth b fun q => hb (.inr (q ▸ hm))).trans eb), fun b ob eb => t.get eb, fun b hb => .inl (by rw [owned_set_own e] at hb; exact hb)⟩
  · obtain ⟨o1, es, ep, e1, r⟩ := hml
    exact ⟨o1, es, ep, el.trans e1, r⟩
  · obtain ⟨u, o1, e1, q⟩ := X.cells y c q1 q2
    exact ⟨u, o1, (oth c fun q' => nocell _ (q' ▸ e1) _ q).trans e1, q⟩
  · rw [eX]
    refine .of_get fun j y sl e1 e2 => ?_
    by_cases hj : i = j
    · subst hj
      rw [List.getElem?_set] at e2
      simp only [if_true] at e2
      split at e2
      · cases e2
        obtain ⟨q1, _, q3, q4⟩ := X.sls.get e1 e
        exact ⟨q1.imp id (hask _ _), hnew sm, hsup ▸ q3, hsup ▸ q4⟩
      · cases e2
    · rw [List.getElem?_set_ne hj] at e2
      have := X.sls.get e1 e2
      cases sl with
      | unk => trivial
      | imm d' => obtain ⟨u, q1, q2⟩ := this; exact ⟨u, hask _ _ q1, q2.same sm fun _ q => q⟩
      | own v' a' o'' =>
        obtain ⟨q1, q2, q3, q4⟩ := this
        refine ⟨q1.imp id (hask _ _), q2.frame sm (fun _ q => q) fun b hb => oth b fun q => ?_, q3, q4⟩
        subst q
        rcases List.mem_cons.mp hb with q | q
        · subst q; exact hj (owned_two X.nodup e e2)
        · exact q4 _ q haX

/-- an own list's items are others -/
theorem own_list {h : Heap} {i : Nat} {x : Str} {v : Value} {a : Addr} {ds ds' : List Dt} {vs ws : List Value} {nn : Nat} (X : Asr F ρ h) (hx : F.names[i]? = some x) (e : ρ[i]? = some (.own v a (.list ds))) (hl : h.get? a = some (LO vs nn)) (f : Array Value → Array Value) (hf : f vs.toArray = ws.toArray) (hr : RpL (F.X ρ) h ws ds') :
    Asr F (ρ.set i (.own v a (.list ds'))) (h.update a (Obj.mapSeq f)) ∧ Stp F ρ (ρ.set i (.own v a (.list ds'))) h (h.update a (Obj.mapSeq f)) := by
  have hv : v = .ref a := (X.ob (List.mem_of_getElem? e)).1.1
  have hself := IsL.update (f := f) hl
  rw [hf] at hself
  refine X.own_turn hx e (fun b hb => Heap.get?_update_other _ _ (Ne.symm hb)) (fun sm => ⟨hv, ws, ⟨_, hself⟩, hr.same sm fun _ q => q⟩) rfl (fun ob es ep q1 q2 => ?_) (fun ob vs q1 q2 => ?_) ⟨_, hself⟩
  · rw [hl] at q1; cases q1; cases q2
  · rw [hl] at q1; cases q1; cases q2
noncomputable abbrev Turns (ρ : List Sl) (i : Nat) (v : Value) (a : Addr) (o : Ob) : Fl → List Sl → Prop := fun fl r => fl = .next ∧ r = ρ.set i (.own v a o)

theorem load_own {i : Nat} {x : Str} {np : Pos} {v : Value} {a : Addr} {o : Ob} {s : Shared} {Q : Value → Shared → Prop} {E : Value → Shared → Prop} (hF : F.Ok n) (X : Asr F ρ s.heap) (hx : F.names[i]? = some x) (hne : x ≠ "") (e : ρ[i]? = some (.own v a o)) (h : Q v s) :
    wpAny (model F.G.prog F.G.w) F.A (eval (.Name x np) F.env) Q E s :=
  wpAny_Name (load_has hF.kind ((X.sls.get hx e).1.resolve_left hne) h) (hF.nodebug _ (List.mem_of_getElem? hx))

theorem not_inter (hF : F.Ok n) : interactive F.env = false := by unfold interactive; rw [hF.kind]; rfl
theorem Ex1.append {i : Nat} {x : Str} {np apos cpos pos : Pos} {e : PySem.Expr} {v : Value} {a : Addr} {ds : List Dt} {d : Dt} (hF : F.Ok n) (hx : F.names[i]? = some x) (hne : x ≠ "") (h1 : ρ[i]? = some (.own v a (.list ds))) (he : Ev F ρ e d) (hsz : ds.length ≤ sizeLine)
    (hfew : ((backTo cpos (starEach [e] F.env)).all (fun x => !x.1) && (backToKw cpos (keywordEach [] F.env)).all (fun x => x.1.isSome) && decide ([e].length + ([] : List Keyword).length + (if ([] : List Keyword).isEmpty then 0 else 1) < 30)) = true := by rfl)
    (hline : (apos.endLine == cpos.line) = true := by rfl) (hb : backTo cpos (starEach [e] F.env) = [(false, eval e F.env)] := by rfl) :
    Ex1 F ρ (.Expr (.Call (.Attribute (.Name x np) "append" apos) [e] [] cpos) pos) (Turns ρ i v a (.list (ds ++ [d]))) Θ := by
  intro s X Q E hq _
  refine wpAny_Expr ?_ (not_inter hF)
  obtain ⟨hv, vs, ⟨nn, hl⟩, hr⟩ := (X.ob (List.mem_of_getElem? h1)).1
  subst hv
  refine wpAny_Call_method rfl hfew hline PySem.F.plainAttrs_list PySem.F.slot_list_append PySem.F.type_list_append (load_own hF X hx hne h1 ⟨⟨_, hl, rfl⟩, fun b e => (by cases e; exact ⟨_, hl, rfl⟩), ?_⟩)
  rw [hb]
  refine P.append_list (he s X _ _ fun w h' tk' g r => ?_)
  have X' := X.grow g
  have hl' : h'.get? a = some (LO vs nn) := g.kp.same hl (plain_ty rfl)
  obtain ⟨X2, S2⟩ := own_list (ws := vs ++ [w]) X' hx h1 hl' (fun xs => xs.push w) (by simp) ((hr.kp g.kp).append (.cons r .nil))
  exact ⟨vs.toArray, nn, by simpa [hr.length] using hsz, hl', hq .next _ tk' .next _ ⟨rfl, rfl⟩ X2 trivial ((Stp.of_grow g).trans S2)⟩
end
end Mine
end

section
open PySem PySem.Calls PyProof.Rows PySem.W
namespace Mine
noncomputable def compGo (target : PySem.Expr) (ifs : List PySem.Expr) (p : Pos) (it : Value) (env : Env) (T : Sem Fin) (c : Code) : Sem Fin := do
  standAt p
  match ← pyNext it with
  | none => pure (.done .next)
  | some v =>
    letOwnedTupleGo target it v
    assign target env v
    let ok ← forIn ifs true fun c r => if r = true then do let ok ← isTrue c env (eval c env); pure (ForInStep.yield ok) else pure (ForInStep.yield r)
    if ok then T else again c
noncomputable def compEmit (elt : PySem.Expr) (acc : Value) (env : Env) (c : Code) : Sem Fin := do
  (do let _ ← call (.builtin "list.append") [acc, ← eval elt env])
  again c
noncomputable def compIn (e iter : PySem.Expr) (d : Nat) (acc : Value) (env : Env) (c : Code) : Sem Fin := do
  let x ← eval iter env
  standAt iter.pos
  let x ← foldedSetIterable iter env x
  let _ ← runOwn (.compStart e d (← holding [x] (pyIter x)) acc env) env
  again c
theorem compTurn_1 (elt target iter : PySem.Expr) (ifs : List PySem.Expr) (scope : Scope) (pos : Pos) (it acc : Value) (env : Env) :
    compTurn (.ListComp elt [⟨target, iter, ifs, 0⟩] scope pos) 0 it acc env = compGo target ifs iter.pos it env (compEmit elt acc env (.compLoop (.ListComp elt [⟨target, iter, ifs, 0⟩] scope pos) 0 it acc env)) (.compLoop (.ListComp elt [⟨target, iter, ifs, 0⟩] scope pos) 0 it acc env) := by rfl
theorem compTurn_20 (elt target iter target2 iter2 : PySem.Expr) (ifs ifs2 : List PySem.Expr) (scope : Scope) (pos : Pos) (it acc : Value) (env : Env) :
    compTurn (.ListComp elt [⟨target, iter, ifs, 0⟩, ⟨target2, iter2, ifs2, 0⟩] scope pos) 0 it acc env = compGo target ifs iter.pos it env (compIn (.ListComp elt [⟨target, iter, ifs, 0⟩, ⟨target2, iter2, ifs2, 0⟩] scope pos) iter2 1 acc env (.compLoop (.ListComp elt [⟨target, iter, ifs, 0⟩, ⟨target2, iter2, ifs2, 0⟩] scope pos) 0 it acc env)) (.compLoop (.ListComp elt [⟨target, iter, ifs, 0⟩, ⟨target2, iter2, ifs2, 0⟩] scope pos) 0 it acc env) := by rfl
theorem compTurn_21 (elt target iter target2 iter2 : PySem.Expr) (ifs ifs2 : List PySem.Expr) (scope : Scope) (pos : Pos) (it acc : Value) (env : Env) :
    compTurn (.ListComp elt [⟨target, iter, ifs, 0⟩, ⟨target2, iter2, ifs2, 0⟩] scope pos) 1 it acc env = compGo target2 ifs2 iter2.pos it env (compEmit elt acc env (.compLoop (.ListComp elt [⟨target, iter, ifs, 0⟩, ⟨target2, iter2, ifs2, 0⟩] scope pos) 1 it acc env)) (.compLoop (.ListComp elt [⟨target, iter, ifs, 0⟩, ⟨target2, iter2, ifs2, 0⟩] scope pos) 1 it acc env) := by rfl

/-- the tests of a comprehension's clause -/
noncomputable def TrAll (F : FC) (ρ : List Sl) (ifs : List PySem.Expr) (b : Bool) : Prop := ∀ s, Asr F ρ s.heap → GivesB F.G F.A s (forIn ifs true fun c r => if r = true then do let ok ← isTrue c F.env (eval c F.env); pure (ForInStep.yield ok) else pure (ForInStep.yield r)) b
theorem TrAll.nil {F : FC} {ρ : List Sl} : TrAll F ρ [] true := fun s X _ _ hq => wpAny_tests_nil (hq s.heap s.toks (.refl X.stays))
theorem TrAll.one {F : FC} {ρ : List Sl} {c : PySem.Expr} {b : Bool} (h : Tr F ρ c b) : TrAll F ρ [c] b := fun s X _ _ hq => wpAny_tests_one (h s X _ _ hq)
/-- what is done with an item -/
noncomputable def InT (F : FC) (ρ ρ2 : List Sl) (T : Code → Sem PySem.Fin) : Prop := ∀ s, Asr F ρ s.heap → ∀ (c : Code) (Q : PySem.Fin → Shared → Prop) (E : Value → Shared → Prop), (∀ h' tk', Asr F ρ2 h' → Stp F ρ ρ2 s.heap h' → Q (.again c) { s with heap := h', toks := tk' }) → wpAny (model F.G.prog F.G.w) F.A (T c) Q E s

theorem comp_loop {F : FC} {elt target : PySem.Expr} {gens : List Comprehension} {scope : Scope} {pos : Pos} {ifs : List PySem.Expr} {p : Pos} {it acc : Value} {depth : Nat} {T : Code → Sem PySem.Fin} {s : Shared} {h₂ : Heap} {tk₂ : Nat} {wr : List Addr} {St : List Addr → Heap → List Dt → Prop} {ds : List Dt} {any : Bool} {I : Nat → List Sl} {R : Result → Shared → Prop}
    (heq : compTurn (.ListComp elt gens scope pos) depth it acc F.env = compGo target ifs p it F.env (T (.compLoop (.ListComp elt gens scope pos) depth it acc F.env)) (.compLoop (.ListComp elt gens scope pos) depth it acc F.env)) (B : LBase F s.heap h₂ it wr St ds any (I 0)) (ha : (any || isTupE target) = true)
    (hb : ∀ k d, ds[k]? = some d → ∃ ρ', Tgt F target d (I k) ρ' ∧ ∃ b, TrAll F ρ' ifs b ∧ if b then ∃ r, InT F ρ' r T ∧ Wk r (I (k + 1)) else Wk ρ' (I (k + 1)))
    (hR : ∀ h' tk', Asr F (I ds.length) h' → Stp F (I 0) (I ds.length) s.heap h' → R (.ok .next) { s with heap := h', toks := tk' }) :
    codeAny (model F.G.prog F.G.w) F.A (.compLoop (.ListComp elt gens scope pos) depth it acc F.env) R { s with heap := h₂, toks := tk₂ } := by
  refine codeAny_loop rfl (fun m s' => ∃ k h tk, m = ds.length - k ∧ s' = { s with heap := h, toks := tk } ∧ LInv F s.heap h₂ wr St ds I k h) (fun m s' hI => ?_) ds.length ⟨0, h₂, tk₂, by lia, rfl, B.start⟩
  obtain ⟨k, h, tk, rfl, rfl, L⟩ := hI
  show wpAny _ _ ((compTurn (.ListComp elt gens scope pos) depth it acc F.env).onRaise (fun x => do noteFrame x F.env; theTreesLotGoes x)) _ _ _
  refine wpAny_noted ?_
  rw [heq]
  unfold compGo
  refine wpAny_bind (wpAny_standAt (wpAny_bind ?_))
  refine B.turn (sh := { s with heap := h, toks := tk }) L (fun h' tk' e X' S' => wpAny_pure ?_) fun d v s₁ hd hgo => wpAny_bind (hgo _ _ _ ha fun h3 tk3 X3 rv close => ?_)
  · subst e; exact hR h' tk' X' S'
  · obtain ⟨ρ', ht, b, htr, hbd⟩ := hb k d hd
    have hkl : k < ds.length := (List.getElem?_eq_some_iff.mp hd).1
    refine wpAny_bind (ht { s with heap := h3, toks := tk3 } v X3 rv _ _ fun h4 tk4 X4 S4 => ?_)
    refine wpAny_bind (htr { s with heap := h4, toks := tk4 } X4 _ _ fun h5 tk5 g5 => ?_)
    have X5 := X4.grow g5
    have S5 := S4.trans (Stp.of_grow g5)
    cases b with
    | false =>
      obtain ⟨_, nx⟩ := close ρ' h5 X5 S5
      exact wpAny_pure ⟨rfl, ds.length - (k + 1), by lia, k + 1, h5, tk5, rfl, rfl, nx hbd⟩
    | true =>
      obtain ⟨r, hin, w⟩ := hbd
      refine hin { s with heap := h5, toks := tk5 } X5 _ _ _ fun h6 tk6 X6 S6 => ?_
      obtain ⟨_, nx⟩ := close r h6 X6 (S5.trans S6)
      exact ⟨rfl, ds.length - (k + 1), by lia, k + 1, h6, tk6, rfl, rfl, nx w⟩

theorem InT.emit {F : FC} {ρ : List Sl} {i : Nat} {D : Addr} {out : List Dt} {d : Dt} {elt : PySem.Expr} {x : Str} (hx : F.names[i]? = some x) (h1 : ρ[i]? = some (.own (.ref D) D (.list out))) (he : Ev F ρ elt d) (hsz : out.length ≤ sizeLine) :
    InT F ρ (ρ.set i (.own (.ref D) D (.list (out ++ [d])))) (compEmit elt (.ref D) F.env) := by
  intro s X c Q E hq
  unfold compEmit
  refine wpAny_bind (wpAny_bind (he s X _ _ fun w h' tk' g r => ?_))
  have X' := X.grow g
  obtain ⟨_, vs, ⟨nn, hl⟩, hr⟩ := (X'.ob (List.mem_of_getElem? h1)).1
  obtain ⟨X2, S2⟩ := own_list (ws := vs ++ [w]) X' hx h1 hl (fun xs => xs.push w) (by simp) (hr.append (.cons r .nil))
  refine wpAny_bind (call_meets (B := Builtin.«list.append») PySem.F.slot_list_append (show Shared.TypeIs { s with heap := h', toks := tk' } (.ref D) "list" from ⟨_, hl, rfl⟩) PySem.F.entry_list_append (PySem.F.args_list_append_2 _ _) (PySem.list_append D vs.toArray nn w (by simpa [hr.length] using hsz)) ⟨hl, ?_⟩)
  exact wpAny_pure (wpAny_pure (hq _ tk' X2 ((Stp.of_grow g).trans S2)))

theorem compStart_in {prog : Program} {w : World} {A : Around} {R : Result → Shared → Prop} {s : Shared} {elt target iter target2 iter2 : PySem.Expr} {ifs ifs2 : List PySem.Expr} {scope : Scope} {pos : Pos} {it acc : Value} {env : Env}
    (h0 : codeAny (model prog w) A (.compLoop (.ListComp elt [⟨target, iter, ifs, 0⟩, ⟨target2, iter2, ifs2, 0⟩] scope pos) 1 it acc env) R s)
    (h : ∀ (Q : Value → Shared → Prop) (E : Value → Shared → Prop), Q it s → wpAny (model prog w) A (pyIter it) Q E s) :
    codeAny (model prog w) A (.compStart (.ListComp elt [⟨target, iter, ifs, 0⟩, ⟨target2, iter2, ifs2, 0⟩] scope pos) 1 it acc env) R s := by
  refine codeAny_of_tree ?_
  show wpAny _ _ ((compStart (.ListComp elt [⟨target, iter, ifs, 0⟩, ⟨target2, iter2, ifs2, 0⟩] scope pos) 1 it acc env).onRaise (fun x => do noteFrame x env; standAt theWindowsPlace)) _ _ s
  refine wpAny_notedAt ?_
  unfold compStart
  show wpAny _ _ (ask >>= _) _ _ s
  refine wpAny_bind (wpAny_askSetting (wpAny_ite ?_))
  split
  · first
      | exact wpAny_bind (wpAny_pure (wpAny_pure (And.intro rfl h0)))
      | exact wpAny_pure (And.intro rfl h0)
  · first
      | exact wpAny_bind (wpAny_rule (wpAny_bind (wpAny_standAt (wpAny_bind (h _ _ (wpAny_pure (And.intro rfl h0)))))))
      | (refine wpAny_bind (wpAny_rule ?_); show wpAny _ _ (standAt iter2.pos >>= _) _ _ s; exact wpAny_bind (wpAny_standAt (wpAny_bind (h _ _ (wpAny_pure (And.intro rfl h0))))))
end Mine
end

section
open PySem PySem.Calls PyProof.Rows PySem.W
namespace Mine

noncomputable def relS (sc osc : Scope) : Scope := { sc with names := sc.names.map fun (n, k) => if (k == .free && osc.kind == .function && osc.names.lookup n == some .cell) then (n, .cell) else (n, k) }
theorem relabel_relS {scope : Scope} {env : Env} {osc : Scope} (h : env.scope = osc) : relabel scope env = relS scope osc := by subst h; rfl
/-- the check of a comprehension's names -/
noncomputable def compOK (osc sc : Scope) (xs caps : List Str) (gl : List (Str × Value)) : Bool :=
  sc.kind == .function && osc.kind == .function && decide ((sc.names.map (·.1)).Nodup) && sc.names.all (fun p => p.2 != .free || osc.names.lookup p.1 == some .cell) &&
    xs.all (fun x => sc.names.lookup x == some .local || sc.names.lookup x == some .cell) && caps.all (fun x => sc.names.lookup x == some .free) && gl.all (fun p => sc.names.lookup p.1 == some .globalImplicit) &&
    decide ((xs ++ caps ++ [("" : Str)]).Nodup) && (xs ++ caps).all (fun x => !(x == ("__debug__" : Str)))
structure CompOK (osc sc : Scope) (xs caps : List Str) (gl : List (Str × Value)) : Prop where
  kind : sc.kind = .function
  okind : osc.kind = .function
  keys : (sc.names.map (·.1)).Nodup
  free : ∀ x, (x, NameKind.free) ∈ sc.names → osc.names.lookup x = some .cell
  xk : ∀ x ∈ xs, sc.names.lookup x = some .local ∨ sc.names.lookup x = some .cell
  ck : ∀ x ∈ caps, sc.names.lookup x = some .free
  gk : ∀ p ∈ gl, sc.names.lookup p.1 = some .globalImplicit
  nodup : (xs ++ caps ++ [("" : Str)]).Nodup
  nodebug : ∀ x ∈ xs ++ caps ++ [("" : Str)], (x == ("__debug__" : Str)) = false
theorem CompOK.of {osc sc : Scope} {xs caps : List Str} {gl : List (Str × Value)} (h : compOK osc sc xs caps gl = true) : CompOK osc sc xs caps gl := by
  unfold compOK at h
  simp only [Bool.and_eq_true, List.all_eq_true, decide_eq_true_eq, Bool.or_eq_true, Bool.not_eq_true', beq_iff_eq] at h
  obtain ⟨⟨⟨⟨⟨⟨⟨⟨h1, h2⟩, h3⟩, h4⟩, h5⟩, h6⟩, h7⟩, h8⟩, h9⟩ := h
  refine ⟨h1, h2, h3, fun x hx => ?_, h5, h6, h7, h8, fun x hx => ?_⟩
  · rcases h4 _ hx with q | q
    · simp at q
    · exact q
  · rcases List.mem_append.mp hx with q | q
    · exact h9 x q
    · obtain rfl := List.mem_singleton.mp q; decide

theorem lookup_of_mem {β : Type} : ∀ {l : List (Str × β)} {x : Str} {k : β}, (l.map (·.1)).Nodup → (x, k) ∈ l → l.lookup x = some k
  | (a, b) :: r, x, k, hn, hm => by
    rcases List.mem_cons.mp hm with q | q
    · cases q; simp
    · have hn' := List.nodup_cons.mp hn
      have : x ≠ a := fun e => hn'.1 (e ▸ List.mem_map_of_mem (f := (·.1)) q)
      rw [List.lookup_cons, show (x == a) = false by simpa using this]
      exact lookup_of_mem hn'.2 q
theorem lookup_append' {β : Type} : ∀ (l m : List (Str × β)) (x : Str), (l ++ m).lookup x = (l.lookup x).or (m.lookup x)
  | [], m, x => by simp
  | (a, b) :: r, m, x => by
    rw [List.cons_append, List.lookup_cons, List.lookup_cons]
    cases x == a
    · exact lookup_append' r m x
    · rfl
theorem cellsFrom_acc : ∀ (names : List (Str × NameKind)) (n : Nat) (acc : List (Str × Addr)), cellsFrom n names acc = cellsFrom n names [] ++ acc
  | [], _, _ => rfl
  | (x, k) :: r, n, acc => by
    unfold cellsFrom
    split
    · rw [cellsFrom_acc r _ ((x, n) :: acc), cellsFrom_acc r _ [(x, n)], List.append_assoc]; rfl
    · exact cellsFrom_acc r n acc
theorem cellsFrom_key : ∀ (names : List (Str × NameKind)) (n : Nat) {x : Str} {c : Addr}, (x, c) ∈ cellsFrom n names [] → (x, NameKind.cell) ∈ names
  | [], _, _, _, h => by cases h
  | (y, k) :: r, n, x, c, h => by
    unfold cellsFrom at h
    split at h
    · rename_i hk
      rw [cellsFrom_acc] at h
      rcases List.mem_append.mp h with q | q
      · exact .tail _ (cellsFrom_key r _ q)
      · obtain ⟨rfl, _⟩ : x = y ∧ c = n := by simpa using q
        have : k = .cell := by simpa using hk
        subst this; exact .head _
    · exact .tail _ (cellsFrom_key r _ h)
/-- the cells that a comprehension takes along -/
noncomputable def closOf (env : Env) : List (Str × NameKind) → List (Str × Addr) → List (Str × Addr)
  | [], cs => cs
  | (x, k) :: r, cs => if k == .free then closOf env r ((x, (env.cells.lookup x).getD 0) :: cs) else closOf env r cs
theorem closOf_mem (env : Env) : ∀ (l : List (Str × NameKind)) (cs : List (Str × Addr)) {x : Str} {c : Addr}, (x, c) ∈ closOf env l cs → (x, c) ∈ cs ∨ ((x, NameKind.free) ∈ l ∧ c = (env.cells.lookup x).getD 0)
  | [], _, _, _, h => .inl h
  | (y, k) :: r, cs, x, c, h => by
    unfold closOf at h
    split at h
    · rename_i hk
      have : k = .free := by simpa using hk
      subst this
      rcases closOf_mem env r _ h with q | q
      · rcases List.mem_cons.mp q with q | q
        · cases q; exact .inr ⟨.head _, rfl⟩
        · exact .inl q
      · exact .inr ⟨.tail _ q.1, q.2⟩
    · rcases closOf_mem env r _ h with q | q
      · exact .inl q
      · exact .inr ⟨.tail _ q.1, q.2⟩
theorem closOf_has (env : Env) : ∀ (l : List (Str × NameKind)) (cs : List (Str × Addr)) {x : Str}, ((x, NameKind.free) ∈ l ∨ ∃ c, (x, c) ∈ cs) → ∃ c, (x, c) ∈ closOf env l cs
  | [], _, _, h => h.elim (fun q => nomatch q) id
  | (y, k) :: r, cs, x, h => by
    unfold closOf
    split
    · refine closOf_has env r _ ?_
      rcases h with q | ⟨c, q⟩
      · rcases List.mem_cons.mp q with q | q
        · cases q; exact .inr ⟨_, .head _⟩
        · exact .inl q
      · exact .inr ⟨c, .tail _ q⟩
    · rename_i hk
      refine closOf_has env r _ ?_
      rcases h with q | q
      · rcases List.mem_cons.mp q with q | q
        · cases q; exact absurd rfl hk
        · exact .inl q
      · exact .inr q
theorem closureFor_eq {scope : Scope} {env : Env} (h : ∀ x, (x, NameKind.free) ∈ scope.names → (env.cells.lookup x).isSome = true) : closureFor scope env = pure (closOf env scope.names []) := by
  unfold closureFor
  have key : ∀ (l : List (Str × NameKind)) (cs : List (Str × Addr)), (∀ x, (x, NameKind.free) ∈ l → (env.cells.lookup x).isSome = true) →
      (forIn l cs fun (p : Str × NameKind) cs => (if p.2 == .free then do let c ← cellOf env p.1; pure (ForInStep.yield ((p.1, c) :: cs)) else pure (ForInStep.yield cs) : Sem (ForInStep (List (Str × Addr))))) = pure (closOf env l cs) := by
    intro l
    induction l with
    | nil => intro cs _; rfl
    | cons p r ih =>
      obtain ⟨x, k⟩ := p
      intro cs hl
      rw [List.forIn_cons]
      unfold closOf
      have hr : ∀ x, (x, NameKind.free) ∈ r → (env.cells.lookup x).isSome = true := fun x hx => hl x (.tail _ hx)
      cases hk : k == NameKind.free with
      | true =>
        have : k = .free := by simpa using hk
        subst this
        obtain ⟨c, hc⟩ := Option.isSome_iff_exists.mp (hl x (.head _))
        simp only [hk, if_true, cellOf, hc, pure_bind, Option.getD_some]
        exact ih _ hr
      | false =>
        simp only [hk, Bool.false_eq_true, if_false, pure_bind]
        exact ih _ hr
  have := key scope.names [] h
  first
    | exact this
    | (simp only [bind_pure]; exact this)
    | (rw [show (forIn scope.names [] _ >>= pure : Sem _) = forIn scope.names [] _ from bind_pure _]; exact this)
end Mine
end

section
open PySem PySem.Calls PyProof.Rows PySem.W
namespace Mine

theorem lookup_mapk {f : Str × NameKind → Str × NameKind} {g : Str → NameKind → NameKind} (hf : ∀ n k, f (n, k) = (n, g n k)) : ∀ (l : List (Str × NameKind)) (x : Str), (l.map f).lookup x = (l.lookup x).map (g x)
  | [], x => rfl
  | (a, b) :: r, x => by
    rw [List.map_cons, hf, List.lookup_cons, List.lookup_cons]
    cases h : x == a
    · exact lookup_mapk hf r x
    · obtain rfl : x = a := by simpa using h
      rfl
theorem relS_lookup (sc osc : Scope) (x : Str) : (relS sc osc).names.lookup x = (sc.names.lookup x).map fun k => if (k == .free && osc.kind == .function && osc.names.lookup x == some .cell) then .cell else k := by
  unfold relS
  exact lookup_mapk (g := fun n k => if (k == .free && osc.kind == .function && osc.names.lookup n == some .cell) then .cell else k) (fun n k => by dsimp only; split <;> rfl) _ _

/-- a name of the module, or a built-in one, that a comprehension may read -/
noncomputable def GlOK (G : GC) (p : Str × Value) : Prop := GName G p.1 p.2 ∧ Road G p.2 ∧ (p.1 == ("__debug__" : Str)) = false
noncomputable def compEnv (scope : Scope) (env : Env) (C : Addr) : Env :=
  { scope := relabel scope env, locals := C, globals := env.globals, cells := cellsFrom (C + 1) scope.names (closOf env scope.names []), qual := env.qual, func := none, code := env.code, frame := env.frame, builtins := env.builtins }
noncomputable def FC.comp (F : FC) (ρ : List Sl) (scope : Scope) (C : Addr) (xs caps : List Str) (gl : List (Str × Value)) : FC :=
  { G := F.G, A := F.A, env := compEnv scope F.env C, names := xs ++ caps ++ [("" : Str)], own := xs.length, gls := gl, sc := relS scope F.sc, h0 := F.h0, P := F.P, X0 := C :: F.X ρ, hd := F.hd }

section
variable {F : FC} {ρ : List Sl} {n : Nat} {scope : Scope} {C : Addr} {xs caps : List Str} {gl : List (Str × Value)}
theorem comp_kind (hF : F.Ok n) (x : Str) : (F.comp ρ scope C xs caps gl).env.kindOf x = (relS scope F.sc).names.lookup x := by
  show (relabel scope F.env).names.lookup x = _
  rw [relabel_relS hF.scope]
theorem kind_eq (hF : F.Ok n) (x : Str) : F.env.kindOf x = F.sc.names.lookup x := by
  show F.env.scope.names.lookup x = _
  rw [hF.scope]

/-- the cells of a comprehension's frame: those of its own, those taken along -/
theorem comp_cell (hF : F.Ok n) (K : CompOK F.sc scope xs caps gl) {x : Str} {c : Addr} (h : (F.comp ρ scope C xs caps gl).env.cells.lookup x = some c) :
    ((x, NameKind.cell) ∈ scope.names ∧ (x, c) ∈ cellsFrom (C + 1) scope.names []) ∨ ((x, NameKind.free) ∈ scope.names ∧ F.env.kindOf x = some .cell ∧ F.env.cells.lookup x = some c) := by
  have e : (F.comp ρ scope C xs caps gl).env.cells = cellsFrom (C + 1) scope.names [] ++ closOf F.env scope.names [] := cellsFrom_acc _ _ _
  rw [e, lookup_append'] at h
  rcases Option.or_eq_some_iff.mp h with q | ⟨_, q⟩
  · have := mem_of_lookup q
    exact .inl ⟨cellsFrom_key _ _ this, this⟩
  · rcases closOf_mem _ _ _ (mem_of_lookup q) with q | ⟨q, e⟩
    · cases q
    · have hk : F.env.kindOf x = some .cell := (kind_eq hF x).trans (K.free x q)
      obtain ⟨c', hc'⟩ := Option.isSome_iff_exists.mp (hF.cs x hk)
      rw [hc', Option.getD_some] at e
      subst e
      exact .inr ⟨q, hk, hc'⟩
theorem comp_free (hF : F.Ok n) (K : CompOK F.sc scope xs caps gl) {x : Str} (h : (x, NameKind.free) ∈ scope.names) : (F.comp ρ scope C xs caps gl).env.cells.lookup x = F.env.cells.lookup x ∧ (F.comp ρ scope C xs caps gl).env.kindOf x = some .cell := by
  have hk : F.env.kindOf x = some .cell := (kind_eq hF x).trans (K.free x h)
  constructor
  · obtain ⟨c, hc⟩ := closOf_has F.env scope.names [] (.inl h)
    have e : (F.comp ρ scope C xs caps gl).env.cells = cellsFrom (C + 1) scope.names [] ++ closOf F.env scope.names [] := cellsFrom_acc _ _ _
    have hno : (cellsFrom (C + 1) scope.names []).lookup x = none := by
      cases q : (cellsFrom (C + 1) scope.names []).lookup x with
      | none => rfl
      | some c' =>
        have := lookup_of_mem K.keys (cellsFrom_key _ _ (mem_of_lookup q))
        rw [lookup_of_mem K.keys h] at this; cases this
    rw [e, lookup_append', hno, Option.none_or]
    cases q : (closOf F.env scope.names []).lookup x with
    | none =>
      have : ∀ {l : List (Str × Addr)}, (x, c) ∈ l → (l.lookup x).isSome = true := by
        intro l
        induction l with
        | nil => intro h; cases h
        | cons p r ih =>
          intro h
          obtain ⟨a, b⟩ := p
          rw [List.lookup_cons]
          cases e : x == a with
          | true => rfl
          | false =>
            rcases List.mem_cons.mp h with q | q
            · cases q; simp at e
            · exact ih q
      have := this hc
      rw [q] at this; cases this
    | some c' =>
      rcases closOf_mem _ _ _ (mem_of_lookup q) with q2 | ⟨_, e2⟩
      · cases q2
      · obtain ⟨c2, hc2⟩ := Option.isSome_iff_exists.mp (hF.cs x hk)
        rw [e2, hc2, Option.getD_some]
  · rw [comp_kind hF, relS_lookup, lookup_of_mem K.keys h]
    have h1 : F.sc.names.lookup x = some .cell := K.free x h
    simp [h1, K.okind]
theorem comp_local (hF : F.Ok n) {x : Str} {k : NameKind} (h : scope.names.lookup x = some k) (hk : k ≠ .free) : (F.comp ρ scope C xs caps gl).env.kindOf x = some k := by
  rw [comp_kind hF, relS_lookup, h]
  have : (k == NameKind.free) = false := by simpa using hk
  simp only [Option.map_some, this, Bool.false_and, Bool.false_eq_true, if_false]
theorem cellsFrom_lo : ∀ (l : List (Str × NameKind)) (m : Nat) {x : Str} {c : Addr}, (x, c) ∈ cellsFrom m l [] → m ≤ c
  | [], _, _, _, h => by cases h
  | (y, k) :: r, m, x, c, h => by
    unfold cellsFrom at h
    split at h
    · rw [cellsFrom_acc] at h
      rcases List.mem_append.mp h with q | q
      · exact Nat.le_trans (Nat.le_succ m) (cellsFrom_lo r (m + 1) q)
      · obtain ⟨_, rfl⟩ : x = y ∧ c = m := by simpa using q
        exact Nat.le_refl _
    · exact cellsFrom_lo r m h
theorem cellsFrom_one : ∀ (l : List (Str × NameKind)) (m : Nat) {x y : Str} {c : Addr}, (x, c) ∈ cellsFrom m l [] → (y, c) ∈ cellsFrom m l [] → x = y
  | [], _, _, _, _, h, _ => by cases h
  | (z, k) :: r, m, x, y, c, h, h' => by
    unfold cellsFrom at h h'
    split at h
    · rename_i hk
      rw [if_pos hk] at h'
      rw [cellsFrom_acc] at h h'
      rcases List.mem_append.mp h with q | q <;> rcases List.mem_append.mp h' with q' | q'
      · exact cellsFrom_one r _ q q'
      · obtain ⟨_, rfl⟩ : y = z ∧ c = m := by simpa using q'
        exact absurd (cellsFrom_lo r _ q) (Nat.not_succ_le_self _)
      · obtain ⟨_, rfl⟩ : x = z ∧ c = m := by simpa using q
        exact absurd (cellsFrom_lo r _ q') (Nat.not_succ_le_self _)
      · obtain ⟨rfl, _⟩ : x = z ∧ c = m := by simpa using q
        obtain ⟨rfl, _⟩ : y = x ∧ c = m := by simpa using q'
        rfl
    · rename_i hk
      rw [if_neg hk] at h'
      exact cellsFrom_one r _ h h'
theorem mem_of_lookup_kind {x : Str} {k : NameKind} (h : scope.names.lookup x = some k) : (x, k) ∈ scope.names := mem_of_lookup h

theorem comp_ok {h : Heap} (hF : F.Ok n) (K : CompOK F.sc scope xs caps gl) (X : Asr F ρ h) (hC : h.objs.size ≤ C) (hgl : ∀ p ∈ gl, GlOK F.G p) : (F.comp ρ scope C xs caps gl).Ok n := by
  have hnone : ∀ b, C ≤ b → h.get? b = none := fun b hb => Heap.get?_none_of_le (Nat.le_trans hC hb)
  have nbG : ∀ b, C ≤ b → F.G.B.get? b = none := fun b hb => by
    cases q : F.G.B.get? b with
    | none => rfl
    | some o => have := X.stays.stays b o q; rw [hnone b hb] at this; cases this
  have hsets : ∀ x ∈ xs, (F.comp ρ scope C xs caps gl).env.kindOf x = some .local ∨ (F.comp ρ scope C xs caps gl).env.kindOf x = some .cell := fun x hx => (K.xk x hx).imp (fun q => comp_local hF q (by decide)) fun q => comp_local hF q (by decide)
  have hcs : ∀ x, (F.comp ρ scope C xs caps gl).env.kindOf x = some .cell → ((F.comp ρ scope C xs caps gl).env.cells.lookup x).isSome = true := fun x hx => by
    rw [comp_kind hF, relS_lookup] at hx
    obtain ⟨k, hk, e⟩ := Option.map_eq_some_iff.mp hx
    by_cases hf : k = .free
    · subst hf
      rw [(comp_free hF K (mem_of_lookup hk)).1]
      exact hF.cs x ((kind_eq hF x).trans (K.free x (mem_of_lookup hk)))
    · have : (k == NameKind.free) = false := by simpa using hf
      simp only [this, Bool.false_and, Bool.false_eq_true, if_false] at e
      subst e
      exact cellsFrom_some _ _ _ (.inl hk)
  have inC : ∀ x c, (x, c) ∈ cellsFrom (C + 1) scope.names [] → C + 1 ≤ c := fun x c hm => cellsFrom_lo _ _ hm
  have h0n : ∀ b, C ≤ b → F.h0.get? b = none ∨ b ∈ F.P := fun b hb => by
    by_cases hP : b ∈ F.P
    · exact .inr hP
    · cases q : F.h0.get? b with
      | none => exact .inl rfl
      | some o => obtain ⟨o', e⟩ := X.kept.live hP q; rw [hnone b hb] at e; cases e
  refine ⟨relabel_relS hF.scope, K.kind, hF.globs, hF.builtins, hF.hand, hF.depth, hF.units, hF.nolimit, K.nodup, K.nodebug, nbG C (Nat.le_refl _), ?_, fun x c hk hl => ?_, hcs, fun x y c h1 h2 => ?_, fun i x hx hi => ?_, fun p hp => ?_, hF.top⟩
  · exact h0n C (Nat.le_refl _)
  · rcases comp_cell hF K hl with ⟨_, q⟩ | ⟨_, q1, q2⟩
    · have := Nat.le_of_succ_le (inC x c q)
      exact ⟨nbG c this, h0n c this⟩
    · exact hF.cells x c q1 q2
  · have mix : ∀ {x y c}, (x, c) ∈ cellsFrom (C + 1) scope.names [] → F.env.kindOf y = some .cell → F.env.cells.lookup y = some c → False := fun {x y c} q k l => by
      obtain ⟨v, o, e, _⟩ := X.cells y c k l
      exact absurd (Heap.lt_size e) (Nat.not_lt.mpr (Nat.le_trans hC (Nat.le_of_succ_le (inC x c q))))
    rcases comp_cell hF K h1 with ⟨_, q⟩ | ⟨_, k, l⟩ <;> rcases comp_cell hF K h2 with ⟨_, q'⟩ | ⟨_, k', l'⟩
    · exact cellsFrom_one _ _ q q'
    · exact (mix q k' l').elim
    · exact (mix q' k l).elim
    · exact hF.apart x y c l l'
  · have hx' : x ∈ xs := by
      have e : (F.comp ρ scope C xs caps gl).names = xs ++ (caps ++ [("" : Str)]) := List.append_assoc _ _ _
      rw [e, List.getElem?_append_left hi] at hx
      exact List.mem_of_getElem? hx
    exact (hsets x hx').imp id fun q => ⟨q, hcs x q⟩
  · obtain ⟨b, c, d⟩ := hgl p hp
    exact ⟨comp_local hF (K.gk p hp) (by decide), b, c, d⟩
end
end Mine
end

section
open PySem PySem.Calls PyProof.Rows PySem.W
namespace Mine

theorem newCompEnv {M : Model} {A : Around} {E : Value → Shared → Prop} {s : Shared} {scope : Scope} {env : Env} {Q : Env → Shared → Prop}
    (hQ : ∀ cenv h', { cenv with scope := relabel scope env } = compEnv scope env s.heap.objs.size → cenv.locals = s.heap.objs.size → (∀ b o, s.heap.get? b = some o → h'.get? b = some o) → h'.get? s.heap.objs.size = some { cls := .type "dict", data := .dict #[] } →
      (∀ x c, (x, c) ∈ cellsFrom (s.heap.objs.size + 1) scope.names [] → h'.IsCell c none) → Q cenv { s with heap := h' }) :
    wpAny M A (newFunctionEnv scope env.globals (closOf env scope.names []) [] env.qual none .none (some env)) Q E s := by
  simp only [newFunctionEnv, Option.isSome_some, if_true]
  refine wpAny_bind (wpAny_alloc ?_)
  refine wpAny_bind (wpAny_layCells _ (fun name kind cells => by cases hkc : kind == NameKind.cell <;> simp [hkc]) _ _ _ _ ?_)
  have hsz : (s.heap.push { cls := .type "dict", data := .dict #[] }).objs.size = s.heap.objs.size + 1 := Heap.size_push ..
  have ok := cellsFrom_ok scope.names (s.heap.push { cls := .type "dict", data := .dict #[] }) (s.heap.objs.size + 1) [] ⟨fun _ _ hm => (nomatch hm), List.Pairwise.nil⟩ (by rw [hsz]; exact Nat.le_refl _)
  have kp := pushCells_keeps scope.names (s.heap.push { cls := .type "dict", data := .dict #[] })
  rw [hsz] at ok
  rw [show ({ s with heap := s.heap.push { cls := .type "dict", data := .dict #[] } } : Shared).heap.objs.size = s.heap.objs.size + 1 from hsz]
  refine wpAny_bind ?_
  rw [List.forIn_nil]
  refine wpAny_pure (wpAny_pure (hQ _ _ rfl rfl (fun b o e => kp _ _ (Heap.get?_push_of_some _ e)) (kp _ _ (Heap.get?_push_size _ rfl)) fun x c hm => (ok.empty x c hm).1))

section
variable {F : FC} {ρ : List Sl} {n : Nat} {scope : Scope} {C : Addr} {xs caps : List Str} {gl : List (Str × Value)}
/-- the frame's slots: the names of its own, what is taken along, the list that is made -/
noncomputable def cst (xs : List Str) (cs : List Dt) (D : Addr) (out : List Dt) : List Sl := List.replicate xs.length Sl.unk ++ cs.map Sl.imm ++ [.own (.ref D) D (.list out)]
theorem cst_owned (xs : List Str) (cs : List Dt) (D : Addr) (out : List Dt) : owned (cst xs cs D out) = [D] := by
  unfold cst
  rw [owned_append, owned_append, owned_unk, owned_imm]; rfl
theorem cst_acc (xs : List Str) (cs : List Dt) (D : Addr) (out : List Dt) : (cst xs cs D out)[xs.length + cs.length]? = some (.own (.ref D) D (.list out)) := by
  unfold cst
  rw [List.getElem?_append_right (by simp)]
  simp
/-- what is taken along is known -/
noncomputable def Caps (F : FC) (ρ : List Sl) (caps : List Str) (cs : List Dt) : Prop := caps.length = cs.length ∧ ∀ (j : Nat) (x : Str) (d : Dt), caps[j]? = some x → cs[j]? = some d → ∃ i : Nat, F.names[i]? = some x ∧ ρ[i]? = some (Sl.imm d)
theorem Caps.nil : Caps F ρ [] [] := ⟨rfl, fun j x d e => by simp at e⟩
theorem Caps.cons {x : Str} {r : List Str} {d : Dt} {ds : List Dt} {i : Nat} (hx : F.names[i]? = some x) (hd : ρ[i]? = some (.imm d)) (h : Caps F ρ r ds) : Caps F ρ (x :: r) (d :: ds) :=
  ⟨congrArg (· + 1) h.1, fun j y e h1 h2 => by
    cases j with
    | zero => simp at h1 h2; subst h1 h2; exact ⟨i, hx, hd⟩
    | succ j => exact h.2 j y e (by simpa using h1) (by simpa using h2)⟩

theorem comp_start {cs : List Dt} {D : Addr} {h₂ h : Heap} (hF : F.Ok n) (K : CompOK F.sc scope xs caps gl) (X : Asr F ρ h₂) (hc : Caps F ρ caps cs)
    (kp : ∀ b o, h₂.get? b = some o → h.get? b = some o) (hD : D = h₂.objs.size) (eD : h.get? D = some (LO [] 0)) (hC : C = h₂.objs.size + 1) (eC : h.get? C = some { cls := .type "dict", data := .dict #[] })
    (hcell : ∀ x c, (x, c) ∈ cellsFrom (C + 1) scope.names [] → h.IsCell c none) : Asr (F.comp ρ scope C xs caps gl) (cst xs cs D []) h := by
  have fresh : ∀ b, h₂.objs.size ≤ b → h₂.get? b = none := fun b hb => Heap.get?_none_of_le hb
  have nbG : ∀ b, h₂.objs.size ≤ b → F.G.B.get? b = none := fun b hb => by
    cases q : F.G.B.get? b with
    | none => rfl
    | some o => have := X.stays.stays b o q; rw [fresh b hb] at this; cases this
  have h0n : ∀ b, h₂.objs.size ≤ b → F.h0.get? b = none ∨ b ∈ F.P := fun b hb => by
    by_cases hP : b ∈ F.P
    · exact .inr hP
    · cases q : F.h0.get? b with
      | none => exact .inl rfl
      | some o => obtain ⟨o', e⟩ := X.kept.live hP q; rw [fresh b hb] at e; cases e
  have hDC : D ≠ C := by rw [hD, hC]; exact Nat.ne_of_lt (Nat.lt_succ_self _)
  have hnX : ∀ b, h₂.objs.size ≤ b → b ∉ F.X ρ := fun b hb q => by
    obtain ⟨o, e⟩ := X.dom b q
    rw [fresh b hb] at e; cases e
  have hnD := hnX D (by rw [hD]; exact Nat.le_refl _)
  have eX : (F.comp ρ scope C xs caps gl).X (cst xs cs D []) = (C :: F.X ρ) ++ [D] := by
    unfold FC.X; rw [cst_owned]; rfl
  refine ⟨X.stays.keep kp, (X.kept.trans (Kp.of_keep kp).but : KpBut (· ∈ F.P) F.h0 h), X.frs.kp (.of_keep kp), ⟨fun _ => none, .of_empty ⟨_, #[], 0, eC, rfl, by intro e he; simp at he, fun _ => rfl⟩, _, eC, .inr ⟨rfl, .head _⟩⟩, fun x c k l => ?_, by rw [cst_owned]; exact List.nodup_cons.mpr ⟨List.not_mem_nil, .nil⟩, fun a ha => ?_, fun a ha => ?_, fun a ha => ?_, ?_, ?_⟩
  · rcases comp_cell hF K l with ⟨_, q⟩ | ⟨_, q1, q2⟩
    · exact ⟨_, hcell x c q⟩
    · obtain ⟨v, q⟩ := X.cells x c q1 q2
      exact ⟨v, q.keeps kp⟩
  · rw [cst_owned] at ha
    obtain rfl := List.mem_singleton.mp ha
    exact fun q => (List.mem_cons.mp q).elim hDC hnD
  · rw [cst_owned] at ha
    obtain rfl := List.mem_singleton.mp ha
    exact ⟨nbG _ (by rw [hD]; exact Nat.le_refl _), h0n _ (by rw [hD]; exact Nat.le_refl _)⟩
  · rw [eX] at ha
    rcases List.mem_append.mp ha with q | q
    · rcases List.mem_cons.mp q with q | q
      · subst q; exact ⟨_, eC⟩
      · obtain ⟨o, e⟩ := X.dom a q; exact ⟨o, kp a o e⟩
    · obtain rfl := List.mem_singleton.mp q; exact ⟨_, eD⟩
  · rw [eX]
    refine .of_get fun i x sl hx hsl => ?_
    have hx : (xs ++ caps ++ [("" : Str)])[i]? = some x := hx
    unfold cst at hsl
    by_cases h1 : i < xs.length
    · rw [List.append_assoc, List.getElem?_append_left (by simpa using h1), List.getElem?_replicate, if_pos h1] at hsl
      cases hsl; trivial
    · have h1 : xs.length ≤ i := Nat.not_lt.mp h1
      rw [List.append_assoc, List.getElem?_append_right (by simpa using h1), List.length_replicate] at hsl
      rw [List.append_assoc, List.getElem?_append_right h1] at hx
      generalize i - xs.length = j at hx hsl
      by_cases h2 : j < cs.length
      · rw [List.getElem?_append_left (by simpa using h2), List.getElem?_map] at hsl
        obtain ⟨d, hd, rfl⟩ := Option.map_eq_some_iff.mp hsl
        rw [List.getElem?_append_left (by rw [hc.1]; exact h2)] at hx
        obtain ⟨i', e1, e2⟩ := hc.2 j x d hx hd
        obtain ⟨v, hv, hr⟩ := X.sls.get e1 e2
        refine ⟨v, .inr ?_, (hr.more fun a ha => ?_).kp (.of_keep kp)⟩
        · have hfree := mem_of_lookup_kind (K.ck x (List.mem_of_getElem? hx))
          obtain ⟨f1, f2⟩ := comp_free (ρ := ρ) (C := C) hF K hfree
          have hk : F.env.kindOf x = some .cell := (kind_eq hF x).trans (K.free x hfree)
          rcases hv with ⟨q, _⟩ | ⟨_, c, q1, q2⟩
          · rw [hk] at q; cases q
          · exact ⟨.inl f2, c, f1.trans q1, q2.keeps kp⟩
        · rcases List.mem_append.mp ha with q | q
          · rcases List.mem_cons.mp q with q | q
            · subst q; exact .inr (fresh _ (by rw [hC]; exact Nat.le_succ _))
            · exact .inl q
          · obtain rfl := List.mem_singleton.mp q; exact .inr (fresh _ (by rw [hD]; exact Nat.le_refl _))
      · have h2 : cs.length ≤ j := Nat.not_lt.mp h2
        rw [List.getElem?_append_right (by simpa using h2), List.length_map] at hsl
        rw [List.getElem?_append_right (by rw [hc.1]; exact h2), hc.1] at hx
        generalize j - cs.length = l at hx hsl
        cases l with
        | succ l => simp at hsl
        | zero =>
          simp only [List.getElem?_cons_zero, Option.some.injEq] at hx hsl
          subst hx hsl
          refine ⟨.inl rfl, ⟨rfl, [], ⟨0, eD⟩, .nil⟩, fun b hb => ?_, fun b hb => by cases hb⟩
          obtain rfl := List.mem_singleton.mp hb
          rintro (q | ⟨i, y, hy, hi, hk, hl⟩)
          · exact hDC q
          · rcases comp_cell hF K hl with ⟨_, q⟩ | ⟨_, q1, q2⟩
            · have := cellsFrom_lo _ _ q
              rw [hD, hC] at this
              exact absurd this (by lia)
            · obtain ⟨v, o, e, _⟩ := X.cells y _ q1 q2
              exact absurd (Heap.lt_size e) (by rw [hD]; exact Nat.lt_irrefl _)
  · show (cst xs cs D []).length = (xs ++ caps ++ [("" : Str)]).length
    unfold cst
    have := hc.1
    simp; lia
end
end Mine
end

section
open PySem PySem.Calls PyProof.Rows PySem.W
namespace Mine
section
variable {F : FC} {ρ : List Sl} {n : Nat} {scope : Scope} {xs caps : List Str} {gl : List (Str × Value)}

/-- the end of a comprehension's walk -/
noncomputable def EndC (F : FC) (ρ : List Sl) (h h' : Heap) (C D : Addr) (out : List Dt) : Prop :=
  Grow F.G h h' ∧ Rp (C :: F.X ρ) h' (.ref D) (.list out) ∧ h.get? C = none ∧ (∃ m, h'.Ns C m) ∧ (∃ o es ep, h'.get? C = some o ∧ o.data = .dict es ep ∧ o.cls = .type "dict") ∧ F.G.B.get? C = none ∧ (F.h0.get? C = none ∨ C ∈ F.P)
theorem comp_core {elt target iter : PySem.Expr} {ifs : List PySem.Expr} {rest : List Comprehension} {pos : Pos} {T : Addr → Env → Code → Sem PySem.Fin} {ds out : List Dt} {any : Bool} {cs : List Dt} (st : Addr → Nat → List Sl) (hF : F.Ok n) (hi : EvIt F ρ iter ds any) (ha : (any || isTupE target) = true) (hK : compOK F.sc scope xs caps gl = true) (hc : Caps F ρ caps cs) (hgl : ∀ p ∈ gl, GlOK F.G p)
    (heq : ∀ it D env, compTurn (.ListComp elt (⟨target, iter, ifs, 0⟩ :: rest) scope pos) 0 it (.ref D) env = compGo target ifs iter.pos it env (T D env (.compLoop (.ListComp elt (⟨target, iter, ifs, 0⟩ :: rest) scope pos) 0 it (.ref D) env)) (.compLoop (.ListComp elt (⟨target, iter, ifs, 0⟩ :: rest) scope pos) 0 it (.ref D) env))
    (h0 : ∀ D, st D 0 = cst xs cs D []) (hend : ∀ D, st D ds.length = cst xs cs D out)
    (hb : ∀ C D, (F.comp ρ scope C xs caps gl).Ok n → ∀ k d, ds[k]? = some d → ∃ ρ', Tgt (F.comp ρ scope C xs caps gl) target d (st D k) ρ' ∧ ∃ b, TrAll (F.comp ρ scope C xs caps gl) ρ' ifs b ∧
      if b then ∃ r, InT (F.comp ρ scope C xs caps gl) ρ' r (T D (F.comp ρ scope C xs caps gl).env) ∧ Wk r (st D (k + 1)) else Wk ρ' (st D (k + 1)))
    (hs : ∀ x, foldedSetIterable iter F.env x = pure x) {s : Shared} (X : Asr F ρ s.heap) {cpos : Pos} {use : Option (Value → Sem Unit)} {Q : Value → Shared → Prop} {E : Value → Shared → Prop}
    (hq : ∀ C D h' tk', EndC F ρ s.heap h' C D out → compPost (model F.G.prog F.G.w) F.A E use Q (.ref D) C (.ok .next) { s with heap := h', toks := tk' }) :
    wpAny (model F.G.prog F.G.w) F.A (comprehension (.ListComp elt (⟨target, iter, ifs, 0⟩ :: rest) scope pos) scope F.env cpos (newList []) false (eval iter F.env) use) Q E s := by
  have K := CompOK.of hK
  refine wpAny_comprehension_free (use := use) rfl hs (closureFor_eq fun x hx => hF.cs x ((kind_eq hF x).trans (K.free x hx))) K.kind (fun x hx hl => by
    obtain ⟨y, k⟩ := x
    have hl : k = .local := hl
    subst hl
    exact lookup_of_mem K.keys hx) (hi s X _ _ fun it h₂ tk₂ wr St g₂ ok st₂ hw => wpAny_newObj_type (newCompEnv fun cenv h he hl kp eC hcell => ?_))
  have hsz : (h₂.push { cls := .type "list", data := .seq #[] }).objs.size = h₂.objs.size + 1 := Heap.size_push ..
  have kp2 : ∀ b o, h₂.get? b = some o → h.get? b = some o := fun b o e => kp b o (Heap.get?_push_of_some _ e)
  have eD : h.get? h₂.objs.size = some (LO [] 0) := kp _ _ (Heap.get?_push_size _ rfl)
  have he' : { cenv with scope := relabel scope F.env } = compEnv scope F.env (h₂.objs.size + 1) := he.trans (congrArg _ hsz)
  have hl : cenv.locals = h₂.objs.size + 1 := hl.trans hsz
  have eC : h.get? (h₂.objs.size + 1) = some { cls := .type "dict", data := .dict #[] } := hsz ▸ eC
  have hcell : ∀ x c, (x, c) ∈ cellsFrom (h₂.objs.size + 1 + 1) scope.names [] → h.IsCell c Option.none := fun x c hm => hcell x c (by
    rw [show ({ s with heap := h₂.push { cls := .type "list", data := .seq ([] : List Value).toArray }, toks := tk₂ } : Shared).heap.objs.size = h₂.objs.size + 1 from hsz]; exact hm)
  rw [he']
  have X2 := X.grow g₂
  have okF := comp_ok (xs := xs) (caps := caps) (gl := gl) (C := h₂.objs.size + 1) hF K X2 (Nat.le_succ _) hgl
  have X3 := comp_start hF K X2 hc kp2 rfl eD rfl eC hcell
  have hX3 : (F.comp ρ scope (h₂.objs.size + 1) xs caps gl).X (cst xs cs h₂.objs.size []) = ((h₂.objs.size + 1) :: F.X ρ) ++ [h₂.objs.size] := by
    unfold FC.X; rw [cst_owned]; rfl
  have hfresh : ∀ b, h₂.objs.size ≤ b → h₂.get? b = Option.none := fun b hb => Heap.get?_none_of_le hb
  have hwr : ∀ b ∈ wr, ∃ o, h₂.get? b = some o := fun b hb => let ⟨o, e, _⟩ := ok.neut _ _ _ st₂ b hb; ⟨o, e⟩
  have B0 : LBase F s.heap h₂ it wr St ds any ρ := .of X g₂ ok st₂ hw
  have B : LBase (F.comp ρ scope (h₂.objs.size + 1) xs caps gl) s.heap h it wr St ds any (st h₂.objs.size 0) := by
    rw [h0]
    refine ⟨X3, (g₂.kp.trans (.of_keep kp2)).but, fun b o e => let ⟨o', e'⟩ := g₂.kp.live e; ⟨o', kp2 _ _ e'⟩, ok, ?_, hw, B0.nb, B0.n0, fun b hb q => ?_⟩
    · refine ok.keep _ _ _ _ _ st₂ (fun b hb => ?_) (.of_kp (.of_keep kp2)) fun a ha => ?_
      · obtain ⟨o, e⟩ := hwr b hb; rw [e]; exact kp2 _ _ e
      · rw [hX3] at ha
        rcases List.mem_append.mp ha with q | q
        · rcases List.mem_cons.mp q with q | q
          · subst q; exact .inr (hfresh _ (Nat.le_succ _))
          · exact .inl q
        · obtain rfl := List.mem_singleton.mp q; exact .inr (hfresh _ (Nat.le_refl _))
    · rw [hX3] at q
      obtain ⟨o, e⟩ := hwr b hb
      rcases List.mem_append.mp q with q | q
      · rcases List.mem_cons.mp q with q | q
        · subst q; rw [hfresh _ (Nat.le_succ _)] at e; cases e
        · exact B0.nx b hb q
      · obtain rfl := List.mem_singleton.mp q; rw [hfresh _ (Nat.le_refl _)] at e; cases e
  have loop := comp_loop (F := F.comp ρ scope (h₂.objs.size + 1) xs caps gl) (s := s) (tk₂ := tk₂) (R := compPost (model F.G.prog F.G.w) F.A E use Q (.ref h₂.objs.size) cenv.locals) (heq it h₂.objs.size _) B ha (hb (h₂.objs.size + 1) h₂.objs.size okF) fun h' tk' X' S' => by
    obtain ⟨m, hm, fo, hfo, hfc⟩ := X'.loc
    rw [hl]
    have hownD := X'.ob (List.mem_of_getElem? (by rw [hend]; exact cst_acc xs cs h₂.objs.size out))
    rw [hend] at hownD
    obtain ⟨⟨_, vs, L, R⟩, _⟩ := hownD
    have hX' : (F.comp ρ scope (h₂.objs.size + 1) xs caps gl).X (cst xs cs h₂.objs.size out) = ((h₂.objs.size + 1) :: F.X ρ) ++ [h₂.objs.size] := by
      unfold FC.X; rw [cst_owned]; rfl
    rw [hX'] at R
    have hns := hm.ns
    obtain ⟨o1, es, ep, e1, hd1, hr1⟩ := hm
    rw [show (F.comp ρ scope (h₂.objs.size + 1) xs caps gl).env.locals = h₂.objs.size + 1 from rfl] at e1 hfo
    rw [e1] at hfo; cases hfo
    have hold : ∀ b o, s.heap.get? b = some o → b < h₂.objs.size := fun b o e => let ⟨o', e'⟩ := g₂.kp.live e; Heap.lt_size e'
    refine hq (h₂.objs.size + 1) h₂.objs.size h' tk' ⟨⟨fun b o e => ?_, X'.stays⟩, .list (fun q => ?_) L (R.same (.of_kp (.refl _)) fun a ha => List.mem_append_left _ ha), ?_, ⟨m, hns⟩, ⟨_, es, ep, e1, hd1, (hfc.resolve_left fun q => q.2 (.head _)).1⟩, okF.locB, okF.loc0⟩
    · have hb := hold b o e
      refine S'.kept b o (fun q => ?_) e
      rw [h0] at q
      rcases q with q | q
      · rcases q with q | ⟨i, x, hx, hi, hk, hl⟩
        · rw [show (F.comp ρ scope (h₂.objs.size + 1) xs caps gl).env.locals = h₂.objs.size + 1 from rfl] at q
          exact absurd hb (by rw [q]; exact Nat.not_lt.mpr (Nat.le_succ _))
        · rcases comp_cell hF K hl with ⟨_, q⟩ | ⟨q, _⟩
          · exact absurd hb (Nat.not_lt.mpr (Nat.le_of_succ_le (Nat.le_of_succ_le (cellsFrom_lo _ _ q))))
          · have hx' : x ∈ xs := by
              have e : (F.comp ρ scope (h₂.objs.size + 1) xs caps gl).names = xs ++ (caps ++ [("" : Str)]) := List.append_assoc _ _ _
              rw [e, List.getElem?_append_left hi] at hx
              exact List.mem_of_getElem? hx
            have := lookup_of_mem K.keys q
            rcases K.xk x hx' with q' | q' <;> rw [this] at q' <;> cases q'
      · rw [cst_owned] at q
        obtain rfl := List.mem_singleton.mp q
        exact Nat.lt_irrefl _ hb
    · rcases List.mem_cons.mp q with q | q
      · exact absurd q (Nat.ne_of_lt (Nat.lt_succ_self _))
      · obtain ⟨o, e⟩ := X2.dom _ q
        rw [hfresh _ (Nat.le_refl _)] at e; cases e
    · exact g₂.kp.none (hfresh _ (Nat.le_succ _))
  exact codeAny_compStart_list loop (ok.self _ _ ds _ _ (h0 _ ▸ B.st) loop)

theorem In.letgo {G : GC} {h h' : Heap} {C : Addr} (i : In G h) (sb : Heap.SameBut C h h') (nB : G.B.get? C = Option.none) {o : Obj} {es : Array DictEntry} {ep : Nat} (e : h.get? C = some o) (hd : o.data = .dict es ep) : In G h' :=
  i.but sb.2 nB fun o' vs e' q => by rw [e] at e'; cases e'; rw [hd] at q; cases q
theorem Same.letgo {X : List Addr} {h h' : Heap} {C : Addr} (sb : Heap.SameBut C h h') (hC : C ∈ X) {o : Obj} {es : Array DictEntry} {ep : Nat} (e : h.get? C = some o) (hd : o.data = .dict es ep) : Same X h h' := fun a ob ea q =>
  (sb.2 a fun q' => by
    subst q'
    rw [e] at ea; cases ea
    rcases q with ⟨_, _, q, _⟩ | ⟨q, _⟩
    · rw [hd] at q; cases q
    · exact q hC).trans ea

theorem Ev.comp {elt target iter : PySem.Expr} {ifs : List PySem.Expr} {rest : List Comprehension} {pos : Pos} {T : Addr → Env → Code → Sem PySem.Fin} {ds out : List Dt} {any : Bool} {cs : List Dt} (st : Addr → Nat → List Sl) (hF : F.Ok n) (hi : EvIt F ρ iter ds any) (ha : (any || isTupE target) = true) (hK : compOK F.sc scope xs caps gl = true) (hc : Caps F ρ caps cs) (hgl : ∀ p ∈ gl, GlOK F.G p)
    (heq : ∀ it D env, compTurn (.ListComp elt (⟨target, iter, ifs, 0⟩ :: rest) scope pos) 0 it (.ref D) env = compGo target ifs iter.pos it env (T D env (.compLoop (.ListComp elt (⟨target, iter, ifs, 0⟩ :: rest) scope pos) 0 it (.ref D) env)) (.compLoop (.ListComp elt (⟨target, iter, ifs, 0⟩ :: rest) scope pos) 0 it (.ref D) env))
    (h0 : ∀ D, st D 0 = cst xs cs D []) (hend : ∀ D, st D ds.length = cst xs cs D out)
    (hb : ∀ C D, (F.comp ρ scope C xs caps gl).Ok n → ∀ k d, ds[k]? = some d → ∃ ρ', Tgt (F.comp ρ scope C xs caps gl) target d (st D k) ρ' ∧ ∃ b, TrAll (F.comp ρ scope C xs caps gl) ρ' ifs b ∧
      if b then ∃ r, InT (F.comp ρ scope C xs caps gl) ρ' r (T D (F.comp ρ scope C xs caps gl).env) ∧ Wk r (st D (k + 1)) else Wk ρ' (st D (k + 1)))
    (hs : ∀ x, foldedSetIterable iter F.env x = pure x := by intro _; rfl) : Ev F ρ (.ListComp elt (⟨target, iter, ifs, 0⟩ :: rest) scope pos) (.list out) := by
  intro s X Q E hq
  rw [eval_ListComp]
  refine comp_core st hF hi ha hK hc hgl heq h0 hend hb hs X (use := Option.none) fun C D h' tk' ⟨g, r, hn, ⟨m, hm⟩, ⟨o, es, ep, e, hd, _⟩, nB, _⟩ => ⟨m, hm, fun h'' sb => ?_⟩
  refine hq _ h'' tk' ⟨fun b ob eb => ?_, g.stays.letgo sb nB e hd⟩ (r.same (.letgo sb (.head _) e hd) fun a ha => .tail _ ha)
  rw [sb.2 b fun q => by rw [q, hn] at eb; cases eb]
  exact g.kp b ob eb

noncomputable def FC.withX (F : FC) (C : Addr) : FC := { F with X0 := C :: F.X0 }
theorem FC.Ok.withX {C : Addr} (hF : F.Ok n) : (F.withX C).Ok n := ⟨hF.scope, hF.kind, hF.globs, hF.builtins, hF.hand, hF.depth, hF.units, hF.nolimit, hF.nodup, hF.nodebug, hF.locB, hF.loc0, hF.cells, hF.cs, hF.apart, hF.sets, hF.gls, hF.top⟩
theorem Asr.grow_new {C : Addr} {h h' : Heap} (X : Asr F ρ h) (g : Grow F.G h h') (hn : h.get? C = Option.none) (hC : ∃ o, h'.get? C = some o) : Asr (F.withX C) ρ h' := by
  have Y := X.grow g
  have nX : C ∉ F.X ρ := fun q => by obtain ⟨o, e⟩ := X.dom C q; rw [hn] at e; cases e
  have more : ∀ a, a ∈ (F.withX C).X ρ → a ∈ F.X ρ ∨ h.get? a = Option.none := fun a ha => (List.mem_cons.mp (show a ∈ C :: F.X ρ from ha)).elim (fun q => .inr (q ▸ hn)) .inl
  refine ⟨Y.stays, Y.kept, Y.frs, ?_, Y.cells, Y.nodup, fun a ha q => ?_, Y.fresh, fun a ha => ?_, .of_get fun i x sl e1 e2 => ?_, Y.len⟩
  · obtain ⟨m, hm, o, ho, hc⟩ := Y.loc
    refine ⟨m, hm, o, ho, hc.imp (fun q => ⟨q.1, fun q' => ?_⟩) fun q => ⟨q.1, .tail _ q.2⟩⟩
    rcases List.mem_cons.mp (show F.env.locals ∈ C :: F.X0 from q') with q' | q'
    · obtain ⟨_, _, ⟨o, e, _⟩⟩ := X.loc
      rw [q', hn] at e; cases e
    · exact q.2 q'
  · rcases List.mem_cons.mp (show a ∈ C :: F.X0 from q) with q | q
    · exact nX (List.mem_append_right _ (q ▸ ha))
    · exact Y.apart a ha q
  · rcases List.mem_cons.mp (show a ∈ C :: F.X ρ from ha) with q | q
    · exact q ▸ hC
    · exact Y.dom a q
  · have := X.sls.get e1 e2
    cases sl with
    | unk => trivial
    | imm d => obtain ⟨v, q1, q2⟩ := this; exact ⟨v, q1.kp g.kp, (q2.more more).kp g.kp⟩
    | own v a o =>
      obtain ⟨q1, q2, q3, q4⟩ := this
      refine ⟨q1.imp id fun q => q.kp g.kp, ?_, q3, fun b hb q => ?_⟩
      · cases o with
        | list ds => obtain ⟨w, vs, l, r⟩ := q2; exact ⟨w, vs, l.kp g.kp, (r.more more).kp g.kp⟩
        | dict p w kvs => exact q2.kp (o := .dict p w kvs) g.kp
        | abs l P => exact q2.kp (o := .abs l P) g.kp
      · rcases List.mem_cons.mp (show b ∈ C :: F.X ρ from q) with q | q
        · obtain ⟨ob, e, _⟩ := q2.there b (.tail _ hb)
          rw [q, hn] at e; cases e
        · exact q4 b hb q
theorem Asr.letgo {C : Addr} {h h' : Heap} (X : Asr (F.withX C) ρ h) (sb : Heap.SameBut C h h') (nv : ¬ F.vol0 C) (nB : F.G.B.get? C = Option.none) (n0 : F.h0.get? C = Option.none ∨ C ∈ F.P) (nX : C ∉ F.X ρ) {o : Obj} {es : Array DictEntry} {ep : Nat} (e : h.get? C = some o) (hd : o.data = .dict es ep) (hcl : o.cls = .type "dict") : Asr F ρ h' := by
  have hX : C ∈ (F.withX C).X ρ := .head _
  have sm := Same.letgo sb hX e hd
  have subX : ∀ a, a ∈ F.X ρ → a ∈ (F.withX C).X ρ := fun a ha => .tail _ ha
  have cellk : ∀ c v, h.IsCell c v → h'.IsCell c v := fun c v ⟨o', e', q⟩ => ⟨o', (sb.2 c fun q' => by rw [q', e] at e'; cases e'; rw [hd] at q; cases q).trans e', q⟩
  obtain ⟨m, ⟨lo, es', ep', le, ld, lr⟩, fo, hfo, hfc⟩ := X.loc
  have lne : F.env.locals ≠ C := fun q => nv (.inl q.symm)
  have hask : ∀ x v, Has F h x v → Has F h' x v := fun x v q => by
    rcases q with ⟨k, m', ⟨o1, a1, a2, a3, a4⟩, q2⟩ | ⟨k, c, q1, q2⟩
    · exact .inl ⟨k, m', ⟨o1, a1, a2, (sb.2 _ lne).trans a3, a4⟩, q2⟩
    · exact .inr ⟨k, c, q1, cellk _ _ q2⟩
  refine ⟨X.stays.letgo sb nB e hd, fun b ob hb eb => ?_, ?_, ⟨m, ⟨lo, es', ep', (sb.2 _ lne).trans le, ld, lr⟩, fo, (sb.2 _ lne).trans hfo, hfc.imp (fun q => ⟨q.1, fun q' => q.2 (.tail _ q')⟩) fun q => ⟨q.1, ?_⟩⟩, fun x c a b => let ⟨v, q⟩ := X.cells x c a b; ⟨v, cellk _ _ q⟩, X.nodup, fun a ha q => X.apart a ha (.tail _ q), X.fresh, fun a ha => ?_, .of_get fun i x sl e1 e2 => ?_, X.len⟩
  · rw [sb.2 b fun q => n0.elim (fun q' => by rw [q, q'] at eb; cases eb) fun q' => hb (q ▸ q')]
    exact X.kept b ob hb eb
  · obtain ⟨fs, q1, q2, q3⟩ := X.frs
    refine ⟨fs, q1, ?_, fun b hb => ?_⟩
    · clear q1
      induction fs with
      | nil => trivial
      | cons env rest ih =>
        obtain ⟨k1, ⟨L, ob, k2, k3, k4, k5⟩, k6⟩ := q2
        refine ⟨k1, ⟨L, ob, k2, k3, (sb.2 L fun q => ?_).trans k4, k5⟩, ih k6 fun b hb => q3 b (by rw [List.filterMap_cons, k2]; exact List.mem_cons_of_mem _ hb)⟩
        obtain ⟨o1, _, _, j1, j2, _⟩ := q3 L (by rw [List.filterMap_cons, k2]; exact List.mem_cons_self)
        rw [q, e] at j1; cases j1
        rw [hcl] at j2; exact absurd j2 (ty_ne (by decide))
    · obtain ⟨o1, es1, ep1, j1, j2, j3⟩ := q3 b hb
      exact ⟨o1, es1, ep1, (sb.2 b fun q => by rw [q, e] at j1; cases j1; rw [hcl] at j2; exact absurd j2 (ty_ne (by decide))).trans j1, j2, j3⟩
  · exact (List.mem_cons.mp q.2).resolve_left lne
  · obtain ⟨ob, q⟩ := X.dom a (subX a ha)
    exact ⟨ob, (sb.2 a fun q' => nX (q' ▸ ha)).trans q⟩
  · have := X.sls.get e1 e2
    cases sl with
    | unk => trivial
    | imm d => obtain ⟨v, q1, q2⟩ := this; exact ⟨v, hask _ _ q1, q2.same sm subX⟩
    | own v a ob =>
      obtain ⟨q1, q2, q3, q4⟩ := this
      refine ⟨q1.imp id (hask _ _), q2.frame sm subX fun b hb => sb.2 b fun q => ?_, q3, fun b hb q => q4 b hb (subX b q)⟩
      rcases List.mem_cons.mp hb with q' | q'
      · exact nX (List.mem_append_right _ (q ▸ q' ▸ mem_owned e2))
      · exact q4 b q' (q ▸ hX)

/-- a comprehension that goes into a local name: the name is set before the frame is let go -/
theorem Ex1.assign_comp {Θ : String → List Sl → Prop} {i : Nat} {x : Str} {np spos : Pos} {elt target iter : PySem.Expr} {ifs : List PySem.Expr} {rest : List Comprehension} {pos : Pos} {T : Addr → Env → Code → Sem PySem.Fin} {ds out : List Dt} {any : Bool} {cs : List Dt} (st : Addr → Nat → List Sl) (hF : F.Ok n)
    (hx : F.names[i]? = some x) (hio : i < F.own) (hsw : swapsWith (.ListComp elt (⟨target, iter, ifs, 0⟩ :: rest) scope pos) (some (.Name x np)) spos.line F.env = pure true)
    (hi : EvIt F ρ iter ds any) (ha : (any || isTupE target) = true) (hK : compOK F.sc scope xs caps gl = true) (hc : Caps F ρ caps cs) (hgl : ∀ p ∈ gl, GlOK F.G p)
    (heq : ∀ it D env, compTurn (.ListComp elt (⟨target, iter, ifs, 0⟩ :: rest) scope pos) 0 it (.ref D) env = compGo target ifs iter.pos it env (T D env (.compLoop (.ListComp elt (⟨target, iter, ifs, 0⟩ :: rest) scope pos) 0 it (.ref D) env)) (.compLoop (.ListComp elt (⟨target, iter, ifs, 0⟩ :: rest) scope pos) 0 it (.ref D) env))
    (h0 : ∀ D, st D 0 = cst xs cs D []) (hend : ∀ D, st D ds.length = cst xs cs D out)
    (hb : ∀ C D, (F.comp ρ scope C xs caps gl).Ok n → ∀ k d, ds[k]? = some d → ∃ ρ', Tgt (F.comp ρ scope C xs caps gl) target d (st D k) ρ' ∧ ∃ b, TrAll (F.comp ρ scope C xs caps gl) ρ' ifs b ∧
      if b then ∃ r, InT (F.comp ρ scope C xs caps gl) ρ' r (T D (F.comp ρ scope C xs caps gl).env) ∧ Wk r (st D (k + 1)) else Wk ρ' (st D (k + 1)))
    (hs : ∀ x, foldedSetIterable iter F.env x = pure x := by intro _; rfl) : Ex1 F ρ (.Assign [.Name x np] (.ListComp elt (⟨target, iter, ifs, 0⟩ :: rest) scope pos) spos) (Puts ρ i (.list out)) Θ := by
  intro s X Q E hq _
  rw [exec_Assign_Name_used _ _ _ _ hsw]
  refine wpAny_bind (wpAny_standAt (wpAny_bind ?_))
  rw [arm_evalThenUse_ListComp]
  refine wpAny_bind ?_
  refine comp_core st hF hi ha hK hc hgl heq h0 hend hb hs X (use := some (PySem.assign (PySem.Expr.Name x np) F.env)) fun C D h' tk' ⟨g, r, hn, ⟨m, hm⟩, ⟨o, es, ep, e, hd, hcl⟩, nB, n0⟩ => ?_
  have nX : C ∉ F.X ρ := fun q => by obtain ⟨o, e⟩ := X.dom C q; rw [hn] at e; cases e
  have nv : ¬ F.vol0 C := fun q => by
    rcases q with q | ⟨_, y, _, _, k, l⟩
    · obtain ⟨_, _, ⟨o, e, _⟩⟩ := X.loc
      rw [← q, hn] at e; cases e
    · obtain ⟨_, o, e, _⟩ := X.cells y C k l
      rw [hn] at e; cases e
  have X1 := X.grow_new (C := C) g hn ⟨_, e⟩
  refine wpAny_assign_Name (store_ok (F := F.withX C) (s := { s with heap := h', toks := tk' }) hF.withX X1 hx hio r fun h2 tk2 X2 S2 => ?_)
  have nXo : C ∉ owned ρ := fun q => nX (List.mem_append_right _ q)
  have e2 : h2.get? C = some o := S2.kept.same (fun q => q.elim nv nXo) e (plain_ty hcl)
  obtain ⟨m2, hm2⟩ : ∃ m2, h2.Ns C m2 := by
    obtain ⟨o1, es1, ep1, e1, r1⟩ := hm
    rw [e] at e1; cases e1
    exact ⟨m, o, es1, ep1, e2, r1⟩
  refine ⟨m2, hm2, fun h3 sb => wpAny_pure (wpAny_pure ?_)⟩
  have nX2 : C ∉ F.X (ρ.set i (.imm (.list out))) := fun q => (List.mem_append.mp q).elim (fun q => nX (List.mem_append_left _ q)) fun q => nXo ((owned_set _ ρ i).subset q)
  have X3 : Asr F (ρ.set i (.imm (.list out))) h3 := X2.letgo sb nv nB n0 nX2 e2 hd hcl
  refine hq .next h3 tk2 .next _ ⟨rfl, rfl⟩ X3 trivial ⟨fun b ob hb eb => ?_, fun b ob eb => ?_, fun a ha => .inl ((owned_set _ ρ i).subset ha)⟩
  · rw [sb.2 b fun q => by rw [q, hn] at eb; cases eb]
    exact (g.kp b ob eb).next fun p ep => S2.kept b p hb ep
  · rw [sb.2 b fun q => by rw [q, hn] at eb; cases eb]
    obtain ⟨o', e'⟩ := g.kp.live eb
    exact S2.live b o' e'
end
end Mine
end

section
open PySem PySem.Calls PyProof.Rows PySem.W
namespace Mine
section
variable {F : FC} {ρ : List Sl} {n : Nat} {Φ : Fl → List Sl → Prop} {Θ : String → List Sl → Prop}

/-- a try whose body raises nothing -/
theorem Ex1.try_ok {body : List Stmt} {h₀ : ExceptHandler} {hs : List ExceptHandler} {pos : Pos} (h : Ex F ρ body Φ) : Ex1 F ρ (.Try body (h₀ :: hs) [] [] pos) Φ Θ := by
  intro s X Q E hq _
  refine wpAny_Try_except (h s X _ _ (fun f h' tk' fl ρ' a b c d => ?_) fun _ _ _ _ _ q => q.elim)
  have := hq f h' tk' fl ρ' a b c d
  cases f <;> first | exact wpAny_execs_nil this | exact this
theorem Ev.ifexp_true {t a b : PySem.Expr} {pos : Pos} {d : Dt} (ht : Tr F ρ t true) (h : Ev F ρ a d) : Ev F ρ (.IfExp t a b pos) d := fun s X Q E hq =>
  wpAny_IfExp (ht s X _ _ fun h1 tk1 g1 => h _ (X.grow g1) Q E fun v h2 tk2 g2 r => hq v h2 tk2 (g1.trans g2) r)
inductive TgtL (F : FC) : List PySem.Expr → List Dt → List Sl → List Sl → Prop
  | nil {ρ : List Sl} : TgtL F [] [] ρ ρ
  | cons {t : PySem.Expr} {ts : List PySem.Expr} {d : Dt} {ds : List Dt} {ρ ρ1 ρ2 : List Sl} : Tgt F t d ρ ρ1 → TgtL F ts ds ρ1 ρ2 → TgtL F (t :: ts) (d :: ds) ρ ρ2
theorem TgtL.length {ts : List PySem.Expr} {ds : List Dt} {ρ ρ' : List Sl} (h : TgtL F ts ds ρ ρ') : ts.length = ds.length := by
  induction h with
  | nil => rfl
  | cons _ _ ih => exact congrArg (· + 1) ih
theorem TgtL.run {ts : List PySem.Expr} {ds : List Dt} {ρ ρ' : List Sl} (h : TgtL F ts ds ρ ρ') : ∀ (s : Shared) (vs : List Value), Asr F ρ s.heap → RpL (F.X ρ) s.heap vs ds → ∀ (Q : Unit → Shared → Prop) (E : Value → Shared → Prop),
    (∀ h' tk', Asr F ρ' h' → Stp F ρ ρ' s.heap h' → Q () { s with heap := h', toks := tk' }) → wpAny (model F.G.prog F.G.w) F.A (assignInOrder (ts.map fun t => assign t F.env) vs) Q E s := by
  induction h with
  | nil => intro s vs X r Q E hq; exact wpAny_pure (hq s.heap s.toks X (.refl X))
  | cons ht _ ih =>
    intro s vs X r Q E hq
    obtain ⟨v, w, rfl, r1, r2⟩ := r.inv
    refine assignInOrder_cons (ht s v X r1 _ _ fun h1 tk1 X1 S1 => ?_)
    refine ih { s with heap := h1, toks := tk1 } w X1 (r2.keep (S1.same X) fun a ha => ?_) Q E fun h2 tk2 X2 S2 => hq h2 tk2 X2 (S1.trans S2)
    rcases List.mem_append.mp ha with q | q
    · exact .inl (List.mem_append_left _ q)
    · exact (S1.own a q).imp (fun q => List.mem_append_right _ q) id

theorem extBut_grow {h h' : Heap} (i : In F.G h) (x : Heap.ExtBut h.objs.size h h') : Grow F.G h h' := .of_keep i fun b o e => x b o (Nat.ne_of_lt (Heap.lt_size e)) e
theorem Tgt.tup {elts : List PySem.Expr} {k : Nat} {pos : Pos} {ds : List Dt} {ρ' : List Sl} (hF : F.Ok n) (h : TgtL F elts ds ρ ρ') (hae : assignEach elts F.env = elts.map fun t => (false, assign t F.env) := by rfl) (hq0 : F.hd = false := by rfl) : Tgt F (.Tuple elts k pos) (.tup ds) ρ ρ' := by
  intro s v X r Q E hq
  cases r with
  | tup L R =>
  refine wpAny_assign_Tuple (hF.hand hq0) L.isTup (by rw [hae, List.length_map, h.length]; simp [R.length]) ?_ fun h' x => ?_
  · rw [hae, List.findIdx?_map]
    rw [List.findIdx?_eq_none_iff]; intro y _; rfl
  · rw [hae, List.map_map]
    have g := extBut_grow X.stays x
    exact h.run { s with heap := h' } _ (X.grow g) (R.kp g.kp) Q E fun h2 tk2 X2 S2 => hq h2 tk2 X2 ((Stp.of_grow g).trans S2)

theorem draw_list {prog : Program} {w : World} {A : Around} {E : Value → Shared → Prop} {it l : Addr} {items : Array Value} (hne : l ≠ it) : ∀ (m i : Nat) (s : Shared) (Q : List Value → Shared → Prop), s.heap.IsListIter it l i → s.heap.IsList l items → i + m ≤ items.size →
    (∀ h', h'.IsListIter it l (i + m) → Heap.SameBut it s.heap h' → Q ((items.toList.drop i).take m) { s with heap := h' }) → wpAny (model prog w) A (draw (.ref it) m) Q E s
  | 0, i, s, Q, hit, hl, hm, hq => wpAny_pure (by simpa using hq s.heap hit (.refl ..))
  | m + 1, i, s, Q, hit, hl, hm, hq => by
    unfold draw
    have hi : i < items.size := by lia
    refine wpAny_bind (wpAny_pyNext_list_item hit hl (x := items[i]) (by simp [hi]) fun h' hit' hs' => ?_)
    refine wpAny_bind (wpAny_holding (draw_list hne m (i + 1) _ _ hit' (hl.extBut hs'.extBut hne) (by lia) fun h2 hit2 hs2 => wpAny_pure ?_))
    have := hq h2 (by rw [show i + (m + 1) = i + 1 + m by lia]; exact hit2) (hs'.trans hs2)
    rw [show (items.toList.drop i).take (m + 1) = items[i] :: (items.toList.drop (i + 1)).take m by
      rw [List.drop_eq_getElem_cons (by simpa using hi), List.take_succ_cons]; simp] at this
    exact this
theorem Tgt.list {elts : List PySem.Expr} {k : Nat} {pos : Pos} {ds : List Dt} {ρ' : List Sl} (hF : F.Ok n) (h : TgtL F elts ds ρ ρ') (hae : assignEach elts F.env = elts.map fun t => (false, assign t F.env) := by rfl) (hq0 : F.hd = false := by rfl) : Tgt F (.Tuple elts k pos) (.list ds) ρ ρ' := by
  intro s v X r Q E hq
  cases r with
  | @list l vs _ _ L R =>
  obtain ⟨nn, eL⟩ := id L
  have hlt : l ≠ s.heap.objs.size := Nat.ne_of_lt (Heap.lt_size eL)
  rw [arm_assign_Tuple]
  refine wpAny_bind (wpAny_standAt ?_)
  unfold unpack
  have hn : (assignEach elts F.env).length = vs.toArray.size := by rw [hae, List.length_map, h.length]; simp [R.length]
  have hst : (assignEach elts F.env).findIdx? (·.1) = none := by
    rw [hae, List.findIdx?_map, List.findIdx?_eq_none_iff]; intro y _; rfl
  rw [hn, hst]
  refine wpAny_bind (wpAny_holding ?_)
  unfold unpackItems
  refine wpAny_bind ?_
  unfold notIterableAtAll
  refine wpAny_bind (wpAny_specialOf L.isList.typeIs slot_list_iter.lookup ?_)
  refine wpAny_pure ?_
  simp only [Bool.false_eq_true, if_false]
  refine wpAny_bind (wpAny_holding (wpAny_pyIter_list L.isList ?_))
  refine wpAny_bind (wpAny_holding (draw_list hlt vs.toArray.size 0 _ _ ⟨_, Heap.get?_push_size _ rfl, rfl, rfl⟩ (L.kp (.push _ _)).isList (by lia) fun h₁ hit₁ hs₁ => ?_))
  have hall : List.take vs.toArray.size (List.drop 0 vs.toArray.toList) = vs := by
    rw [List.drop_zero]; exact List.take_of_length_le (by simp)
  rw [hall]
  rw [if_neg (by simp)]
  refine wpAny_bind (wpAny_holding (wpAny_pyNext_list_end (hF.hand hq0) hit₁ ((L.kp (.push _ _)).isList.extBut hs₁.extBut hlt) (by simp) fun h₂ he₂ => ?_))
  simp only [Option.isSome_none, Bool.false_eq_true, if_false]
  refine wpAny_pure ?_
  have x : Heap.ExtBut s.heap.objs.size s.heap h₂ := fun b o hb e => he₂ b o hb (hs₁.extBut b o hb (Heap.get?_push_of_some _ e))
  rw [hae, List.map_map]
  have g := extBut_grow X.stays x
  exact h.run { s with heap := h₂ } _ (X.grow g) (R.kp g.kp) Q E fun h2 tk2 X2 S2 => hq h2 tk2 X2 ((Stp.of_grow g).trans S2)

/-- a tuple of names is set -/
theorem Ex1.unpack {elts : List PySem.Expr} {k : Nat} {tpos pos : Pos} {e : PySem.Expr} {d : Dt} {ρ' : List Sl} (he : Ev F ρ e d) (ht : Tgt F (.Tuple elts k tpos) d ρ ρ') (hs : swapsWithSole [.Tuple elts k tpos] e pos.line F.env = pure false := by rfl) (hw : swappedStores [.Tuple elts k tpos] e F.env = pure none := by rfl) :
    Ex1 F ρ (.Assign [.Tuple elts k tpos] e pos) (fun fl r => fl = .next ∧ r = ρ') Θ := by
  intro s X Q E hq _
  refine Assign_Tuple (he s X _ _ fun v h1 tk1 g1 r1 => ?_) hs hw
  refine ht { s with heap := h1, toks := tk1 } v (X.grow g1) r1 _ _ fun h2 tk2 X2 S2 => hq .next h2 tk2 .next _ ⟨rfl, rfl⟩ X2 trivial ((Stp.of_grow g1).trans S2)
/-- two names get one value -/
theorem Ex1.assign2 {i j : Nat} {x y : Str} {e : PySem.Expr} {p1 p2 pos : Pos} {d : Dt} (hF : F.Ok n) (hx : F.names[i]? = some x) (hi : i < F.own) (hy : F.names[j]? = some y) (hj : j < F.own) (he : Ev F ρ e d) :
    Ex1 F ρ (.Assign [.Name x p1, .Name y p2] e pos) (fun fl r => fl = .next ∧ r = (ρ.set i (.imm d)).set j (.imm d)) Θ := by
  intro s X Q E hq _
  refine wpAny_Assign_two (he s X _ _ fun v h1 tk1 g1 r1 => ?_)
  refine wpAny_assign_Name (store_ok (s := { s with heap := h1, toks := tk1 }) hF (X.grow g1) hx hi r1 fun h2 tk2 X2 S2 => ?_)
  refine wpAny_assign_Name (store_ok (s := { s with heap := h2, toks := tk2 }) hF X2 hy hj (r1.keep (S2.same (X.grow g1)) fun a ha => ?_) fun h3 tk3 X3 S3 => ?_)
  · rcases List.mem_append.mp ha with q | q
    · exact .inl (List.mem_append_left _ q)
    · exact (S2.own a q).imp (fun q => List.mem_append_right _ q) id
  · exact hq .next h3 tk3 .next _ ⟨rfl, rfl⟩ X3 trivial (((Stp.of_grow g1).trans S2).trans S3)

/-- a while loop that raises nothing: I is the state before the k-th test -/
theorem Ex1.while {test : PySem.Expr} {body : List Stmt} {pos : Pos} {I : Nat → List Sl} {m : Nat} (h0 : I 0 = ρ) (ht : ∀ k, k ≤ m → Tr F (I k) test (decide (k < m))) (hb : ∀ k, k < m → Ex F (I k) body fun fl r => (fl = .next ∨ fl = .cont) ∧ Wk r (I (k + 1))) (hend : Φ .next (I m)) : Ex1 F ρ (.While test body [] pos) Φ Θ := by
  subst h0
  intro s X Q E hq _
  refine wpAny_While ?_
  refine codeAny_whileLoop (fun j s' => ∃ k h tk, j = m - k ∧ k ≤ m ∧ s' = { s with heap := h, toks := tk } ∧ Asr F (I k) h ∧ Stp F (I 0) (I k) s.heap h) (fun j s' hI => ?_) m ⟨0, s.heap, s.toks, by lia, by lia, rfl, X, .refl X⟩
  obtain ⟨k, h, tk, rfl, hk, rfl, Xk, Sk⟩ := hI
  refine ht k hk { s with heap := h, toks := tk } Xk _ _ fun h1 tk1 g1 => ?_
  have X1 := Xk.grow g1
  have S1 := Sk.trans (Stp.of_grow g1)
  by_cases hlt : k < m
  · rw [decide_eq_true hlt]
    refine hb k hlt { s with heap := h1, toks := tk1 } X1 _ _ (fun f h2 tk2 fl ρ' hΦ X2 hf S2 => ?_) fun _ _ _ _ _ q => q.elim
    obtain ⟨hfl, w⟩ := hΦ
    have fin : ∃ j, j < m - k ∧ ∃ k h tk, j = m - k ∧ k ≤ m ∧ ({ s with heap := h2, toks := tk2 } : Shared) = { s with heap := h, toks := tk } ∧ Asr F (I k) h ∧ Stp F (I 0) (I k) s.heap h :=
      ⟨m - (k + 1), by lia, k + 1, h2, tk2, rfl, by lia, rfl, X2.weak w, (S1.trans S2).weakR w⟩
    rcases hfl with rfl | rfl <;> cases f <;> first | exact hf.elim | exact fin
  · rw [decide_eq_false hlt]
    have : k = m := by lia
    subst this
    exact wpAny_execs_nil (hq .next h1 tk1 .next _ hend X1 trivial S1)
end
end Mine
end

section
open PySem PySem.Calls PyProof.Rows PySem.W
namespace Mine

mutual
noncomputable def PD : Dt → PyData
  | .none => .none
  | .bool b => .bool b
  | .int i => .int i
  | .str x => .str x
  | .list l => .list (PDL l)
  | .tup l => .tuple (PDL l)
  | .bytes _ => .none
  | .typ _ => .none
  | .dict _ _ _ => .none
noncomputable def PDL : List Dt → List PyData
  | [] => []
  | d :: r => PD d :: PDL r
end
mutual
noncomputable def pureD : Dt → Bool
  | .list l => pureL l
  | .tup l => pureL l
  | .bytes _ => false
  | .typ _ => false
  | .dict _ _ _ => false
  | _ => true
noncomputable def pureL : List Dt → Bool
  | [] => true
  | d :: r => pureD d && pureL r
end
mutual
theorem Rp.reads {X : List Addr} {h : Heap} : ∀ {v : Value} {d : Dt}, Rp X h v d → pureD d = true → ∃ as, Reads h v (PD d) as
  | _, _, .none, _ => ⟨_, .none⟩
  | _, _, .bool b, _ => ⟨_, .bool b⟩
  | _, _, .int i t, _ => ⟨_, .int i t⟩
  | _, _, .str x t, _ => ⟨_, .str x t⟩
  | _, _, .bytes _ _, q => by cases q
  | _, _, .typ _, q => by cases q
  | _, _, .dict _ _ _ _, q => by cases q
  | _, _, .list _ l r, q => by
    obtain ⟨n, e⟩ := l
    obtain ⟨as, ra⟩ := RpL.reads r q
    exact ⟨_, .list e rfl rfl ra⟩
  | _, _, .tup l r, q => by
    obtain ⟨n, e⟩ := l
    obtain ⟨as, ra⟩ := RpL.reads r q
    exact ⟨_, .tuple e rfl rfl ra⟩
theorem RpL.reads {X : List Addr} {h : Heap} : ∀ {vs : List Value} {ds : List Dt}, RpL X h vs ds → pureL ds = true → ∃ as, ReadsAll h vs (PDL ds) as
  | _, _, .nil, _ => ⟨_, .nil⟩
  | _, _, .cons a b, q => by
    have q' := Bool.and_eq_true_iff.mp q
    obtain ⟨as, ra⟩ := Rp.reads a q'.1
    obtain ⟨bs, rb⟩ := RpL.reads b q'.2
    exact ⟨_, .cons ra rb⟩
end
section
variable {G : GC} {A : Around}
theorem cmp_eq_data (d e : Dt) (h1 : pureD d = true) (h2 : pureD e = true) (h3 : SeqAt.shaped (PD d) = true) (h4 : SeqAt.shaped (PD e) = true) (hu : A.units + 64 < cLine) : CmpOK G A .Eq d e (PyData.eqv (PD d) (PD e)) := fun X s v u st _ r1 r2 _ _ hq => by
  obtain ⟨as, ra⟩ := r1.reads h1
  obtain ⟨bs, rb⟩ := r2.reads h2
  exact eq_dataH ra rb h3 h4 hu (gives_here st (.bool _) hq)
theorem cmp_ne_data (d e : Dt) (h1 : pureD d = true) (h2 : pureD e = true) (h3 : SeqAt.shaped (PD d) = true) (h4 : SeqAt.shaped (PD e) = true) (hu : A.units + 64 < cLine) : CmpOK G A .NotEq d e (!PyData.eqv (PD d) (PD e)) := fun X s v u st _ r1 r2 _ _ hq => by
  obtain ⟨as, ra⟩ := r1.reads h1
  obtain ⟨bs, rb⟩ := r2.reads h2
  exact ne_dataH ra rb h3 h4 hu (gives_here st (.bool _) hq)
theorem cmp_eq_bool (a b : Bool) : CmpOK G A .Eq (.bool a) (.bool b) (a == b) := fun _ _ _ _ st _ h1 h2 _ _ hq => by obtain rfl := h1.bool'; obtain rfl := h2.bool'; exact eq_bool (gives_here st (.bool _) hq)
theorem RpL.strsAre {X : List Addr} {h : Heap} : ∀ {l : List Str} {vs : List Value}, RpL X h vs (l.map .str) → StrsAre vs l
  | [], vs, r => by rw [r.inv0]; exact .nil
  | x :: l, vs, r => by
    obtain ⟨v, r', rfl, a, b⟩ := r.inv
    cases a with
    | str x t => exact .cons x t (RpL.strsAre b)
theorem RpL.of_strsAre {X : List Addr} {h : Heap} {l : List Str} {vs : List Value} (x : StrsAre vs l) : RpL X h vs (l.map .str) := by
  induction x with
  | nil => exact .nil
  | cons y t _ ih => exact .cons (.str y t) ih
theorem RpL.intsAre {X : List Addr} {h : Heap} : ∀ {l : List Int} {vs : List Value}, RpL X h vs (l.map .int) → IntsAre vs l
  | [], vs, r => by rw [r.inv0]; exact .nil
  | x :: l, vs, r => by
    obtain ⟨v, r', rfl, a, b⟩ := r.inv
    cases a with
    | int x t => exact .cons x t (RpL.intsAre b)
theorem RpL.toks {X : List Addr} {h : Heap} : ∀ {l : List Int} {vs : List Value}, RpL X h vs (l.map .int) → ∃ xs : List (Int × Tok), vs = xs.map (fun p => .int p.1 p.2) ∧ xs.map (·.1) = l
  | [], vs, r => ⟨[], r.inv0, rfl⟩
  | x :: l, vs, r => by
    obtain ⟨v, r', rfl, a, b⟩ := r.inv
    obtain ⟨xs, rfl, rfl⟩ := RpL.toks b
    cases a with
    | int x t => exact ⟨(x, t) :: xs, rfl, rfl⟩
theorem cmp_in_str (x : Str) (l : List Str) : CmpOK G A .In (.str x) (strD l) (l.any (· == x)) := fun X s v u st _ r1 r2 _ _ hq => by
  obtain ⟨_, rfl⟩ := r1.str'
  obtain ⟨_, _, rfl, _, L, R⟩ := r2.list'
  exact in_list_strs L.isList R.strsAre (gives_here st (.bool _) hq)
theorem cmp_notin_str (x : Str) (l : List Str) : CmpOK G A .NotIn (.str x) (strD l) (!l.any (· == x)) := fun X s v u st _ r1 r2 _ _ hq => by
  obtain ⟨_, rfl⟩ := r1.str'
  obtain ⟨_, _, rfl, _, L, R⟩ := r2.list'
  exact notin_list_strs L.isList R.strsAre (gives_here st (.bool _) hq)
theorem call_sorted (l m : List Str) (h64 : l.length < 64) (hu : ∀ l' : List Str, l'.Perm l → sortedS l' = true → l' = m) : CallOK G A (.builtin "sorted") [strD l] (strD m) := fun X s vs st _ dm h1 _ _ hq => by
  obtain ⟨v, rfl, k1⟩ := h1.one
  obtain ⟨al, ws, rfl, ha, L, R⟩ := k1.list'
  refine sorted_strs L.isList R.strsAre (by rw [R.length, List.length_map]; exact h64) fun out ss' h1 h2 h3 => ?_
  obtain ⟨e, he⟩ := sortedAll_at s.heap ws out
  have hk : ∀ b o, s.heap.get? b = some o → (sortedAll s.heap ws out).get? b = some o := fun b o e => sortedAll_old e
  have hm := hu ss' h2 h3
  subst hm
  refine hq _ _ s.toks (.of_keep st hk) (.list (fun q => ?_) ⟨e, by rw [he]⟩ (.of_strsAre h1))
  obtain ⟨o, eo⟩ := dm _ q
  exact absurd (Heap.lt_size eo) (Nat.not_lt.mpr (Nat.le_succ _))
theorem call_int_int (i : Int) : CallOK G A (.type "int") [.int i] (.int i) := fun X s vs st _ dm h1 _ _ hq => by
  obtain ⟨v, rfl, k1⟩ := h1.one
  obtain ⟨_, rfl⟩ := k1.int'
  exact PySem.call_int_int (hq _ s.heap s.toks (.refl st) (.int _ _))
theorem call_ord (c : Nat) : CallOK G A (.builtin "ord") [.str ⟨#[c]⟩] (.int c) := fun X s vs st _ dm h1 _ _ hq => by
  obtain ⟨v, rfl, k1⟩ := h1.one
  obtain ⟨_, rfl⟩ := k1.str'
  exact P.ord_of_char (gives_here st (.int _ _) hq)
theorem call_bytes (l : List Int) (hh : A.handled = none) (hr : ∀ i ∈ l, 0 ≤ i ∧ i < 256) (hs : l.length ≤ sizeLine) : CallOK G A (.type "bytes") [.list (l.map .int)] (.bytes (byteArr l)) := fun X s vs st _ dm h1 _ _ hq => by
  obtain ⟨v, rfl, k1⟩ := h1.one
  obtain ⟨al, ws, rfl, ha, L, R⟩ := k1.list'
  exact call_bytes_ints L.isList R.intsAre hr (by rw [R.length, List.length_map]; exact hs) hh fun h' t k hk => hq _ h' k (.of_keep st hk) (.bytes _ t)
theorem call_min2 (a b : Int) (hh : A.handled = none) : CallOK G A (.builtin "min") [.int a, .int b] (.int (if b < a then b else a)) := fun X s vs st _ dm h1 _ _ hq => by
  obtain ⟨v, u, rfl, k1, k2⟩ := h1.two
  obtain ⟨_, rfl⟩ := k1.int'
  obtain ⟨_, rfl⟩ := k2.int'
  refine min_two_ints hh fun h' tk hk => hq _ h' tk (.of_keep st hk) ?_
  split <;> exact .int _ _
theorem numAt_eq (xs : List (Int × Tok)) (i : Nat) : numAt xs.toArray i = ((xs.map (·.1))[i]?).getD 0 := by
  unfold numAt
  simp [List.getElem?_map]
theorem preSum_eq (l : List Int) : ∀ k, k ≤ l.length → preSum (fun i => (l[i]?).getD 0) k = (l.take k).sum
  | 0, _ => by simp [preSum]
  | k + 1, h => by
    unfold preSum
    rw [preSum_eq l k (by lia), List.take_add_one, List.sum_append]
    have : k < l.length := by lia
    simp [this]
theorem call_sum (l : List Int) (hh : A.handled = none) (hb : ∀ i ∈ l, 0 ≤ i ∧ i ≤ 1000) (hl : l.length ≤ 1000) : CallOK G A (.builtin "sum") [.list (l.map .int)] (.int l.sum) := fun X s vs st _ dm h1 _ _ hq => by
  obtain ⟨v, rfl, k1⟩ := h1.one
  obtain ⟨al, ws, rfl, ha, L, R⟩ := k1.list'
  obtain ⟨xs, rfl, rfl⟩ := R.toks
  have e : intItems xs.toArray = (xs.map fun p => Value.int p.1 p.2).toArray := by simp [intItems]
  have hnum : numAt xs.toArray = fun i => (((xs.map (·.1)))[i]?).getD 0 := funext (numAt_eq xs)
  have hsum : ∀ (m : List Int), (∀ i ∈ m, 0 ≤ i ∧ i ≤ 1000) → 0 ≤ m.sum ∧ m.sum ≤ 1000 * m.length := by
    intro m
    induction m with
    | nil => intro _; simp
    | cons a r ih =>
      intro h
      have h1 := h a List.mem_cons_self
      have h2 := ih fun i hi => h i (List.mem_cons_of_mem _ hi)
      simp only [List.sum_cons, List.length_cons]
      push_cast
      lia
  refine sum_intList (xs := xs.toArray) hh (by rw [e]; exact L.isList) (fun j hj => ?_) fun h' tk t' hk => ?_
  · rw [hnum, preSum_eq _ _ (by simpa [Nat.succ_le_iff] using hj)]
    have hj' : j < (xs.map (·.1)).length := by simpa using hj
    have h1 := hb _ (List.getElem_mem hj')
    have h2 := hsum ((xs.map (·.1)).take (j + 1)) fun i hi => hb i (List.mem_of_mem_take hi)
    have h3 : ((xs.map (·.1)).take (j + 1)).length ≤ 1000 := Nat.le_trans (List.length_take_le ..) (Nat.le_trans hj' hl)
    refine ⟨?_, ?_⟩
    · simp only [List.getElem?_eq_getElem hj', Option.getD_some]
      exact ⟨by lia, by lia⟩
    · exact ⟨by lia, by lia⟩
  · rw [hnum, preSum_eq _ _ (by simp)] 
    have : (xs.map (·.1)).take xs.toArray.size = xs.map (·.1) := List.take_of_length_le (by simp)
    rw [this]
    exact hq _ h' tk (.of_keep st hk) (.int _ _)
end
end Mine
end

section
open PySem PySem.Calls PyProof.Rows PySem.W
namespace Mine
section
variable {F : FC} {ρ : List Sl} {n : Nat} {scope : Scope} {xs caps : List Str} {gl : List (Str × Value)}

theorem Wk.unks : ∀ (sl r : List Sl), Wk (sl ++ r) (List.replicate sl.length Sl.unk ++ r)
  | [], r => .refl r
  | _ :: s, r => .drop (Wk.unks s r)
/-- the frame's slots with the clause's names set -/
noncomputable def cset (sl : List Sl) (cs : List Dt) (D : Addr) (out : List Dt) : List Sl := sl ++ cs.map Sl.imm ++ [Sl.own (.ref D) D (.list out)]
theorem cset_acc (sl : List Sl) (cs : List Dt) (D : Addr) (out : List Dt) : (cset sl cs D out)[sl.length + cs.length]? = some (.own (.ref D) D (.list out)) := by
  unfold cset
  rw [List.getElem?_append_right (by simp)]
  simp
theorem cset_set (sl : List Sl) (cs : List Dt) (D : Addr) (out out' : List Dt) : (cset sl cs D out).set (sl.length + cs.length) (.own (.ref D) D (.list out')) = cset sl cs D out' := by
  unfold cset
  rw [List.set_append_right _ _ (by simp)]
  simp
theorem cset_wk {sl : List Sl} (h : sl.length = xs.length) (cs : List Dt) (D : Addr) (out : List Dt) : Wk (cset sl cs D out) (cst xs cs D out) := by
  unfold cset cst
  rw [List.append_assoc, List.append_assoc, ← h]
  exact .unks sl _

/-- what a comprehension of one clause does with an item: let it fall, or take what is made of it -/
noncomputable def CompBody (F : FC) (ρ : List Sl) (n : Nat) (scope : Scope) (xs caps : List Str) (gl : List (Str × Value)) (cs : List Dt) (target : PySem.Expr) (ifs : List PySem.Expr) (elt : PySem.Expr) (ds : List Dt) (res : List (Option Dt)) : Prop :=
  ∀ C D acc, (F.comp ρ scope C xs caps gl).Ok n → ∀ (k : Nat) (d : Dt) (r : Option Dt), ds[k]? = some d → res[k]? = some r → ∃ sl : List Sl, sl.length = xs.length ∧ Tgt (F.comp ρ scope C xs caps gl) target d (cst xs cs D acc) (cset sl cs D acc) ∧
    match r with
    | none => TrAll (F.comp ρ scope C xs caps gl) (cset sl cs D acc) ifs false
    | some e => TrAll (F.comp ρ scope C xs caps gl) (cset sl cs D acc) ifs true ∧ Ev (F.comp ρ scope C xs caps gl) (cset sl cs D acc) elt e
noncomputable def cstate (xs : List Str) (cs : List Dt) (res : List (Option Dt)) (D : Addr) (k : Nat) : List Sl := cst xs cs D ((res.take k).filterMap id)
theorem comp_hb {target elt : PySem.Expr} {ifs : List PySem.Expr} {ds : List Dt} {res : List (Option Dt)} {cs : List Dt} (hlen : res.length = ds.length) (hcl : caps.length = cs.length) (hsz : ds.length ≤ 1000) (hb : CompBody F ρ n scope xs caps gl cs target ifs elt ds res) :
    ∀ C D, (F.comp ρ scope C xs caps gl).Ok n → ∀ k d, ds[k]? = some d → ∃ ρ', Tgt (F.comp ρ scope C xs caps gl) target d (cstate xs cs res D k) ρ' ∧ ∃ b, TrAll (F.comp ρ scope C xs caps gl) ρ' ifs b ∧
      if b then ∃ r, InT (F.comp ρ scope C xs caps gl) ρ' r (compEmit elt (.ref D) (F.comp ρ scope C xs caps gl).env) ∧ Wk r (cstate xs cs res D (k + 1)) else Wk ρ' (cstate xs cs res D (k + 1)) := by
  intro C D ok k d hd
  have hk : k < res.length := by rw [hlen]; exact (List.getElem?_eq_some_iff.mp hd).1
  obtain ⟨sl, hsl, ht, hr⟩ := hb C D ((res.take k).filterMap id) ok k d res[k] hd (List.getElem?_eq_getElem hk)
  refine ⟨_, ht, ?_⟩
  have hs : (res.take (k + 1)).filterMap id = (res.take k).filterMap id ++ (match res[k] with | none => [] | some e => [e]) := by
    rw [List.take_add_one, List.filterMap_append, List.getElem?_eq_getElem hk]
    cases res[k] <;> rfl
  unfold cstate
  rw [hs]
  cases e : res[k] with
  | none =>
    rw [e] at hr
    exact ⟨false, hr, by rw [List.append_nil]; exact cset_wk hsl cs D _⟩
  | some v =>
    rw [e] at hr
    obtain ⟨h1, h2⟩ := hr
    refine ⟨true, h1, _, InT.emit (i := sl.length + cs.length) (x := "") ?_ (cset_acc sl cs D _) h2 ?_, ?_⟩
    · show (xs ++ caps ++ [("" : Str)])[sl.length + cs.length]? = some ""
      rw [List.getElem?_append_right (by simp [hsl, hcl])]
      simp [hsl, hcl]
    · refine Nat.le_trans (List.length_filterMap_le _ _) (Nat.le_trans (List.length_take_le _ _) ?_)
      rw [sizeLine_eq]; lia
    · rw [cset_set]; exact cset_wk hsl cs D _

theorem Ev.comp1 {elt target iter : PySem.Expr} {ifs : List PySem.Expr} {pos : Pos} {ds : List Dt} {any : Bool} {cs : List Dt} (res : List (Option Dt)) (out : List Dt) (xs caps : List Str) (gl : List (Str × Value)) (hF : F.Ok n) (hi : EvIt F ρ iter ds any) (hK : compOK F.sc scope xs caps gl = true) (hc : Caps F ρ caps cs) (hgl : ∀ p ∈ gl, GlOK F.G p)
    (hlen : res.length = ds.length) (hsz : ds.length ≤ 1000) (hout : res.filterMap id = out) (hb : CompBody F ρ n scope xs caps gl cs target ifs elt ds res) (ha : (any || isTupE target) = true := by rfl)
    (hs : ∀ x, foldedSetIterable iter F.env x = pure x := by intro _; rfl) : Ev F ρ (.ListComp elt [⟨target, iter, ifs, 0⟩] scope pos) (.list out) := by
  subst hout
  refine Ev.comp (T := fun D env => compEmit elt (.ref D) env) (cstate xs cs res) hF hi ha hK hc hgl (fun it D env => compTurn_1 ..) (fun D => rfl) (fun D => ?_) (comp_hb hlen hc.1 hsz hb) hs
  unfold cstate; rw [← hlen, List.take_length]
theorem Ex1.assign_comp1 {Θ : String → List Sl → Prop} {i : Nat} {x : Str} {np spos : Pos} {elt target iter : PySem.Expr} {ifs : List PySem.Expr} {pos : Pos} {ds : List Dt} {any : Bool} {cs : List Dt} (res : List (Option Dt)) (out : List Dt) (xs caps : List Str) (gl : List (Str × Value)) (hF : F.Ok n)
    (hx : F.names[i]? = some x) (hio : i < F.own) (hsw : swapsWith (.ListComp elt [⟨target, iter, ifs, 0⟩] scope pos) (some (.Name x np)) spos.line F.env = pure true)
    (hi : EvIt F ρ iter ds any) (hK : compOK F.sc scope xs caps gl = true) (hc : Caps F ρ caps cs) (hgl : ∀ p ∈ gl, GlOK F.G p)
    (hlen : res.length = ds.length) (hsz : ds.length ≤ 1000) (hout : res.filterMap id = out) (hb : CompBody F ρ n scope xs caps gl cs target ifs elt ds res) (ha : (any || isTupE target) = true := by rfl)
    (hs : ∀ x, foldedSetIterable iter F.env x = pure x := by intro _; rfl) : Ex1 F ρ (.Assign [.Name x np] (.ListComp elt [⟨target, iter, ifs, 0⟩] scope pos) spos) (Puts ρ i (.list out)) Θ := by
  subst hout
  refine Ex1.assign_comp (T := fun D env => compEmit elt (.ref D) env) (cstate xs cs res) hF hx hio hsw hi ha hK hc hgl (fun it D env => compTurn_1 ..) (fun D => rfl) (fun D => ?_) (comp_hb hlen hc.1 hsz hb) hs
  unfold cstate; rw [← hlen, List.take_length]
end
end Mine
end

section
open PySem PySem.Calls PyProof.Rows PySem.W
namespace Mine

/-! the text's defs -/
noncomputable def stAt (k : Nat) : Option Stmt := PySem.Challenge.pw_ik0190_01.main.body[k]?
noncomputable def bodyOf : Option Stmt → List Stmt
  | some (.FunctionDef _ _ b _ _ _ _ _ _ _) => b
  | _ => []
noncomputable def scopeOf : Option Stmt → Scope
  | some (.FunctionDef _ _ _ _ _ _ s _ _ _) => s
  | _ => { kind := .function, names := [], isGenerator := false, isCoroutine := false }
noncomputable def paramsOf : Option Stmt → Arguments
  | some (.FunctionDef _ a _ _ _ _ _ _ _ _) => a
  | _ => ⟨[], [], none, [], [], none, []⟩

structure FdIs (fd : FuncData) (st : Option Stmt) : Prop where
  body : fd.body = .stmts (bodyOf st)
  scope : fd.scope = scopeOf st
  params : fd.params = paramsOf st
  closure : fd.closure = []
  globs : fd.globals = mainGlobals
  builtins : fd.builtins = builtinsNs
  defaults : fd.defaults = .none
  kwdefaults : fd.kwdefaults = .none

/-- the def stands at f -/
noncomputable def DefIs (G : GC) (f : Addr) (k : Nat) : Prop := ∃ fd, FdIs fd (stAt k) ∧ (∃ o, G.B.get? f = some o ∧ o.data = .func fd) ∧ G.B.CodeRec fd.code fd.qualname
theorem DefIs.road {G : GC} {f : Addr} {k : Nat} (D : DefIs G f k) : Road G (.ref f) := by
  obtain ⟨fd, _, ⟨o, ho, hd⟩, _⟩ := D
  exact .def ho hd

theorem Names.of {G : GC} {scope : Scope} {names : List Str} {own : Nat} {gls : List (Str × Value)} (h1 : names.Nodup) (h2 : (names.all fun x => !(x == ("__debug__" : Str))) = true)
    (h3 : ((names.take own).all fun x => scope.names.lookup x == some .local || scope.names.lookup x == some .cell) = true)
    (h4 : (gls.all fun p => scope.names.lookup p.1 == some .globalImplicit && !(p.1 == ("__debug__" : Str))) = true) (h5 : ∀ p ∈ gls, GName G p.1 p.2 ∧ Road G p.2) : Names G scope names own gls := by
  refine ⟨h1, fun x hx => by simpa using List.all_eq_true.mp h2 x hx, fun i x hx hi => ?_, fun p hp => ?_⟩
  · have : x ∈ names.take own := List.mem_of_getElem? (i := i) (by rw [List.getElem?_take, if_pos hi]; exact hx)
    have := List.all_eq_true.mp h3 x this
    rcases Bool.or_eq_true_iff.mp this with q | q
    · exact .inl (by simpa using q)
    · have q' : scope.names.lookup x = some .cell := by simpa using q
      exact .inr ⟨q', fun n => cellsFrom_some _ _ _ (.inl q')⟩
  · have := Bool.and_eq_true_iff.mp (List.all_eq_true.mp h4 p hp)
    exact ⟨by simpa using this.1, (h5 p hp).1, (h5 p hp).2, by simpa using this.2⟩

noncomputable def plainScope (s : Scope) : Bool := s.kind == .function && !s.isCoroutine && !s.isGenerator
theorem Fn.of {G : GC} {f : Addr} {k n kk own : Nat} {pn names : List Str} {gls : List (Str × Value)} {ps qs : List Sl} {Φ : Dt → List Sl → Prop} (D : DefIs G f k) (N : Names G (scopeOf (stAt k)) names own gls) (hlim : G.B.NoLimit)
    (hpn : names.take pn.length = pn) (hpl : pn.length = qs.length) (hpo : pn.length ≤ own) (hpq : owned qs = owned ps) (hlen : qs.length + kk = names.length) (hs : plainScope (scopeOf (stAt k)) = true)
    (hbind : ∀ fd : FuncData, fd.params = paramsOf (stAt k) → fd.defaults = .none → fd.kwdefaults = .none → Binds G fd pn ps qs)
    (hbody : ∀ (A : Around) (env : Env) (h0 : Heap) (X0 : List Addr), (FC.mk G A env names own gls (scopeOf (stAt k)) h0 (owned ps) X0).Ok n → Ex (FC.mk G A env names own gls (scopeOf (stAt k)) h0 (owned ps) X0) (start qs kk) (bodyOf (stAt k)) fun fl ρ' => ∃ d, fl = .ret d ∧ Φ d (ρ'.take qs.length)) : FnC G (n + 1) (.ref f) ps Φ := by
  obtain ⟨fd, F, ho, hc⟩ := D
  have hs' := Bool.and_eq_true_iff.mp hs
  have hs'' := Bool.and_eq_true_iff.mp hs'.1
  refine Fn.def (fd := fd) (body := bodyOf (stAt k)) ⟨ho, F.body, F.closure, F.globs, F.builtins, hc, ?_, ?_, ?_⟩ (F.scope ▸ N) hlim hpn hpl hpo hpq hlen (hbind fd F.params F.defaults F.kwdefaults) (F.scope ▸ hbody)
  · rw [F.scope]; exact of_decide_eq_true (by simpa using hs''.1)
  · rw [F.scope]; simpa using hs''.2
  · rw [F.scope]; simpa using hs'.2
/-- .. that changes nothing of what it was handed -/
theorem Fn.pl {G : GC} {f : Addr} {k n kk own : Nat} {pn names : List Str} {gls : List (Str × Value)} {ds : List Dt} {d : Dt} (D : DefIs G f k) (N : Names G (scopeOf (stAt k)) names own gls) (hlim : G.B.NoLimit)
    (hpn : names.take pn.length = pn) (hpl : pn.length = ds.length) (hpo : pn.length ≤ own) (hlen : ds.length + kk = names.length) (hs : plainScope (scopeOf (stAt k)) = true)
    (hbind : ∀ fd : FuncData, fd.params = paramsOf (stAt k) → fd.defaults = .none → fd.kwdefaults = .none → ∀ vs, vs.length = ds.length → bindArgs fd ⟨vs, []⟩ = pure (pn.zip vs))
    (hbody : ∀ (A : Around) (env : Env) (h0 : Heap) (X0 : List Addr), (FC.mk G A env names own gls (scopeOf (stAt k)) h0 [] X0).Ok n → Ex (FC.mk G A env names own gls (scopeOf (stAt k)) h0 [] X0) (start (ds.map .imm) kk) (bodyOf (stAt k)) fun fl _ => fl = .ret d) : FnOK G (n + 1) (.ref f) ds d := by
  refine FnC.plain (Fn.of (kk := kk) D N hlim hpn (by rw [hpl, List.length_map]) hpo rfl (by rw [List.length_map]; exact hlen) hs (fun fd a b c => .pure fun vs hv => hbind fd a b c vs (by rw [hv, List.length_map])) fun A env h0 X0 hF => ?_)
  rw [owned_imm] at hF ⊢
  exact (hbody A env h0 X0 hF).mono fun fl _ e => ⟨d, e, rfl⟩

theorem all1 {C : List Value → Prop} (h : ∀ v, C [v]) (vs : List Value) (hv : vs.length = 1) : C vs := by
  obtain ⟨v, rfl⟩ := List.length_eq_one_iff.mp hv
  exact h v
theorem all2 {C : List Value → Prop} (h : ∀ v u, C [v, u]) (vs : List Value) (hv : vs.length = 2) : C vs := by
  cases vs with
  | nil => cases hv
  | cons v r => exact all1 (C := fun r => C (v :: r)) (h v) r (Nat.succ.inj hv)
theorem all3 {C : List Value → Prop} (h : ∀ v u w, C [v, u, w]) (vs : List Value) (hv : vs.length = 3) : C vs := by
  cases vs with
  | nil => cases hv
  | cons v r => exact all2 (C := fun r => C (v :: r)) (h v) r (Nat.succ.inj hv)
/-- how the arguments are bound: it is the def's parameters alone that count -/
theorem bindF {P : Arguments} {vs : List Value} {c : Sem (List (Str × Value))} (H : ∀ fd : FuncData, bindArgs { fd with params := P, defaults := .none, kwdefaults := .none } ⟨vs, []⟩ = c) (fd : FuncData) (h1 : fd.params = P) (h2 : fd.defaults = .none) (h3 : fd.kwdefaults = .none) : bindArgs fd ⟨vs, []⟩ = c := by
  have e : ({ fd with params := P, defaults := .none, kwdefaults := .none } : FuncData) = fd := by
    cases fd; cases h1; cases h2; cases h3; rfl
  exact e ▸ H fd
theorem bindK {P : Arguments} {pn : List Str} {n : Nat} (H : ∀ (fd : FuncData) (vs : List Value), vs.length = n → bindArgs { fd with params := P, defaults := .none, kwdefaults := .none } ⟨vs, []⟩ = pure (pn.zip vs)) (fd : FuncData) (h1 : fd.params = P) (h2 : fd.defaults = .none) (h3 : fd.kwdefaults = .none) (vs : List Value) (hv : vs.length = n) : bindArgs fd ⟨vs, []⟩ = pure (pn.zip vs) :=
  bindF (fun fd => H fd vs hv) fd h1 h2 h3

/-- the names that the law's defs reach: built-ins, then the text's own -/
noncomputable def wdNames : List (Str × Value) := [(("isinstance" : Str), Value.builtin "isinstance"), (("issubclass" : Str), Value.builtin "issubclass"), (("type" : Str), Value.type "type"), (("str" : Str), Value.type "str"), (("bytes" : Str), Value.type "bytes"), (("len" : Str), Value.builtin "len"), (("range" : Str), Value.type "range"), (("list" : Str), Value.type "list"), (("int" : Str), Value.type "int"), (("ord" : Str), Value.builtin "ord"),
  (("sorted" : Str), Value.builtin "sorted"), (("sum" : Str), Value.builtin "sum"), (("min" : Str), Value.builtin "min"), (("max" : Str), Value.builtin "max"), (("enumerate" : Str), Value.type "enumerate"), (("tuple" : Str), Value.type "tuple"), (("map" : Str), Value.type "map"), (("IndexError" : Str), Value.type "IndexError"), (("ValueError" : Str), Value.type "ValueError"),
  (("fspath" : Str), Value.ref 143), (("_get_sep" : Str), Value.ref 157), (("join" : Str), Value.ref 164), (("dirname" : Str), Value.ref 171), (("commonpath" : Str), Value.ref 176), (("read_uint1" : Str), Value.ref 42), (("read_string1" : Str), Value.ref 49), (("sorted_list_difference" : Str), Value.ref 28), (("unorderable_list_difference" : Str), Value.ref 35), (("_Example" : Str), Value.ref 66),
  (("_law_taken" : Str), Value.ref 183), (("_law_stream" : Str), Value.ref 190), (("_law_names" : Str), Value.ref 195), (("_law_path" : Str), Value.ref 202), (("_law_paths" : Str), Value.ref 207), (("_law_line" : Str), Value.ref 214), (("_law_counts" : Str), Value.ref 221), (("_law_steps" : Str), Value.ref 228), (("_law_way" : Str), Value.ref 235), (("_law_folded" : Str), Value.ref 242), (("_law_pairings" : Str), Value.ref 247), (("_law_over" : Str), Value.ref 252)]
/-- the defs: the object, the place in the text -/
noncomputable def wdDefs : List (Addr × Nat) := [(28, 2), (35, 3), (42, 5), (49, 6), (143, 16), (157, 20), (164, 21), (171, 22), (176, 23), (183, 25), (190, 26), (195, 27), (202, 28), (207, 29), (214, 30), (221, 31), (228, 32), (235, 33), (242, 34), (247, 35), (252, 36), (257, 37)]
/-- what the run has laid -/
structure Wd (G : GC) : Prop where
  nolimit : G.B.NoLimit
  gn : ∀ p ∈ wdNames, GName G p.1 p.2
  df : ∀ p ∈ wdDefs, DefIs G p.1 p.2
  ex : Road G (.ref 66)
theorem Wd.def {G : GC} (W : Wd G) {i : Nat} {f : Addr} {k : Nat} (h : wdDefs[i]? = some (f, k)) : DefIs G f k := W.df _ (List.mem_of_getElem? h)
noncomputable def roadOf (v : Value) : Bool := match v with | .builtin _ => true | .type _ => true | .ref a => a == 66 || wdDefs.any fun p => p.1 == a | _ => false
theorem Wd.road {G : GC} (W : Wd G) : ∀ {v : Value}, roadOf v = true → Road G v
  | .builtin _, _ => .builtin _
  | .type _, _ => .type _
  | .ref a, h => by
    rcases Bool.or_eq_true_iff.mp h with q | q
    · have : a = 66 := by simpa using q
      subst this; exact W.ex
    · obtain ⟨p, hp, q⟩ := List.any_eq_true.mp q
      have : p.1 = a := by simpa using q
      subst this; exact (W.df p hp).road
theorem roads_all : (wdNames.all fun p => roadOf p.2) = true := by decide +kernel
theorem Wd.gls {G : GC} (W : Wd G) (is : List Nat) : ∀ p ∈ is.filterMap (wdNames[·]?), GName G p.1 p.2 ∧ Road G p.2 := fun p hp => by
  obtain ⟨i, _, hi⟩ := List.mem_filterMap.mp hp
  have hm := List.mem_of_getElem? hi
  exact ⟨W.gn p hm, W.road (List.all_eq_true.mp roads_all p hm)⟩

section
variable {G : GC}
theorem get_sep_ok (W : Wd G) (p : Str) : FnOK G 1 (.ref 157) [.str p] (.str "/") := by
  refine Fn.pl (k := 20) (n := 0) (kk := 0) (own := 1) (pn := ["path"]) (names := ["path"]) (gls := [("isinstance", .builtin "isinstance"), ("bytes", .type "bytes")]) (W.def (i := 5) rfl)
    (.of (by decide) (by decide) (by decide +kernel) (by decide +kernel) (W.gls [0, 4])) W.nolimit rfl rfl (Nat.le_refl _) rfl (by decide +kernel) (bindK fun _ => all1 fun _ => by kernel_rfl) fun A env h0 X0 hF => ?_
  · exact Ex.if_false (Tr.val (Ev.call (j := 0) hF rfl (.cons (.name (i := 0) hF rfl rfl) (.cons (.typ (j := 1) hF rfl) .nil)) (call_isinstance_bytes p)) (truth_bool _)) (Ex.ret .str rfl)
theorem fspath_ok (W : Wd G) (p : Str) : FnOK G 1 (.ref 143) [.str p] (.str p) := by
  refine Fn.pl (k := 16) (n := 0) (kk := 1) (own := 2) (pn := ["path"]) (names := ["path", "kind"]) (gls := [("type", .type "type"), ("issubclass", .builtin "issubclass"), ("str", .type "str"), ("bytes", .type "bytes")]) (W.def (i := 4) rfl)
    (.of (by decide) (by decide) (by decide +kernel) (by decide +kernel) (W.gls [2, 1, 3, 4])) W.nolimit rfl rfl (by decide) rfl (by decide +kernel) (bindK fun _ => all1 fun _ => by kernel_rfl) fun A env h0 X0 hF => ?_
  · refine Ex.seq (Ex1.assign (i := 1) hF rfl (Nat.lt_of_sub_pos (by decide : 0 < 2 - 1)) (Ev.call (j := 0) hF rfl (.cons (.name (i := 0) hF rfl rfl) .nil) (call_type_str p))) ?_
    exact Ex.if_true (Tr.val (Ev.call (j := 1) hF rfl (.cons (.name (i := 1) hF rfl rfl) (.cons (.tup (.cons (.typ (j := 2) hF rfl) (.cons (.typ (j := 3) hF rfl) .nil)) (by decide)) .nil)) call_issubclass_str) (truth_bool _)) (Ex.ret (.name (i := 0) hF rfl rfl) rfl)
end
end Mine
end

section
open PySem PySem.Calls PyProof.Rows PySem.W
namespace Mine

noncomputable def dirHead (p : Str) : Str := Txt.slice p none (some (Txt.rfind p "/" + 1))
noncomputable def dirS (p : Str) : Str := if (((dirHead p).length : Int) != 0 && dirHead p != Txt.mul "/" (dirHead p).length) = true then Txt.rstripChars (dirHead p) "/" else dirHead p

theorem small_lt {n : Nat} (h : n ≤ 1000) : n ≤ sizeLine := by rw [sizeLine_eq]; lia
theorem mulOk_sep {n : Nat} (h : n ≤ 1000) : MulOk "/" n := by
  refine ⟨?_, fun h1 _ => ?_, fun _ _ => ?_⟩
  · simp only [Bool.or_eq_false_iff, decide_eq_false_iff_not]; lia
  · show ¬ ((1 : Int) > (2 ^ 63 - 1) / (n : Int))
    · have : (1 : Int) ≤ (2 ^ 63 - 1) / (n : Int) := by
        rw [Int.le_ediv_iff_mul_le (by lia)]; lia
      lia
  · show Builtin.Str.tooLong (1 * ((n : Int)).toNat) = false
    unfold Builtin.Str.tooLong
    rw [sizeLine_eq]
    simp; lia
section
variable {G : GC}
theorem dirname_ok (W : Wd G) (p : Str) (hp : p.length ≤ 1000) : FnOK G 2 (.ref 171) [.str p] (.str (dirS p)) := by
  have hh : (dirHead p).length ≤ 1000 := Nat.le_trans (Txt.slice_le ..) hp
  refine Fn.pl (k := 22) (n := 1) (kk := 3) (own := 4) (pn := ["p"]) (names := ["p", "sep", "i", "head"]) (gls := [("fspath", .ref 143), ("_get_sep", .ref 157), ("len", .builtin "len")]) (W.def (i := 7) rfl)
    (.of (by decide) (by decide) (by decide +kernel) (by decide +kernel) (W.gls [19, 20, 5])) W.nolimit rfl rfl (by decide) rfl (by decide +kernel) (bindK fun _ => all1 fun _ => by kernel_rfl) fun A env h0 X0 hF => ?_
  · refine Ex.seq (Ex1.assign (i := 0) hF rfl (Nat.lt_of_sub_pos (by decide : 0 < 4 - 0)) (Ev.call (j := 0) hF rfl (.cons (.name (i := 0) hF rfl rfl) .nil) ((fspath_ok W p).use hF (by decide)))) ?_
    refine Ex.seq (Ex1.assign (i := 1) hF rfl (Nat.lt_of_sub_pos (by decide : 0 < 4 - 1)) (Ev.call (j := 1) hF rfl (.cons (.name (i := 0) hF rfl rfl) .nil) ((get_sep_ok W p).use hF (by decide)))) ?_
    refine Ex.seq (Ex1.assign (i := 2) hF rfl (Nat.lt_of_sub_pos (by decide : 0 < 4 - 2)) (Ev.bin (Ev.meth PySem.F.plainAttrs_str PySem.F.slot_str_rfind PySem.F.type_str_rfind (.name (i := 0) hF rfl rfl) (.cons (.name (i := 1) hF rfl rfl) .nil) (call_rfind p "/")) .int (bin_add_int _ 1))) ?_
    refine Ex.seq (Ex1.assign (i := 3) hF rfl (Nat.lt_of_sub_pos (by decide : 0 < 4 - 3)) (Ev.slice_str (.name (i := 0) hF rfl rfl) .none (.some (.name (i := 2) hF rfl rfl)) (small_lt hp) rfl)) ?_
    have hname : ∀ {pos : Pos}, Ev (FC.mk G A env ["p", "sep", "i", "head"] 4 [("fspath", .ref 143), ("_get_sep", .ref 157), ("len", .builtin "len")] (scopeOf (stAt 22)) h0 [] X0) [.imm (.str p), .imm (.str "/"), .imm (.int (Txt.rfind p "/" + 1)), .imm (.str (dirHead p))] (.Name "head" pos) (.str (dirHead p)) := .name (i := 3) hF rfl rfl
    have hcmp : ∀ {p1 p2 p3 p4 p5 p6 p7 : Pos}, Tr (FC.mk G A env ["p", "sep", "i", "head"] 4 [("fspath", .ref 143), ("_get_sep", .ref 157), ("len", .builtin "len")] (scopeOf (stAt 22)) h0 [] X0) [.imm (.str p), .imm (.str "/"), .imm (.int (Txt.rfind p "/" + 1)), .imm (.str (dirHead p))]
        (.Compare (.Name "head" p1) [.NotEq] [.BinOp (.Name "sep" p2) .Mult (.Call (.Name "len" p3) [.Name "head" p4] [] p5) p6] p7) (dirHead p != Txt.mul "/" (dirHead p).length) := fun {_ _ _ _ _ _ _} =>
      Tr.cmp hname (Ev.bin (.name (i := 1) hF rfl rfl) (Ev.call (j := 2) hF rfl (.cons hname .nil) (call_len_s _ (small_lt hh))) (bin_mul_str _ _ (mulOk_sep hh))) (cmp_ne_str _ _)
    have hlast : ∀ {d : Str} {Θ : String → List Sl → Prop} {pos pos2 : Pos}, d = dirS p → Ex (FC.mk G A env ["p", "sep", "i", "head"] 4 [("fspath", .ref 143), ("_get_sep", .ref 157), ("len", .builtin "len")] (scopeOf (stAt 22)) h0 [] X0) [.imm (.str p), .imm (.str "/"), .imm (.int (Txt.rfind p "/" + 1)), .imm (.str d)] [.Return (some (.Name "head" pos)) pos2] (fun fl _ => fl = .ret (.str (dirS p))) Θ :=
      fun e => Ex.ret (.name (i := 3) hF rfl rfl) (by rw [e])
    cases h1 : (((dirHead p).length : Int) != 0) with
    | false => exact Ex.if_false (Tr.and_false (Tr.val hname (h1 ▸ truth_str _ (small_lt hh)))) (Ex.nil (hlast (by unfold dirS; rw [h1]; rfl)))
    | true =>
      cases h2 : (dirHead p != Txt.mul "/" (dirHead p).length) with
      | false => exact Ex.if_false (Tr.and_true (Tr.val hname (h1 ▸ truth_str _ (small_lt hh))) (Tr.and_false (h2 ▸ hcmp))) (Ex.nil (hlast (by unfold dirS; rw [h1, h2]; rfl)))
      | true =>
        refine Ex.if_true (Tr.and_true (Tr.val hname (h1 ▸ truth_str _ (small_lt hh))) (Tr.and_true (h2 ▸ hcmp) .and_nil)) ?_
        refine Ex.seq (Ex1.assign (i := 3) hF rfl (Nat.lt_of_sub_pos (by decide : 0 < 4 - 3)) (Ev.meth PySem.F.plainAttrs_str PySem.F.slot_str_rstrip PySem.F.type_str_rstrip hname (.cons (.name (i := 1) hF rfl rfl) .nil) (call_rstrip _ _ (small_lt hh)))) (Ex.nil ?_)
        exact hlast (by unfold dirS; rw [h1, h2]; rfl)
end
end Mine
end

section
open PySem PySem.Calls PyProof.Rows PySem.W
namespace Mine

/-- a number's figures to the base 4, the last one ahead -/
noncomputable def figs (n : Int) : List Int := [n.fdiv 1 |>.fmod 4, n.fdiv 4 |>.fmod 4, n.fdiv 16 |>.fmod 4]
noncomputable def nameOf (f : Int) : Str := if f = 1 then "é" else if f = 2 then "é." else if f = 3 then "e" else ""
noncomputable def namesOf (n : Int) : List Str := ((figs n).filter fun f => decide (f > 0)).map nameOf
theorem figs_range (n : Int) : ∀ f ∈ figs n, 0 ≤ f ∧ f < 4 := by
  intro f hf
  unfold figs at hf
  simp only [List.mem_cons, List.not_mem_nil, or_false] at hf
  have key : ∀ m : Int, 0 ≤ m.fmod 4 ∧ m.fmod 4 < 4 := fun m => ⟨Int.fmod_nonneg_of_pos m (by decide), Int.fmod_lt_of_pos m (by decide)⟩
  rcases hf with rfl | rfl | rfl <;> exact key _

theorem swaps_yes {F : FC} {n : Nat} {elt : PySem.Expr} {gens : List Comprehension} {scope : Scope} {pos np : Pos} {x : Str} {line : Nat} (hF : F.Ok n) (h1 : F.sc.names.lookup x = some .local) (h2 : (np.line == pos.line && !(scope.names.any fun (n, k) => n == x && (k == .local || k == .cell))) = true) :
    swapsWith (.ListComp elt gens scope pos) (some (.Name x np)) line F.env = pure true := by
  show (pure (F.env.blockKind == .function && F.env.kindOf x == some .local && np.line == pos.line && !(scope.names.any fun (n, k) => n == x && (k == .local || k == .cell))) : Sem Bool) = _
  have hk : F.env.blockKind = .function := by
    unfold Env.blockKind
    rw [hF.kind]; rfl
  rw [hk, kind_eq hF, h1, Bool.and_assoc, h2]; rfl
theorem swaps_no {F : FC} {n : Nat} {elt : PySem.Expr} {gens : List Comprehension} {scope : Scope} {pos np : Pos} {x : Str} {line : Nat} (hF : F.Ok n) (h1 : F.sc.names.lookup x = some .cell) :
    swapsWith (.ListComp elt gens scope pos) (some (.Name x np)) line F.env = pure false := by
  show (pure (F.env.blockKind == .function && F.env.kindOf x == some .local && np.line == pos.line && !(scope.names.any fun (n, k) => n == x && (k == .local || k == .cell))) : Sem Bool) = _
  rw [kind_eq hF, h1]
  have : (some NameKind.cell == some NameKind.local) = false := rfl
  rw [this, Bool.and_false, Bool.false_and, Bool.false_and]
theorem Tr.as {F : FC} {ρ : List Sl} {e : PySem.Expr} {b c : Bool} (h : Tr F ρ e b) (q : b = c) : Tr F ρ e c := q ▸ h
theorem few_bits (k : Nat) (h : k < 3) : ((Builtin.Int.intBits 4 : Int)) * (k : Int) ≤ 2 ^ 27 := by
  have : Builtin.Int.intBits 4 = 3 := by decide +kernel
  rw [this]; lia
theorem no_pylong (m : Int) (k : Nat) (h : k < 3) : Builtin.divisionGoesByPylong m (4 ^ k) = false := by
  unfold Builtin.divisionGoesByPylong
  refine Bool.and_eq_false_iff.mpr (.inl ?_)
  match k, h with
  | 0, _ => decide +kernel
  | 1, _ => decide +kernel
  | 2, _ => decide +kernel
section
variable {G : GC}
theorem names_ok (W : Wd G) (m : Int) (h0 : 0 ≤ m) (h1 : m < 1000000) : FnOK G 1 (.ref 195) [.int m] (strD (namesOf m)) := by
  refine Fn.pl (k := 27) (n := 0) (kk := 1) (own := 2) (pn := ["number"]) (names := ["number", "figures"]) (gls := [("range", .type "range")]) (W.def (i := 11) rfl)
    (.of (by decide) (by decide) (by decide +kernel) (by decide +kernel) (W.gls [6])) W.nolimit rfl rfl (by decide) rfl (by decide +kernel) (bindK fun _ => all1 fun _ => by kernel_rfl) fun A env hp X0 hF => ?_
  · refine Ex.seq (Ex1.assign_comp1 (i := 1) ((figs m).map fun f => some (.int f)) ((figs m).map .int) ["place"] ["number"] [] hF rfl (Nat.lt_of_sub_pos (by decide : 0 < 2 - 1))
      (swaps_yes hF (by show (scopeOf (stAt 27)).names.lookup _ = _; decide +kernel) (by decide +kernel)) (EvIt.range (j := 0) (k := 3) hF rfl .int (by decide)) (by show compOK (scopeOf (stAt 27)) _ _ _ _ = true; decide +kernel) (Caps.cons (i := 0) rfl rfl .nil) (fun _ h => nomatch h) rfl (by decide) rfl ?_) ?_
    · intro C D acc ok k d r hd hr
      have hk : k < 3 := (List.getElem?_eq_some_iff.mp hd).1
      have hd' : d = .int (k : Int) := by
        unfold countD at hd
        rw [List.getElem?_map, List.getElem?_range (by simpa using hk)] at hd
        exact (Option.some.inj hd).symm
      subst hd'
      refine ⟨[.imm (.int k)], rfl, .name (i := 0) ok rfl (Nat.lt_of_sub_pos (by decide : 0 < 1 - 0)), ?_⟩
      have hr' : r = some (.int ((m.fdiv (4 ^ k)).fmod 4)) := by
        unfold figs at hr
        match k, hk with
        | 0, _ => exact (Option.some.inj hr).symm
        | 1, _ => exact (Option.some.inj hr).symm
        | 2, _ => exact (Option.some.inj hr).symm
      subst hr'
      refine ⟨.nil, ?_⟩
      have hp4 : ((4 : Int) ^ ((k : Int)).toNat) = 4 ^ k := by rw [Int.toNat_natCast]
      refine Ev.bin (Ev.bin (.name (i := 1) ok rfl rfl) (Ev.bin .int (.name (i := 0) ok rfl rfl) (hp4 ▸ bin_pow_int 4 k (by lia) ?_)) (bin_floordiv_int m (4 ^ k) ?_ ?_)) .int (bin_mod_int _ 4 (by decide))
      · exact Int.ne_of_gt (Int.pow_pos (by decide : (0 : Int) < 4))
      · exact no_pylong m k hk
      · exact few_bits k hk
    · refine Ex.ret (Ev.comp1 ((figs m).map fun f => if f > 0 then some (.str (nameOf f)) else none) ((namesOf m).map .str) ["figure"] [] [] hF (EvIt.list hF (.name (i := 1) hF rfl rfl)) (by show compOK (scopeOf (stAt 27)) _ _ _ _ = true; decide +kernel) .nil (fun _ h => nomatch h) (by simp) (by show 3 ≤ 1000; decide) ?_ ?_) rfl
      · unfold namesOf
        rw [List.filterMap_map, List.map_map]
        generalize figs m = l
        induction l with
        | nil => rfl
        | cons a r ih =>
          rw [List.filterMap_cons, List.filter_cons]
          by_cases ha : a > 0
          · simp only [Function.comp, ha, if_true, id, decide_true, List.map_cons]
            exact congrArg (_ :: ·) ih
          · simp only [Function.comp, ha, if_false, id, decide_false, Bool.false_eq_true]
            exact ih
      · intro C D acc ok k d r hd hr
        rw [List.getElem?_map] at hd hr
        obtain ⟨f, hf, rfl⟩ := Option.map_eq_some_iff.mp hd
        rw [hf] at hr
        have hr2 : (if f > 0 then some (Dt.str (nameOf f)) else none) = r := Option.some.inj hr
        subst hr2
        have hfr := figs_range m f (List.mem_of_getElem? hf)
        refine ⟨[.imm (.int f)], rfl, .name (i := 0) ok rfl (Nat.lt_of_sub_pos (by decide : 0 < 1 - 0)), ?_⟩
        have hn : ∀ {pos : Pos}, Ev ((FC.mk G A env ["number", "figures"] 2 [("range", .type "range")] (scopeOf (stAt 27)) hp [] X0).comp [.imm (.int m), .imm (.list ((figs m).map .int))] _ C ["figure"] [] []) (cset [.imm (.int f)] [] D acc) (.Name "figure" pos) (.int f) := .name (i := 0) ok rfl rfl
        by_cases h : f > 0
        · rw [if_pos h]
          refine ⟨.one ((Tr.cmp hn .int (cmp_gt_int f 0)).as (decide_eq_true h)), Ev.item PySem.F.slot_tuple_getitem.lookup (.tup (.cons .str (.cons .str (.cons .str (.cons .str .nil)))) (by decide)) hn (item_tup _ f _ (by lia) (by lia) ?_)⟩
          have : f = 1 ∨ f = 2 ∨ f = 3 := by lia
          rcases this with rfl | rfl | rfl <;> rfl
        · rw [if_neg h]
          exact .one ((Tr.cmp hn .int (cmp_gt_int f 0)).as (decide_eq_false h))
end
end Mine
end

section
open PySem PySem.Calls PyProof.Rows PySem.W
namespace Mine
section
variable {G : GC}
noncomputable def lineUp (c : Nat → Str) (k : Nat) : List Str := ((List.range k).map c).reverse
theorem lineUp_succ (c : Nat → Str) (k : Nat) : lineUp c (k + 1) = c k :: lineUp c k := by
  unfold lineUp; rw [List.range_succ, List.map_append, List.reverse_append]; rfl
theorem line_ok (W : Wd G) (c : Nat → Str) (m : Nat) (hc : ∀ k, c (k + 1) = dirS (c k)) (hm : c m = "/") (hne : ∀ k, k < m → c k ≠ "/") (hl : ∀ k, (c k).length ≤ 1000) (hm3 : m ≤ 100) : FnOK G 3 (.ref 214) [.str (c 0)] (strD (lineUp c m)) := by
  refine Fn.pl (k := 30) (n := 2) (kk := 1) (own := 2) (pn := ["path"]) (names := ["path", "line"]) (gls := [("dirname", .ref 171)]) (W.def (i := 14) rfl)
    (.of (by decide) (by decide) (by decide +kernel) (by decide +kernel) (W.gls [22])) W.nolimit rfl rfl (by decide) rfl (by decide +kernel) (bindK fun _ => all1 fun _ => by kernel_rfl) fun A env h0 X0 hF => ?_
  refine Ex.seq (Ex1.assign (i := 1) hF rfl (Nat.lt_of_sub_pos (by decide : 0 < 2 - 1)) (.list .nil (by decide))) ?_
  refine Ex.seq (ρ' := [.imm (.str (c m)), .imm (strD (lineUp c m))]) (Ex1.while (I := fun k => [.imm (.str (c k)), .imm (strD (lineUp c k))]) (m := m) rfl (fun k hk => ?_) (fun k hk => ?_) ⟨rfl, rfl⟩) ?_
  · refine (Tr.cmp (.name (i := 0) hF rfl rfl) .str (cmp_ne_str (c k) "/")).as ?_
    by_cases hkm : k < m
    · rw [decide_eq_true hkm]; simpa using hne k hkm
    · have : k = m := by lia
      subst this
      rw [decide_eq_false hkm, hm]; rfl
  · refine Ex.seq (Ex1.assign (i := 1) (d := strD (lineUp c (k + 1))) hF rfl (Nat.lt_of_sub_pos (by decide : 0 < 2 - 1)) ?_) ?_
    · rw [lineUp_succ]
      exact Ev.bin (Ev.list (.cons (.name (i := 0) hF rfl rfl) .nil) (show 1 ≤ sizeLine by decide)) (.name (i := 1) hF rfl rfl) (bin_add_list [.str (c k)] ((lineUp c k).map .str) (by rw [sizeLine_eq]; simp [lineUp]; lia))
    · refine Ex.seq (Ex1.assign (i := 0) hF rfl (Nat.lt_of_sub_pos (by decide : 0 < 2 - 0)) (Ev.call (j := 0) hF rfl (.cons (.name (i := 0) hF rfl rfl) .nil) ((dirname_ok W (c k) (hl k)).use hF (by decide)))) (Ex.nil ⟨.inl rfl, ?_⟩)
      rw [hc k]; exact .refl _
  · exact Ex.ret (.name (i := 1) hF rfl rfl) rfl
end
end Mine
end

section
open PySem PySem.Calls PyProof.Rows PySem.W
namespace Mine
section
variable {G : GC}
theorem strD_add (a b : List Str) : (Dt.list (a.map .str ++ b.map .str)) = strD (a ++ b) := by unfold strD; rw [List.map_append]
theorem steps_ok (W : Wd G) {l m a b : List Str} (h : FnOK G 1 (.ref 28) [strD l, strD m] (.tup [strD a, strD b])) (ha : a.length ≤ 500) (hb : b.length ≤ 500) : FnOK G 2 (.ref 228) [strD l, strD m] (strD (a ++ b)) := by
  refine Fn.pl (k := 32) (n := 1) (kk := 2) (own := 4) (pn := ["line", "other"]) (names := ["line", "other", "missing", "unexpected"]) (gls := [("sorted_list_difference", .ref 28)]) (W.def (i := 16) rfl)
    (.of (by decide) (by decide) (by decide +kernel) (by decide +kernel) (W.gls [26])) W.nolimit rfl rfl (by decide) rfl (by decide +kernel) (bindK fun _ => all2 fun _ _ => by kernel_rfl) fun A env h0 X0 hF => ?_
  refine Ex.seq (Ex1.unpack (Ev.call (j := 0) hF rfl (.cons (.name (i := 0) hF rfl rfl) (.cons (.name (i := 1) hF rfl rfl) .nil)) (h.use hF (by decide))) (.tup hF (.cons (.name (i := 2) hF rfl (Nat.lt_of_sub_pos (by decide : 0 < 4 - 2))) (.cons (.name (i := 3) hF rfl (Nat.lt_of_sub_pos (by decide : 0 < 4 - 3))) .nil)))) ?_
  refine Ex.ret (Ev.bin (.name (i := 2) hF rfl rfl) (.name (i := 3) hF rfl rfl) (bin_add_list (a.map .str) (b.map .str) (by rw [List.length_map, List.length_map, sizeLine_eq]; lia))) ?_
  exact congrArg Fl.ret (strD_add a b)

/-- the folding of the lines -/
theorem folded_ok (W : Wd G) {ls : List (List Str)} {st : Nat → List Str} {sd : Nat → List Str} (h0 : st 0 = []) (hst : ∀ k l, ls[k]? = some l → FnOK G 2 (.ref 228) [strD (st k), strD l] (strD (sd k))) (hsd : ∀ k, k < ls.length → (sd k).length < 64 ∧ ∀ l' : List Str, l'.Perm (sd k) → sortedS l' = true → l' = st (k + 1)) (hl : ls.length ≤ 100) :
    FnOK G 3 (.ref 242) [.list (ls.map strD)] (strD (st ls.length)) := by
  refine Fn.pl (k := 34) (n := 2) (kk := 2) (own := 3) (pn := ["lines"]) (names := ["lines", "odd", "line"]) (gls := [("sorted", .builtin "sorted"), ("_law_steps", .ref 228)]) (W.def (i := 18) rfl)
    (.of (by decide) (by decide) (by decide +kernel) (by decide +kernel) (W.gls [10, 36])) W.nolimit rfl rfl (by decide) rfl (by decide +kernel) (bindK fun _ => all1 fun _ => by kernel_rfl) fun A env hp X0 hF => ?_
  refine Ex.seq (Ex1.assign (i := 1) (d := strD (st 0)) hF rfl (Nat.lt_of_sub_pos (by decide : 0 < 3 - 1)) (by rw [h0]; exact .list .nil (by decide))) ?_
  refine Ex.seq (ρ' := [.imm (.list (ls.map strD)), .imm (strD (st ls.length)), .unk]) (Ex1.for (I := fun k => [.imm (.list (ls.map strD)), .imm (strD (st k)), .unk]) (EvIt.list hF (.name (i := 0) hF rfl rfl)) rfl (fun k d hd => ?_) (by rw [List.length_map]; exact ⟨rfl, rfl⟩)) ?_
  · rw [List.getElem?_map] at hd
    obtain ⟨l, hl', rfl⟩ := Option.map_eq_some_iff.mp hd
    have hk := (List.getElem?_eq_some_iff.mp hl').1
    refine ⟨_, .name (i := 2) hF rfl (Nat.lt_of_sub_pos (by decide : 0 < 3 - 2)), Ex.seq (Ex1.assign (i := 1) hF rfl (Nat.lt_of_sub_pos (by decide : 0 < 3 - 1)) (Ev.call (j := 0) hF rfl (.cons (Ev.call (j := 1) hF rfl (.cons (.name (i := 1) hF rfl rfl) (.cons (.name (i := 2) hF rfl rfl) .nil)) ((hst k l hl').use hF (by decide))) .nil) (call_sorted (sd k) (st (k + 1)) (hsd k hk).1 (hsd k hk).2))) (Ex.nil ?_)⟩
    exact .keep (.keep (.drop .nil))
  · exact Ex.ret (.name (i := 1) hF rfl rfl) rfl
end
end Mine
end

section
open PySem PySem.Calls PyProof.Rows PySem.W
namespace Mine

theorem sliceD_plain {α : Type} (ds : List α) (lo hi : Option Int) : sliceD ds lo hi none = (ds.drop (lo.elim 0 (clipAt ds.length))).take (hi.elim ds.length (clipAt ds.length) - lo.elim 0 (clipAt ds.length)) := by
  unfold sliceD
  rw [sliceBounds_plain]
  have := pick_run ds.toArray (lo.elim 0 (clipAt ds.length)) (hi.elim ds.length (clipAt ds.length) - lo.elim 0 (clipAt ds.length))
  simp only [List.getElem?_toArray] at this
  simp only [sliceRange_one]
  exact this
theorem sliceD_from {α : Type} (ds : List α) (k : Nat) : sliceD ds (some (k : Int)) none none = ds.drop k := by
  rw [sliceD_plain]
  show (ds.drop (clipAt ds.length (k : Int))).take (ds.length - clipAt ds.length (k : Int)) = _
  rw [clipAt_nat]
  by_cases h : k ≤ ds.length
  · rw [Nat.min_eq_left h]; exact List.take_of_length_le (by simp)
  · rw [Nat.min_eq_right (by lia), List.drop_of_length_le (Nat.le_refl _), List.drop_of_length_le (by lia)]; simp
theorem sliceD_at {α : Type} (ds : List α) (k : Nat) : sliceD ds (some (k : Int)) (some ((k : Int) + 1)) none = (ds.drop k).take 1 := by
  rw [sliceD_plain]
  show (ds.drop (clipAt ds.length (k : Int))).take (clipAt ds.length ((k : Int) + 1) - clipAt ds.length (k : Int)) = _
  rw [show ((k : Int) + 1) = ((k + 1 : Nat) : Int) by push_cast; rfl, clipAt_nat, clipAt_nat]
  by_cases h : k + 1 ≤ ds.length
  · rw [Nat.min_eq_left h, Nat.min_eq_left (by lia), Nat.add_sub_cancel_left]
  · rw [Nat.min_eq_right (by lia), Nat.min_eq_right (by lia), Nat.sub_self, List.drop_of_length_le (Nat.le_refl _), List.drop_of_length_le (by lia)]; rfl
theorem sliceD_butLast {α : Type} (ds : List α) : sliceD ds none (some (-1)) none = ds.take (ds.length - 1) := by
  rw [sliceD_plain]
  show (ds.drop 0).take (clipAt ds.length (-((1 : Nat) : Int)) - 0) = _
  rw [clipAt_neg _ 1 (Nat.le_refl _)]; rfl
theorem sliceD_upto {α : Type} (ds : List α) (k : Nat) : sliceD ds none (some (k : Int)) none = ds.take k := by
  rw [sliceD_plain]
  show (ds.drop 0).take (clipAt ds.length (k : Int) - 0) = _
  rw [clipAt_nat, Nat.sub_zero, List.drop_zero]
  by_cases h : k ≤ ds.length
  · rw [Nat.min_eq_left h]
  · rw [Nat.min_eq_right (by lia), List.take_length, List.take_of_length_le (by lia)]

theorem Ev.as {F : FC} {ρ : List Sl} {e : PySem.Expr} {b c : Dt} (h : Ev F ρ e b) (q : b = c) : Ev F ρ e c := q ▸ h
noncomputable def okS (l : List Str) : Prop := ∀ x ∈ l, PyData.strOk x = true
theorem canLay_strs : ∀ {l : List Str}, okS l → PyData.canLayAll0 (PDL (l.map .str)) = true
  | [], _ => rfl
  | x :: r, h => Bool.and_eq_true_iff.mpr ⟨(by have := h x List.mem_cons_self; simpa [PD, PyData.canLay0] using this), canLay_strs fun y hy => h y (List.mem_cons_of_mem _ hy)⟩
theorem depth_strs : ∀ l : List Str, PyData.depthAll (PDL (l.map .str)) = 0
  | [] => rfl
  | x :: r => by show max 0 (PyData.depthAll (PDL (r.map .str))) = 0; rw [depth_strs r]; rfl
theorem pure_strs : ∀ l : List Str, pureL (l.map .str) = true
  | [] => rfl
  | x :: r => pure_strs r
theorem shaped_strs {l : List Str} (h : okS l) : SeqAt.shaped (PD (strD l)) = true := by
  unfold SeqAt.shaped
  refine Bool.and_eq_true_iff.mpr ⟨canLay_strs h, decide_eq_true ?_⟩
  show PyData.depthAll (PDL (l.map .str)) + 1 ≤ 64
  rw [depth_strs]; decide
theorem shaped_three {a b c : List Str} (ha : okS a) (hb : okS b) (hc : okS c) : SeqAt.shaped (PD (.tup [strD a, strD b, strD c])) = true := by
  unfold SeqAt.shaped
  refine Bool.and_eq_true_iff.mpr ⟨Bool.and_eq_true_iff.mpr ⟨canLay_strs ha, Bool.and_eq_true_iff.mpr ⟨canLay_strs hb, Bool.and_eq_true_iff.mpr ⟨canLay_strs hc, rfl⟩⟩⟩, decide_eq_true ?_⟩
  show max (PyData.depthAll (PDL (a.map .str)) + 1) (max (PyData.depthAll (PDL (b.map .str)) + 1) (max (PyData.depthAll (PDL (c.map .str)) + 1) 0)) + 1 ≤ 64
  rw [depth_strs, depth_strs, depth_strs]; decide
theorem eqv_strs : ∀ l m : List Str, PyData.eqvAll (PDL (l.map .str)) (PDL (m.map .str)) = decide (l = m)
  | [], [] => rfl
  | [], _ :: _ => by simp [PDL, PyData.eqvAll]
  | _ :: _, [] => by simp [PDL, PyData.eqvAll]
  | x :: l, y :: m => by
    show (x == y && PyData.eqvAll (PDL (l.map .str)) (PDL (m.map .str))) = _
    rw [eqv_strs l m]
    by_cases h : x = y <;> by_cases h2 : l = m <;> simp [h, h2]

section
variable {G : GC} {A : Around}
theorem bin_sub_int (a b : Int) : BinOK G A .Sub (.int a) (.int b) (.int (a - b)) := fun _ _ _ _ st _ h1 h2 _ _ hq => by obtain ⟨_, rfl⟩ := h1.int'; obtain ⟨_, rfl⟩ := h2.int'; exact PySem.SiftDown.sub_int (gives_here st (.int _ _) hq)
theorem cmp_ne_strs (l m : List Str) (hl : okS l) (hm : okS m) (hu : A.units + 64 < cLine) : CmpOK G A .NotEq (strD l) (strD m) (!decide (l = m)) := by
  have := cmp_ne_data (G := G) (A := A) (strD l) (strD m) (pure_strs l) (pure_strs m) (shaped_strs hl) (shaped_strs hm) hu
  rw [show PyData.eqv (PD (strD l)) (PD (strD m)) = decide (l = m) from eqv_strs l m] at this
  exact this
theorem cmp_eq_strs (l m : List Str) (hl : okS l) (hm : okS m) (hu : A.units + 64 < cLine) : CmpOK G A .Eq (strD l) (strD m) (decide (l = m)) := by
  have := cmp_eq_data (G := G) (A := A) (strD l) (strD m) (pure_strs l) (pure_strs m) (shaped_strs hl) (shaped_strs hm) hu
  rw [show PyData.eqv (PD (strD l)) (PD (strD m)) = decide (l = m) from eqv_strs l m] at this
  exact this
/-- room enough for a comparison -/
theorem FC.Ok.room {F : FC} {n : Nat} (hF : F.Ok n) (hn : 8 ≤ n) : F.A.units + 64 < cLine := by have := hF.units; lia
theorem way_ok (W : Wd G) {l m a b : List Str} {s : Str} (h : FnOK G 1 (.ref 28) [strD l, strD m] (.tup [strD a, strD b])) (hal : a.length ≤ l.length) (ha : a = l.drop (l.length - a.length)) (hb : b = m.drop (l.length - a.length)) (hs : [s] = ((("/" : Str) :: l).drop (l.length - a.length)).take 1)
    (hll : l.length ≤ 100) (hml : m.length ≤ 100) (ol : okS l) (om : okS m) (os : PyData.strOk s = true) : FnOK G 9 (.ref 235) [strD l, strD m, .str s] (strD (a ++ b ++ [s])) := by
  refine Fn.pl (k := 33) (n := 8) (kk := 3) (own := 6) (pn := ["line", "other", "shared"]) (names := ["line", "other", "shared", "missing", "unexpected", "kept"]) (gls := [("sorted_list_difference", .ref 28), ("len", .builtin "len")]) (W.def (i := 17) rfl)
    (.of (by decide) (by decide) (by decide +kernel) (by decide +kernel) (W.gls [26, 5])) W.nolimit rfl rfl (by decide) rfl (by decide +kernel) (bindK fun _ => all3 fun _ _ _ => by kernel_rfl) fun A env h0 X0 hF => ?_
  have hbl : b.length ≤ 100 := by rw [hb, List.length_drop]; lia
  have oa : okS a := fun x hx => ol x (List.mem_of_mem_drop (ha ▸ hx))
  have ob : okS b := fun x hx => om x (List.mem_of_mem_drop (hb ▸ hx))
  refine Ex.seq (Ex1.unpack (Ev.call (j := 0) hF rfl (.cons (.name (i := 0) hF rfl rfl) (.cons (.name (i := 1) hF rfl rfl) .nil)) (h.use hF (by decide))) (.tup hF (.cons (.name (i := 3) hF rfl (Nat.lt_of_sub_pos (by decide : 0 < 6 - 3))) (.cons (.name (i := 4) hF rfl (Nat.lt_of_sub_pos (by decide : 0 < 6 - 4))) .nil)))) ?_
  refine Ex.seq (Ex1.assign (i := 5) (d := .int ((l.length - a.length : Nat) : Int)) hF rfl (Nat.lt_of_sub_pos (by decide : 0 < 6 - 5)) ?_) ?_
  · have e : ((l.length - a.length : Nat) : Int) = ((l.map Dt.str).length : Int) - ((a.map Dt.str).length : Int) := by rw [List.length_map, List.length_map]; lia
    rw [e]
    exact Ev.bin (Ev.call (j := 1) hF rfl (.cons (.name (i := 0) hF rfl rfl) .nil) (call_len_l _ (by rw [List.length_map]; exact small_lt (by lia)))) (Ev.call (j := 1) hF rfl (.cons (.name (i := 3) hF rfl rfl) .nil) (call_len_l _ (by rw [List.length_map]; exact small_lt (by lia)))) (bin_sub_int _ _)
  · refine Ex.if_false ((Tr.cmp (d2 := .tup [strD a, strD b, strD [s]]) (.tup (.cons (.name (i := 3) hF rfl rfl) (.cons (.name (i := 4) hF rfl rfl) (.cons (.list (.cons (.name (i := 2) hF rfl rfl) .nil) (show 1 ≤ sizeLine by decide)) .nil))) (show 3 ≤ sizeLine by decide)) (.tup (.cons ?_ (.cons ?_ (.cons ?_ .nil))) (show 3 ≤ sizeLine by decide)) (cmp_ne_data _ _ ?_ ?_ ?_ ?_ (hF.room (by decide)))).as ?_) (Ex.nil ?_)
    · exact Ev.slice (.name (i := 0) hF rfl rfl) (.some (.name (i := 5) hF rfl rfl)) .none .none (by simp) (by rw [List.length_map]; exact small_lt (by lia)) (by rw [sliceD_from, ← List.map_drop, ← ha])
    · exact Ev.slice (.name (i := 1) hF rfl rfl) (.some (.name (i := 5) hF rfl rfl)) .none .none (by simp) (by rw [List.length_map]; exact small_lt (by lia)) (by rw [sliceD_from, ← List.map_drop, ← hb])
    · refine Ev.slice (l := (("/" : Str) :: l).map .str) (Ev.bin (.list (.cons .str .nil) (show 1 ≤ sizeLine by decide)) (.name (i := 0) hF rfl rfl) (bin_add_list [.str "/"] (l.map .str) (by rw [List.length_map, sizeLine_eq]; simp; lia))) (.some (.name (i := 5) hF rfl rfl)) (.some (Ev.bin (.name (i := 5) hF rfl rfl) .int (bin_add_int _ 1))) .none (by simp) (by rw [List.length_map]; exact small_lt (by simp; lia)) ?_
      rw [sliceD_at, ← List.map_drop, ← List.map_take, ← hs]
    · show (pureL (a.map .str) && (pureL (b.map .str) && (pureL ([s].map .str) && true))) = true
      rw [pure_strs, pure_strs, pure_strs]; rfl
    · show (pureL (a.map .str) && (pureL (b.map .str) && (pureL ([s].map .str) && true))) = true
      rw [pure_strs, pure_strs, pure_strs]; rfl
    · exact shaped_three oa ob (fun x hx => by rw [List.mem_singleton.mp hx]; exact os)
    · exact shaped_three oa ob (fun x hx => by rw [List.mem_singleton.mp hx]; exact os)
    · show (!PyData.eqv (PD (.tup [strD a, strD b, strD [s]])) (PD (.tup [strD a, strD b, strD [s]]))) = false
      rw [SeqAt.eqv_refl _ (SeqAt.canLay_of_shaped (shaped_three oa ob (fun x hx => by rw [List.mem_singleton.mp hx]; exact os)))]; rfl
    · refine Ex.ret (d := strD (a ++ b ++ [s])) (Ev.as (Ev.bin (Ev.bin (.name (i := 3) hF rfl rfl) (.name (i := 4) hF rfl rfl) (bin_add_list (a.map .str) (b.map .str) ?_)) (.list (.cons (.name (i := 2) hF rfl rfl) .nil) (show 1 ≤ sizeLine by decide)) (bin_add_list _ [.str s] ?_)) ?_) rfl
      · rw [List.length_map, List.length_map]; exact small_lt (by lia)
      · rw [List.length_append, List.length_map, List.length_map]; exact small_lt (by simp; lia)
      · unfold strD; rw [List.map_append, List.map_append]; rfl
end
end Mine
end

section
open PySem PySem.Calls PyProof.Rows PySem.W
namespace Mine
noncomputable def enumD : Nat → List Dt → List Dt
  | _, [] => []
  | k, d :: r => .tup [.int k, d] :: enumD (k + 1) r
noncomputable def EnSt (e it l : Addr) (X : List Addr) (h : Heap) (ps : List Dt) : Prop :=
  ∃ vs k old es, IsEnum h e it ((k : Nat) : Int) old ∧ h.IsListIter it l k ∧ LAt h l vs ∧ l ∉ X ∧ RpL X h (vs.drop k) es ∧ ps = enumD k es
theorem neut_enum {h : Heap} {e it : Addr} {i : Int} {old : Value} (x : IsEnum h e it i old) : ∃ o, h.get? e = some o ∧ Neut o := ⟨_, x, "enumerate", _, rfl, by decide, rfl, by simp⟩
theorem neut_listiter {h : Heap} {it l : Addr} {i : Nat} (x : h.IsListIter it l i) : ∃ o, h.get? it = some o ∧ Neut o := let ⟨o, a, b, c⟩ := x; ⟨o, a, neut_iter b (by decide) c (by simp)⟩
theorem itOK_enum {G : GC} {A : Around} (hh : A.handled = none) {e it l : Addr} (hne : e ≠ it) : ItOK G A (.ref e) [e, it] (EnSt e it l) false where
  item := fun X s d ds Q E hin hdm ⟨vs, k, old, es, he, hit, hl, hx, hr, hps⟩ hq => by
    cases es with
    | nil => cases hps
    | cons a r =>
      obtain ⟨rfl, rfl⟩ := List.cons.inj hps
      obtain ⟨v, w, e1, r1, r2⟩ := hr.inv
      have hk : vs[k]? = some v := by
        have := congrArg (fun l => l[0]?) e1
        simpa [List.getElem?_drop] using this
      have e2 : vs.drop (k + 1) = w := by
        have := congrArg (List.drop 1) e1
        simpa [List.drop_drop, Nat.add_comm] using this
      obtain ⟨nl, hll⟩ := id hl
      have hel : e < s.heap.objs.size := Heap.lt_size he
      refine wpAny_pyNext_enum_item he hit hl.isList (by simpa using hk) hne fun h' ho hit' hT hsz hk' => hq _ _ fun target Q' E' ha hq' => ?_
      cases target with
      | Tuple elts x1 pos =>
        refine wpAny_letOwnedTupleGo_enum (s := { s with heap := h', toks := s.toks + 1 }) ho fun h'' he'' hs'' => ?_
        have hne' : s.heap.objs.size ≠ e := Nat.ne_of_gt hel
        have mv : Moves [e, it] s.heap h'' := ⟨fun b o hb eb => by
          have h1 : b ≠ e := fun q => hb (by simp [q])
          have h2 : b ≠ it := fun q => hb (by simp [q])
          exact (hs''.2 b h1).trans (hk' b o h1 h2 eb), fun b hb => by
          rcases List.mem_cons.mp hb with rfl | hb
          · exact neut_enum he
          · obtain rfl := List.mem_singleton.mp hb; exact neut_listiter hit⟩
        have sm := mv.same X
        refine hq' h'' (s.toks + 1) (.tup (vs := [.int k s.toks, v]) ⟨0, (hs''.2 _ hne').trans hT⟩ (.cons (.int _ _) (.cons (r1.same sm fun _ q => q) .nil))) ⟨vs, k + 1, v, r, by push_cast; exact he'', ?_, sm.l hx hl, hx, by rw [e2]; exact r2.same sm fun _ q => q, rfl⟩ mv
        obtain ⟨o, a, b⟩ := hit'
        exact ⟨o, (hs''.2 _ hne.symm).trans a, b⟩
      | _ => cases ha
  done := fun X s Q E hin ⟨vs, k, old, es, he, hit, hl, hx, hr, hps⟩ hq => by
    cases es with
    | cons _ _ => cases hps
    | nil =>
      have hk : vs.length ≤ k := by simpa using hr.inv0
      refine wpAny_pyNext_enum_end hh he hit hl.isList (by simpa using hk) fun h' he' => hq h' s.toks ⟨fun b o hb eb => he' b o (fun q => hb (by simp [q])) eb, fun b hb => ?_⟩
      rcases List.mem_cons.mp hb with rfl | hb
      · exact neut_enum he
      · obtain rfl := List.mem_singleton.mp hb; exact neut_listiter hit
  keep := fun X Y h h' ds ⟨vs, k, old, es, he, hit, hl, hx, hr, hps⟩ hw hs hy => by
    obtain ⟨o, a, b⟩ := hit
    obtain ⟨nl, el⟩ := id hl
    exact ⟨vs, k, old, es, (hw e (by simp)).trans he, ⟨o, (hw it (by simp)).trans a, b⟩, hs.l hx hl, fun q => (hy _ q).elim hx fun q => (by rw [el] at q; cases q), hr.keep hs hy, hps⟩
  neut := fun X h ds ⟨vs, k, old, es, he, hit, _⟩ b hb => by
    rcases List.mem_cons.mp hb with rfl | hb
    · exact neut_enum he
    · obtain rfl := List.mem_singleton.mp hb; exact neut_listiter hit
  self := fun X s ds Q E ⟨vs, k, old, es, he, _⟩ hq => wpAny_pyIter_enum he hq

section
variable {F : FC} {ρ : List Sl} {n : Nat}
theorem EvIt.enum {j : Nat} {f : Str} {fp pos : Pos} {e : PySem.Expr} {ds : List Dt} (hF : F.Ok n) (hg : F.gls[j]? = some (f, .type "enumerate")) (h1 : Ev F ρ e (.list ds)) (hs : (starEach [e] F.env).any (·.1) = false := by rfl)
    (hse : starEach [e] F.env = (false, eval e F.env) :: starEach [] F.env := by rfl) (hq0 : F.hd = false := by rfl) : EvIt F ρ (.Call (.Name f fp) [e] [] pos) (enumD 0 ds) false := by
  intro s X Q E hq
  refine wpAny_Call_NameR (name_glob hF hg X.stays ?_)
  refine callWith_of (P := fun h => True) ?_ (fun h st => ⟨.machine, .inr (.inl rfl), .now⟩) (evalArgs_any hs ((EvL.cons h1 .nil hse) s X pos _ _ fun vs h' tk' g r => ⟨trivial, ?_⟩))
  · have : (backTo pos (starEach [e] F.env)).any (·.1) = (starEach [e] F.env).any (·.1) := by unfold backTo; rw [List.any_map]; rfl
    rw [this, hs]; rfl
  · obtain ⟨v, rfl, r1⟩ := r.one
    obtain ⟨al, ws, rfl, ha, L, R⟩ := r1.list'
    show wpAny _ _ (call (.type "enumerate") [.ref al]) _ _ _
    refine call_enumerate_list L.isList fun h2 he hit hsz hk => ?_
    dsimp only at he hit hsz hk ⊢
    have g2 : Grow F.G h' h2 := .of_keep g.stays hk
    refine wpAny_pyIter_enum (s := { s with heap := h2, toks := tk' }) he ?_
    refine hq _ h2 tk' _ _ (g.trans g2) (itOK_enum (l := al) (hF.hand hq0) (Nat.ne_of_gt (Nat.lt_succ_self _))) ⟨ws, 0, .none, ds, he, hit, L.kp (.of_keep hk), ha, by simpa using R.kp (.of_keep hk), rfl⟩ fun b hb => ?_
    rcases List.mem_cons.mp hb with rfl | hb
    · exact g.kp.none (Heap.get?_none_of_le (Nat.le_succ _))
    · obtain rfl := List.mem_singleton.mp hb; exact g.kp.none (Heap.get?_none_of_le (Nat.le_refl _))
end
section
variable {G : GC} {A : Around}
theorem call_index_str (l : List Str) (x : Str) (j : Nat) (hj : j < l.length) (hx : l[j] = x) (hno : ∀ m (hm : m < l.length), m < j → l[m] ≠ x) (hs : l.length ≤ 1000) : CallOK G A (.builtin "list.index") [strD l, .str x] (.int j) := fun X s vs st _ dm h1 _ _ hq => by
  obtain ⟨v, u, rfl, k1, k2⟩ := h1.two
  obtain ⟨al, ws, rfl, ha, L, R⟩ := k1.list'
  obtain ⟨t, rfl⟩ := k2.str'
  obtain ⟨n, e⟩ := L
  have hS := R.strsAre
  have hlen : ws.length = l.length := by rw [R.length, List.length_map]
  have hval : ∀ m (hm : m < l.length), ∃ t, ws[m]? = some (.str l[m] t) := fun m hm => by
    obtain ⟨v, e1, r⟩ := R.get (k := m) (d := .str l[m]) (by simp [hm])
    obtain ⟨t, rfl⟩ := r.str'
    exact ⟨t, e1⟩
  have hat : ∀ m (hm : m < ws.toArray.size), isStrOf x ws.toArray[m] = (l[m]'(by rw [← hlen]; simpa using hm) == x) := fun m hm => by
    have hm' : m < l.length := by rw [← hlen]; simpa using hm
    obtain ⟨t, e1⟩ := hval m hm'
    have : ws.toArray[m] = .str l[m] t := by
      have h2 : m < ws.length := by simpa using hm
      simpa [List.getElem?_eq_getElem h2] using e1
    rw [this]; rfl
  refine call_meets PySem.F.slot_list_index (show Shared.TypeIs s (.ref al) "list" from ⟨_, e, rfl⟩) PySem.F.entry_list_index (PySem.F.args_list_index_2 _ _)
    (MeetsSeq.list_index al ws.toArray n (.str x t) (isStrOf x) (fun y hy => eq_isStrOf x t hS y (by simpa using hy)) j (by simpa [hlen] using hj) (by lia) (by rw [hat]; simp [hx]) fun m hm hmj => by rw [hat]; simpa using hno m _ hmj) ⟨e, gives_here st (.int _ _) hq⟩
end
end Mine
end

section
open PySem PySem.Calls PyProof.Rows PySem.W
namespace Mine
noncomputable def overIf (steps odd : List Str) (k : Nat) (f : Str) : Bool := (!odd.any (· == f)) || decide ((steps.idxOf f : Int) < (k : Int))
noncomputable def overR (steps odd : List Str) : Nat → List Str → List (Option Dt)
  | _, [] => []
  | k, f :: r => (if overIf steps odd k f = true then some (.str f) else none) :: overR steps odd (k + 1) r
noncomputable def overS (steps odd : List Str) : Nat → List Str → List Str
  | _, [] => []
  | k, f :: r => if overIf steps odd k f = true then f :: overS steps odd (k + 1) r else overS steps odd (k + 1) r
theorem overR_map (steps odd : List Str) : ∀ (k : Nat) (l : List Str), (overR steps odd k l).filterMap id = (overS steps odd k l).map .str
  | _, [] => rfl
  | k, f :: r => by
    unfold overR overS
    by_cases h : overIf steps odd k f = true
    · rw [if_pos h, if_pos h, List.filterMap_cons]; exact congrArg _ (overR_map steps odd (k + 1) r)
    · rw [if_neg h, if_neg h, List.filterMap_cons]; exact overR_map steps odd (k + 1) r
theorem overR_len (steps odd : List Str) : ∀ (k : Nat) (l : List Str), (overR steps odd k l).length = l.length
  | _, [] => rfl
  | k, f :: r => congrArg (· + 1) (overR_len steps odd (k + 1) r)
theorem overR_get (steps odd : List Str) : ∀ (k : Nat) (l : List Str) (j : Nat) (f : Str), l[j]? = some f → (overR steps odd k l)[j]? = some (if overIf steps odd (k + j) f = true then some (.str f) else none)
  | k, f :: r, 0, g, e => by simp only [List.getElem?_cons_zero, Option.some.injEq] at e; subst e; rfl
  | k, f :: r, j + 1, g, e => by
    have := overR_get steps odd (k + 1) r j g (by simpa using e)
    rw [show k + 1 + j = k + (j + 1) by lia] at this
    exact this
theorem enumD_len : ∀ (k : Nat) (l : List Dt), (enumD k l).length = l.length
  | _, [] => rfl
  | k, f :: r => congrArg (· + 1) (enumD_len (k + 1) r)
theorem enumD_get : ∀ (k : Nat) (l : List Dt) (j : Nat) (p : Dt), (enumD k l)[j]? = some p → ∃ d, l[j]? = some d ∧ p = .tup [.int ((k + j : Nat) : Int), d]
  | _, [], _, _, e => by simp [enumD] at e
  | k, d :: r, 0, p, e => by simp only [enumD, List.getElem?_cons_zero, Option.some.injEq] at e; exact ⟨d, rfl, e.symm⟩
  | k, d :: r, j + 1, p, e => by
    obtain ⟨d', h1, h2⟩ := enumD_get (k + 1) r j p (by simpa [enumD] using e)
    exact ⟨d', by simpa using h1, by rw [h2, show k + 1 + j = k + (j + 1) by lia]⟩
section
variable {G : GC}
theorem over_ok (W : Wd G) (steps odd : List Str) (hs : steps.length ≤ 100) : FnOK G 1 (.ref 252) [strD steps, strD odd] (strD (overS steps odd 0 steps)) := by
  refine Fn.pl (k := 36) (n := 0) (kk := 0) (own := 2) (pn := ["steps", "odd"]) (names := ["steps", "odd"]) (gls := [("enumerate", .type "enumerate")]) (W.def (i := 20) rfl)
    (.of (by decide) (by decide) (by decide +kernel) (by decide +kernel) (W.gls [14])) W.nolimit rfl rfl (by decide) rfl (by decide +kernel) (bindK fun _ => all2 fun _ _ => by kernel_rfl) fun A env hp X0 hF => ?_
  refine Ex.ret (Ev.comp1 (overR steps odd 0 steps) ((overS steps odd 0 steps).map .str) ["spot", "folder"] ["odd", "steps"] [] hF (EvIt.enum (j := 0) hF rfl (.name (i := 0) hF rfl rfl)) (by show compOK (scopeOf (stAt 36)) _ _ _ _ = true; decide +kernel)
    (Caps.cons (i := 1) rfl rfl (Caps.cons (i := 0) rfl rfl .nil)) (fun _ h => nomatch h) (by rw [overR_len, enumD_len, List.length_map]) (by rw [enumD_len, List.length_map]; lia) (overR_map ..) fun C D acc ok k d r hd hr => ?_) rfl
  obtain ⟨d', h1, rfl⟩ := enumD_get 0 _ k d hd
  rw [List.getElem?_map] at h1
  obtain ⟨f, hf, rfl⟩ := Option.map_eq_some_iff.mp h1
  rw [overR_get steps odd 0 steps k f hf, Nat.zero_add] at hr
  have hr2 := Option.some.inj hr
  subst hr2
  have hkl := (List.getElem?_eq_some_iff.mp hf).1
  have hfm : f ∈ steps := List.mem_of_getElem? hf
  refine ⟨[.imm (.int ((0 + k : Nat) : Int)), .imm (.str f)], rfl, .tup ok (.cons (.name (i := 0) ok rfl (Nat.lt_of_sub_pos (by decide : 0 < 2 - 0))) (.cons (.name (i := 1) ok rfl (Nat.lt_of_sub_pos (by decide : 0 < 2 - 1))) .nil)), ?_⟩
  rw [Nat.zero_add]
  have hidx : steps.idxOf f < steps.length := List.idxOf_lt_length_of_mem hfm
  have hcall : ∀ {A}, CallOK G A (.builtin "list.index") [strD steps, .str f] (.int (steps.idxOf f)) := fun {A} => call_index_str steps f (steps.idxOf f) hidx (List.getElem_idxOf hidx) (fun m hm hlt e => by
    have := List.not_of_lt_findIdx (p := (· == f)) (xs := steps) hlt
    simp [e] at this) (by lia)
  by_cases hin : odd.any (· == f) = true
  · by_cases hlt : (steps.idxOf f : Int) < (k : Int)
    · rw [if_pos (by unfold overIf; rw [hin, decide_eq_true hlt]; rfl)]
      exact ⟨.one (Tr.or_false ((Tr.cmp (.name (i := 1) ok rfl rfl) (.name (i := 2) ok rfl rfl) (cmp_notin_str f odd)).as (by rw [hin]; rfl)) (Tr.or_true ((Tr.cmp (Ev.meth PySem.F.plainAttrs_list PySem.F.slot_list_index PySem.F.type_list_index (.name (i := 3) ok rfl rfl) (.cons (.name (i := 1) ok rfl rfl) .nil) hcall) (.name (i := 0) ok rfl rfl) (cmp_lt_int _ _)).as (decide_eq_true hlt)))), .name (i := 1) ok rfl rfl⟩
    · rw [if_neg (by unfold overIf; rw [hin, decide_eq_false hlt]; decide)]
      exact .one (Tr.or_false ((Tr.cmp (.name (i := 1) ok rfl rfl) (.name (i := 2) ok rfl rfl) (cmp_notin_str f odd)).as (by rw [hin]; rfl)) (Tr.or_false ((Tr.cmp (Ev.meth PySem.F.plainAttrs_list PySem.F.slot_list_index PySem.F.type_list_index (.name (i := 3) ok rfl rfl) (.cons (.name (i := 1) ok rfl rfl) .nil) hcall) (.name (i := 0) ok rfl rfl) (cmp_lt_int _ _)).as (decide_eq_false hlt)) .or_nil))
  · have hin' : odd.any (· == f) = false := Bool.eq_false_iff.mpr hin
    rw [if_pos (by unfold overIf; rw [hin']; rfl)]
    exact ⟨.one (Tr.or_true ((Tr.cmp (.name (i := 1) ok rfl rfl) (.name (i := 2) ok rfl rfl) (cmp_notin_str f odd)).as (by rw [hin']; rfl))), .name (i := 1) ok rfl rfl⟩
end
end Mine
end

section
open PySem PySem.Calls PyProof.Rows PySem.W
namespace Mine
section
variable {F : FC} {ρ : List Sl} {n : Nat} {Φ : Fl → List Sl → Prop} {Θ : String → List Sl → Prop}

theorem owned_put {v : Value} {a : Addr} {o : Ob} : ∀ {ρ : List Sl} {i : Nat}, i < ρ.length → (owned (ρ.set i (.own v a o))).Perm (a :: owned (ρ.set i .unk))
  | [], _, h => by cases h
  | .unk :: r, 0, _ => .refl _
  | .imm _ :: r, 0, _ => .refl _
  | .own _ _ _ :: r, 0, _ => .refl _
  | .unk :: r, i + 1, h => owned_put (ρ := r) (i := i) (by simpa using h)
  | .imm _ :: r, i + 1, h => owned_put (ρ := r) (i := i) (by simpa using h)
  | .own _ b _ :: r, i + 1, h => ((owned_put (ρ := r) (i := i) (by simpa using h)).cons b).trans (.swap a b _)
/-- a new object, that nothing else speaks of, is the frame's own -/
theorem Asr.own_put {h : Heap} {i : Nat} {x : Str} {v : Value} {a : Addr} {o : Ob} (X : Asr (F.withX a) (ρ.set i .unk) h) (hx : F.names[i]? = some x) (hv : x = "" ∨ Has F h x v) (ho : ObAt ((F.withX a).X (ρ.set i .unk)) h v a o) (hs : o.sup = []) (hn : a ∉ F.X (ρ.set i .unk)) (nv : ¬ F.vol0 a) (nB : F.G.B.get? a = none) (n0 : F.h0.get? a = none ∨ a ∈ F.P) :
    Asr F (ρ.set i (.own v a o)) h := by
  have hi : i < ρ.length := by
    have := X.len
    rw [List.length_set] at this
    rw [this]; exact (List.getElem?_eq_some_iff.mp hx).1
  have pm := owned_put (v := v) (a := a) (o := o) hi
  have mem : ∀ b, b ∈ F.X (ρ.set i (.own v a o)) → b ∈ (F.withX a).X (ρ.set i .unk) := fun b hb => by
    rcases List.mem_append.mp hb with q | q
    · exact .tail _ (List.mem_append_left _ q)
    · rcases List.mem_cons.mp (pm.mem_iff.mp q) with q | q
      · exact q ▸ .head _
      · exact .tail _ (List.mem_append_right _ q)
  have sm : Same ((F.withX a).X (ρ.set i .unk)) h h := .of_kp (.refl h)
  have lX : ∀ b, b ∈ F.X (ρ.set i .unk) → b ∈ (F.withX a).X (ρ.set i .unk) := fun b hb => .tail _ hb
  refine ⟨X.stays, X.kept, X.frs, ?_, X.cells, pm.nodup_iff.mpr (List.nodup_cons.mpr ⟨fun q => hn (List.mem_append_right _ q), X.nodup⟩), fun b hb q => ?_, fun b hb => ?_, fun b hb => X.dom b (mem b hb), .of_get fun j y sl e1 e2 => ?_, by rw [List.length_set]; have := X.len; rw [List.length_set] at this; exact this⟩
  · obtain ⟨m, hm, fo, hfo, hc⟩ := X.loc
    refine ⟨m, hm, fo, hfo, hc.imp (fun q => ⟨q.1, fun q' => q.2 (.tail _ q')⟩) fun q => ⟨q.1, ?_⟩⟩
    exact (List.mem_cons.mp q.2).resolve_left fun q' => nv (.inl q'.symm)
  · rcases List.mem_cons.mp (pm.mem_iff.mp hb) with q' | q'
    · exact hn (List.mem_append_left _ (q' ▸ q))
    · exact X.apart b q' (.tail _ q)
  · rcases List.mem_cons.mp (pm.mem_iff.mp hb) with q | q
    · exact q ▸ ⟨nB, n0⟩
    · exact X.fresh b q
  · by_cases hj : i = j
    · subst hj
      rw [List.getElem?_set_self hi] at e2
      cases e2
      rw [hx] at e1; cases e1
      refine ⟨hv, ho.frame sm mem fun _ _ => rfl, fun b hb => ?_, fun b hb => by rw [hs] at hb; cases hb⟩
      · rw [hs] at hb
        obtain rfl := List.mem_singleton.mp hb; exact nv
    · rw [List.getElem?_set_ne hj] at e2
      have := X.sls.get e1 (by rw [List.getElem?_set_ne hj]; exact e2)
      cases sl with
      | unk => trivial
      | imm d => obtain ⟨u, q1, q2⟩ := this; exact ⟨u, q1, q2.same sm mem⟩
      | own v' a' o' => obtain ⟨q1, q2, q3, q4⟩ := this; exact ⟨q1, q2.frame sm mem fun _ _ => rfl, q3, fun b hb q => q4 b hb (mem b q)⟩

/-- an empty list under a name, the frame's own -/
theorem Ex1.own_new {i : Nat} {x : Str} {np lp pos : Pos} (hF : F.Ok n) (hx : F.names[i]? = some x) (hi : i < F.own) :
    Ex1 F ρ (.Assign [.Name x np] (.List [] lp) pos) (fun fl r => fl = .next ∧ ∃ a, r = ρ.set i (.own (.ref a) a (.list []))) Θ := by
  intro s X Q E hq _
  refine wpAny_Assign_Name (wpAny_List (Calls.spliced_nil ⟨Nat.zero_le _, ?_⟩))
  have g : Grow F.G s.heap (s.heap.push { cls := .type "list", data := .seq ([] : List Value).toArray }) := .push X.stays _
  have ea : (s.heap.push { cls := .type "list", data := .seq ([] : List Value).toArray }).get? s.heap.objs.size = some (LO [] 0) := Heap.get?_push_size _ rfl
  have hn : s.heap.get? s.heap.objs.size = none := Heap.get?_none_of_le (Nat.le_refl _)
  have X1 := X.grow_new (C := s.heap.objs.size) g hn ⟨_, ea⟩
  have nX : s.heap.objs.size ∉ F.X ρ := fun q => by obtain ⟨o, e⟩ := X.dom _ q; rw [hn] at e; cases e
  have nv : ¬ F.vol0 s.heap.objs.size := fun q => by
    rcases q with q | ⟨_, y, _, _, k, l⟩
    · obtain ⟨_, _, ⟨o, e, _⟩⟩ := X.loc
      rw [← q, hn] at e; cases e
    · obtain ⟨_, o, e, _⟩ := X.cells y _ k l
      rw [hn] at e; cases e
  refine store_unk (F := F.withX s.heap.objs.size) (s := { s with heap := s.heap.push { cls := .type "list", data := .seq ([] : List Value).toArray } }) hF.withX X1 hx hi fun h2 tk2 X2 S2 hh => ?_
  have e2 : h2.get? s.heap.objs.size = some (LO [] 0) := S2.kept.same (fun q => q.elim nv fun q => nX (List.mem_append_right _ q)) ea (plain_ty rfl)
  have nX2 : s.heap.objs.size ∉ F.X (ρ.set i .unk) := fun q => (List.mem_append.mp q).elim (fun q => nX (List.mem_append_left _ q)) fun q => nX (List.mem_append_right _ ((owned_setP rfl ρ i).subset q))
  have nB : F.G.B.get? s.heap.objs.size = none := by
    cases q : F.G.B.get? s.heap.objs.size with
    | none => rfl
    | some o => have := X.stays.stays _ o q; rw [hn] at this; cases this
  have n0 : F.h0.get? s.heap.objs.size = none ∨ s.heap.objs.size ∈ F.P := by
    by_cases hP : s.heap.objs.size ∈ F.P
    · exact .inr hP
    · cases q : F.h0.get? s.heap.objs.size with
      | none => exact .inl rfl
      | some o => obtain ⟨o', e⟩ := X.kept.live hP q; rw [hn] at e; cases e
  have X3 : Asr F (ρ.set i (.own (.ref s.heap.objs.size) s.heap.objs.size (.list []))) h2 := Asr.own_put X2 hx (.inr hh) ⟨rfl, [], ⟨0, e2⟩, .nil⟩ rfl nX2 nv nB n0
  have hil : i < ρ.length := by rw [X.len]; exact (List.getElem?_eq_some_iff.mp hx).1
  refine hq .next h2 tk2 .next _ ⟨rfl, _, rfl⟩ X3 trivial ⟨fun b ob hb eb => ?_, fun b ob eb => ?_, fun a ha => ?_⟩
  · exact (g.kp b ob eb).next fun p ep => S2.kept b p hb ep
  · obtain ⟨o', e'⟩ := g.kp.live eb
    exact S2.live b o' e'
  · rcases List.mem_cons.mp ((owned_put hil).mem_iff.mp ha) with q | q
    · exact .inr (q ▸ hn)
    · exact .inl ((owned_setP rfl ρ i).subset q)
theorem Ex.own_new {rest : List Stmt} {i : Nat} {x : Str} {np lp pos : Pos} (hF : F.Ok n) (hx : F.names[i]? = some x) (hi : i < F.own) (h : ∀ a, Ex F (ρ.set i (.own (.ref a) a (.list []))) rest Φ Θ) :
    Ex F ρ (.Assign [.Name x np] (.List [] lp) pos :: rest) Φ Θ := .cons (.own_new hF hx hi) fun fl r ⟨e, a, e'⟩ => by subst e e'; exact h a

/-- a list more is put behind an own one -/
theorem Ex1.extend {i : Nat} {x : Str} {np apos cpos pos : Pos} {e : PySem.Expr} {v : Value} {a : Addr} {ds es : List Dt} (hF : F.Ok n) (hx : F.names[i]? = some x) (hne : x ≠ "") (h1 : ρ[i]? = some (.own v a (.list ds))) (he : Ev F ρ e (.list es)) (hsz : ds.length + es.length ≤ 1000)
    (hfew : ((backTo cpos (starEach [e] F.env)).all (fun x => !x.1) && (backToKw cpos (keywordEach [] F.env)).all (fun x => x.1.isSome) && decide ([e].length + ([] : List Keyword).length + (if ([] : List Keyword).isEmpty then 0 else 1) < 30)) = true := by rfl)
    (hline : (apos.endLine == cpos.line) = true := by rfl) (hb : backTo cpos (starEach [e] F.env) = [(false, eval e F.env)] := by rfl) :
    Ex1 F ρ (.Expr (.Call (.Attribute (.Name x np) "extend" apos) [e] [] cpos) pos) (Turns ρ i v a (.list (ds ++ es))) Θ := by
  intro s X Q E hq _
  refine wpAny_Expr ?_ (not_inter hF)
  obtain ⟨hv, vs, ⟨nn, hl⟩, hr⟩ := (X.ob (List.mem_of_getElem? h1)).1
  subst hv
  refine wpAny_Call_method rfl hfew hline PySem.F.plainAttrs_list PySem.F.slot_list_extend PySem.F.type_list_extend (load_own hF X hx hne h1 ⟨⟨_, hl, rfl⟩, fun b e => (by cases e; exact ⟨_, hl, rfl⟩), ?_⟩)
  rw [hb]
  refine P.extend_list (he s X _ _ fun w h' tk' g r => ?_)
  obtain ⟨al, ws, rfl, ha, ⟨n2, el⟩, R⟩ := r.list'
  have X' := X.grow g
  have hl' : h'.get? a = some (LO vs nn) := g.kp.same hl (plain_ty rfl)
  obtain ⟨X2, S2⟩ := own_list (ws := vs ++ ws) X' hx h1 hl' (fun xs => xs ++ ws.toArray) (by simp) ((hr.kp g.kp).append R)
  have l1 := hr.length
  have l2 := R.length
  refine ⟨al, vs.toArray, ws.toArray, nn, n2, ?_, ?_, ?_, rfl, hl', el, hq .next _ tk' .next _ ⟨rfl, rfl⟩ X2 trivial ((Stp.of_grow g).trans S2)⟩
  · rw [sizeLine_eq]; simp; lia
  · rw [sizeLine_eq]; simp; lia
  · have : Builtin.List.listTooLong (vs.toArray.size + ws.toArray.size) = false := by
      unfold Builtin.List.listTooLong
      rw [sizeLine_eq]; simp; lia
    rw [this, Bool.and_false]; decide
end
end Mine
end

section
open PySem PySem.Calls PyProof.Rows PySem.W
namespace Mine
/-- the ways to put spots in pairs -/
noncomputable def pairRows : Nat → List Int → List (List Dt)
  | 0, _ => [[]]
  | k + 1, spots => if spots = [] then [[]] else spots.dropLast.flatMap fun low => (pairRows k (spots.dropLast.filter fun s => s != low)).map fun ps => .tup [.int low, .int (spots.getLastD 0)] :: ps
noncomputable def rowsD (l : List (List Dt)) : List Dt := l.map .list
theorem filterR (low : Int) : ∀ l : List Int, (l.map fun s => if (s != low) = true then some (Dt.int s) else none).filterMap id = (l.filter fun s => s != low).map .int
  | [] => rfl
  | s :: r => by
    rw [List.map_cons, List.filterMap_cons, List.filter_cons]
    by_cases h : (s != low) = true
    · rw [if_pos h, if_pos h]; exact congrArg _ (filterR low r)
    · rw [if_neg h, if_neg h]; exact filterR low r
theorem Ev.neg {F : FC} {ρ : List Sl} {e : PySem.Expr} {pos : Pos} {i : Int} (h : Ev F ρ e (.int i)) : Ev F ρ (.UnaryOp .USub e pos) (.int (-i)) := by
  intro s X Q E hq
  refine wpAny_UnaryOp (h s X _ _ fun v h1 tk1 g1 r1 => ?_)
  obtain ⟨_, rfl⟩ := r1.int'
  exact PySem.P.neg_int (hq _ h1 _ g1 (.int _ _))
theorem item_list_last {G : GC} {A : Around} (l : List Dt) (d : Dt) (hx : l[l.length - 1]? = some d) (hl : l.length ≤ 1000) : ItemOK G A (.list l) (.int (-1)) d := fun X s v u st _ h1 h2 _ _ hq => by
  obtain ⟨_, rfl⟩ := h2.int'
  obtain ⟨_, ws, rfl, _, L, R⟩ := h1.list'
  obtain ⟨v, e, r⟩ := R.get hx
  have hn : l.length - 1 < l.length := (List.getElem?_eq_some_iff.mp hx).1
  have hlen := R.length
  refine wpAny_getItem_list_neg L.isList (by lia) (by simp; lia) (by lia) (x := v) ?_ (hq _ s.heap s.toks (.refl st) r)
  have : ((-1 : Int) + (ws.toArray.size : Int)).toNat = l.length - 1 := by simp; lia
  rw [this]; simpa using e
section
variable {G : GC}
theorem cmp_ne_int {A : Around} (a b : Int) : CmpOK G A .NotEq (.int a) (.int b) (a != b) := fun _ _ _ _ st _ h1 h2 _ _ hq => by obtain ⟨_, rfl⟩ := h1.int'; obtain ⟨_, rfl⟩ := h2.int'; exact ne_int (gives_here st (.bool _) hq)
/-- the rows that begin with one more number -/
noncomputable def rowsOf (k : Nat) (spots : List Int) (low : Int) : List Dt := (pairRows k (spots.dropLast.filter fun s => s != low)).map fun ps => .list (.tup [.int low, .int (spots.getLastD 0)] :: ps)
theorem rows_succ (k : Nat) (spots : List Int) (h : spots ≠ []) : rowsD (pairRows (k + 1) spots) = (spots.dropLast.map (rowsOf k spots)).flatten := by
  unfold rowsD
  rw [pairRows, if_neg h, List.map_flatMap, List.flatMap_def]
  congr 1
  refine List.map_congr_left fun low _ => ?_
  rw [List.map_map]; rfl
theorem pairings_nil (W : Wd G) (k : Nat) : FnOK G (k + 1) (.ref 247) [.list []] (.list [.list []]) := by
  refine Fn.pl (k := 35) (n := k) (kk := 3) (own := 4) (pn := ["spots"]) (names := ["spots", "rows", "low", "pairs"]) (gls := [("_law_pairings", .ref 247)]) (W.def (i := 19) rfl)
    (.of (by decide) (by decide) (by decide +kernel) (by decide +kernel) (W.gls [39])) W.nolimit rfl rfl (by decide) rfl (by decide +kernel) (bindK fun _ => all1 fun _ => by kernel_rfl) fun A env hp X0 hF => ?_
  exact Ex.if_true ((Tr.not (Tr.val (.name (i := 0) hF rfl rfl) (truth_list [] (Nat.zero_le _)))).as rfl) (Ex.ret (.list (.cons (.list .nil (Nat.zero_le _)) .nil) (show 1 ≤ sizeLine by decide)) rfl)
theorem flatten_le {α : Type} (b : Nat) : ∀ L : List (List α), (∀ l ∈ L, l.length ≤ b) → L.flatten.length ≤ L.length * b
  | [], _ => by simp
  | l :: r, h => by
    rw [List.flatten_cons, List.length_append, List.length_cons, Nat.succ_mul]
    have h1 := h l List.mem_cons_self
    have h2 := flatten_le b r fun m hm => h m (List.mem_cons_of_mem _ hm)
    lia
theorem pairRows_len : ∀ (k : Nat) (spots : List Int), spots.length ≤ 6 → (pairRows k spots).length ≤ 7 ^ k
  | 0, _, _ => by simp [pairRows]
  | k + 1, spots, h => by
    rw [pairRows]
    split
    · exact Nat.pos_of_ne_zero (by simp)
    · rw [List.flatMap_def]
      refine Nat.le_trans (flatten_le (7 ^ k) _ fun l hl => ?_) ?_
      · obtain ⟨low, hlow, rfl⟩ := List.mem_map.mp hl
        rw [List.length_map]
        refine pairRows_len k _ (Nat.le_trans (List.length_filter_le _ _) ?_)
        rw [List.length_dropLast]; lia
      · rw [List.length_map, List.length_dropLast, Nat.pow_succ, Nat.mul_comm (7 ^ k) 7]
        exact Nat.mul_le_mul_right _ (by lia)
theorem pairRows_row : ∀ (k : Nat) (spots : List Int), ∀ ps ∈ pairRows k spots, ps.length ≤ k
  | 0, _, ps, h => by rw [List.mem_singleton.mp h]; exact Nat.le_refl _
  | k + 1, spots, ps, h => by
    rw [pairRows] at h
    split at h
    · rw [List.mem_singleton.mp h]; exact Nat.zero_le _
    · obtain ⟨low, _, h2⟩ := List.mem_flatMap.mp h
      obtain ⟨qs, h3, rfl⟩ := List.mem_map.mp h2
      exact Nat.succ_le_succ (pairRows_row k _ qs h3)
theorem rowsOf_len (k : Nat) (spots : List Int) (low : Int) (h : spots.length ≤ 6) : (rowsOf k spots low).length ≤ 7 ^ k := by
  unfold rowsOf
  rw [List.length_map]
  refine pairRows_len k _ (Nat.le_trans (List.length_filter_le _ _) ?_)
  rw [List.length_dropLast]; lia
theorem pairings_ok (W : Wd G) : ∀ (k : Nat) (spots : List Int), k ≤ 3 → spots.length ≤ 2 * k → FnOK G (k + 1) (.ref 247) [.list (spots.map .int)] (.list (rowsD (pairRows k spots))) := by
  intro k
  induction k with
  | zero =>
    intro spots _ hs
    have : spots = [] := List.length_eq_zero_iff.mp (by lia)
    subst this
    exact pairings_nil W 0
  | succ k ih =>
    intro spots h3 hs
    by_cases he : spots = []
    · subst he; exact pairings_nil W (k + 1)
    rw [rows_succ k spots he]
    have hl6 : spots.length ≤ 6 := by lia
    refine Fn.pl (k := 35) (n := k + 1) (kk := 3) (own := 4) (pn := ["spots"]) (names := ["spots", "rows", "low", "pairs"]) (gls := [("_law_pairings", .ref 247)]) (W.def (i := 19) rfl)
      (.of (by decide) (by decide) (by decide +kernel) (by decide +kernel) (W.gls [39])) W.nolimit rfl rfl (by decide) rfl (by decide +kernel) (bindK fun _ => all1 fun _ => by kernel_rfl) fun A env hp X0 hF => ?_
    refine Ex.if_false ((Tr.not (Tr.val (.name (i := 0) hF rfl rfl) (truth_list (spots.map .int) (by rw [List.length_map]; exact small_lt (by lia))))).as ?_) (Ex.nil ?_)
    · cases spots with
      | nil => exact absurd rfl he
      | cons a r => rfl
    refine Ex.own_new (i := 1) hF rfl (Nat.lt_of_sub_pos (by decide : 0 < 4 - 1)) fun a => ?_
    refine Ex.seq (ρ' := [.imm (.list (spots.map .int)), .own (.ref a) a (.list (spots.dropLast.map (rowsOf k spots)).flatten), .unk, .unk])
      (Ex1.for (I := fun m => [.imm (.list (spots.map .int)), .own (.ref a) a (.list ((spots.dropLast.take m).map (rowsOf k spots)).flatten), .unk, .unk]) (ds := spots.dropLast.map .int) (EvIt.list hF (Ev.slice (.name (i := 0) hF rfl rfl) .none (.some (Ev.neg .int)) .none (by simp) (by rw [List.length_map]; exact small_lt (by lia)) ?_)) rfl (fun m d hd => ?_) ?_) ?_
    · rw [sliceD_butLast, List.length_map, List.dropLast_eq_take, List.map_take]
    · rw [List.getElem?_map] at hd
      obtain ⟨low, hlow, rfl⟩ := Option.map_eq_some_iff.mp hd
      have hm := (List.getElem?_eq_some_iff.mp hlow).1
      refine ⟨_, .name (i := 2) hF rfl (Nat.lt_of_sub_pos (by decide : 0 < 4 - 2)), ?_⟩
      have hsl : (spots.dropLast.filter fun s => s != low).length ≤ 2 * k := by
        have hlm : low ∈ spots.dropLast := List.mem_of_getElem? hlow
        have : (spots.dropLast.filter fun s => s != low).length < spots.dropLast.length := by
          refine Nat.lt_of_le_of_ne (List.length_filter_le _ _) fun e => ?_
          have := List.length_filter_eq_length_iff.mp e low hlm
          simp at this
        rw [List.length_dropLast] at this
        lia
      have hcur : ((spots.dropLast.take m).map (rowsOf k spots)).flatten.length ≤ 6 * 49 := by
        refine Nat.le_trans (flatten_le 49 _ fun l hl => ?_) (Nat.mul_le_mul_right _ ?_)
        · obtain ⟨w, _, rfl⟩ := List.mem_map.mp hl
          refine Nat.le_trans (rowsOf_len k spots w hl6) ?_
          have : k ≤ 2 := by lia
          exact Nat.le_trans (Nat.pow_le_pow_right (by decide) this) (by decide)
        · rw [List.length_map, List.length_take, List.length_dropLast]; lia
      have hin : (rowsOf k spots low).length ≤ 49 := by
        refine Nat.le_trans (rowsOf_len k spots low hl6) ?_
        have : k ≤ 2 := by lia
        exact Nat.le_trans (Nat.pow_le_pow_right (by decide) this) (by decide)
      have hslice : ∀ {F : FC} {n : Nat} {ρ : List Sl} (hF : F.Ok n) {p1 p2 p3 p4 p5 : Pos} {kd : Nat}, F.names[0]? = some ("spots" : Str) → ρ[0]? = some (.imm (.list (spots.map .int))) → Ev F ρ (.Subscript (.Name "spots" p1) (.Slice none (some (.UnaryOp .USub (.Constant (.int 1) kd p2) p3)) none p4) p5) (.list (spots.dropLast.map .int)) := fun hF _ _ _ _ _ _ h1 h2 =>
        Ev.slice (.name hF h1 h2) .none (.some (Ev.neg .int)) .none (by simp) (by rw [List.length_map]; exact small_lt (by lia)) (by rw [sliceD_butLast, List.length_map, List.dropLast_eq_take, List.map_take])
      refine Ex.seq (ρ' := [.imm (.list (spots.map .int)), .own (.ref a) a (.list (((spots.dropLast.take m).map (rowsOf k spots)).flatten ++ rowsOf k spots low)), .imm (.int low), .unk])
        (Ex1.for (I := fun j => [.imm (.list (spots.map .int)), .own (.ref a) a (.list (((spots.dropLast.take m).map (rowsOf k spots)).flatten ++ (rowsOf k spots low).take j)), .imm (.int low), .unk]) (ds := rowsD (pairRows k (spots.dropLast.filter fun s => s != low)))
          (EvIt.list hF (Ev.call (j := 0) hF rfl (.cons (Ev.comp1 (spots.dropLast.map fun s => if (s != low) = true then some (Dt.int s) else none) ((spots.dropLast.filter fun s => s != low).map .int) ["spot"] ["low"] [] hF (EvIt.list hF (hslice hF rfl rfl)) (by show compOK (scopeOf (stAt 35)) _ _ _ _ = true; decide +kernel) (Caps.cons (i := 2) rfl rfl .nil) (fun _ h => nomatch h) (by rw [List.length_map, List.length_map]) (by rw [List.length_map, List.length_dropLast]; lia) (filterR low _) fun C D acc ok q d r hd hr => ?_) .nil) ((ih _ (by lia) hsl).use hF (Nat.le_refl _)))) ?_ (fun j d hd => ?_) ?_) (Ex.nil ?_)
      · rw [List.getElem?_map] at hd hr
        obtain ⟨s, hs', rfl⟩ := Option.map_eq_some_iff.mp hd
        rw [hs'] at hr
        have hr2 : (if (s != low) = true then some (Dt.int s) else none) = r := Option.some.inj hr
        subst hr2
        refine ⟨[.imm (.int s)], rfl, .name (i := 0) ok rfl (Nat.lt_of_sub_pos (by decide : 0 < 1 - 0)), ?_⟩
        by_cases h : (s != low) = true
        · rw [if_pos h]
          exact ⟨.one ((Tr.cmp (.name (i := 0) ok rfl rfl) (.name (i := 1) ok rfl rfl) (cmp_ne_int s low)).as h), .name (i := 0) ok rfl rfl⟩
        · rw [if_neg h]
          exact .one ((Tr.cmp (.name (i := 0) ok rfl rfl) (.name (i := 1) ok rfl rfl) (cmp_ne_int s low)).as (Bool.eq_false_iff.mpr h))
      · rw [List.take_zero, List.append_nil]; rfl
      · unfold rowsD at hd
        rw [List.getElem?_map] at hd
        obtain ⟨ps, hps, rfl⟩ := Option.map_eq_some_iff.mp hd
        refine ⟨_, .name (i := 3) hF rfl (Nat.lt_of_sub_pos (by decide : 0 < 4 - 3)), ?_⟩
        refine Ex.seq (Ex1.append (i := 1) (d := .list (.tup [.int low, .int (spots.getLastD 0)] :: ps)) hF rfl (by decide) rfl (Ev.bin (.list (.cons (.tup (.cons (.name (i := 2) hF rfl rfl) (.cons (Ev.item list_getitem_lookup (.name (i := 0) hF rfl rfl) (Ev.neg .int) (item_list_last _ _ ?_ (by rw [List.length_map]; lia))) .nil)) (show 2 ≤ sizeLine by decide)) .nil) (show 1 ≤ sizeLine by decide)) (.name (i := 3) hF rfl rfl) (bin_add_list [.tup [.int low, .int (spots.getLastD 0)]] ps ?_)) ?_) (Ex.nil ?_)
        · rw [List.length_map, List.getElem?_map, ← List.getLast?_eq_getElem?, List.getLast?_eq_some_getLast he]
          cases spots with
          | nil => exact absurd rfl he
          | cons x r => rfl
        · have := pairRows_row k _ ps (List.mem_of_getElem? hps)
          exact small_lt (by simp; lia)
        · refine small_lt ?_
          rw [List.length_append, List.length_take]; lia
        · have e : (rowsOf k spots low).take (j + 1) = (rowsOf k spots low).take j ++ [.list (.tup [.int low, .int (spots.getLastD 0)] :: ps)] := by
            rw [List.take_add_one]
            unfold rowsOf
            rw [List.getElem?_map, hps]; rfl
          rw [e, ← List.append_assoc]
          exact .keep (.keep (.keep (.drop .nil)))
      · refine ⟨rfl, ?_⟩
        have : (rowsD (pairRows k (spots.dropLast.filter fun s => s != low))).length = (rowsOf k spots low).length := by unfold rowsD rowsOf; rw [List.length_map, List.length_map]
        rw [this, List.take_length]
      · have e : ((spots.dropLast.take (m + 1)).map (rowsOf k spots)).flatten = ((spots.dropLast.take m).map (rowsOf k spots)).flatten ++ rowsOf k spots low := by
          rw [List.take_add_one, hlow, List.map_append, List.flatten_append]; simp
        rw [e]
        exact .keep (.keep (.drop (.keep .nil)))
    · rw [List.length_map, List.take_length]; exact ⟨rfl, rfl⟩
    · refine Ex.freeze (i := 1) (x := "rows") rfl (by decide) rfl rfl (Ex.ret (.name (i := 1) hF rfl rfl) rfl)
end
end Mine
end

section
open PySem PySem.Calls PyProof.Rows PySem.W
namespace Mine
noncomputable def joinS (a b : Str) : Str := if Txt.startswith b "/" = true then b else if (a.length : Int) = 0 then b else if Txt.endswith a "/" = true then a ++ b else a ++ ("/" ++ b)
theorem Binds.star {G : GC} {fd : FuncData} {P : Arguments} {x y : Str} (H : ∀ (v u : Value) (fd : FuncData), bindArgs { fd with params := P, defaults := .none, kwdefaults := .none } ⟨[v, u], []⟩ = (newTuple [u] >>= fun t => Pure.pure [(x, v), (y, t)])) (h1 : fd.params = P) (h2 : fd.defaults = .none) (h3 : fd.kwdefaults = .none) (d e : Dt) : Binds G fd [x, y] [.imm d, .imm e] [.imm d, .imm (.tup [e])] := by
  intro A X s vs i dm hv Q E hq
  cases hv with
  | cons x r =>
  cases r with
  | cons y r =>
  cases r with
  | nil =>
  rename_i v u
  rw [bindF (H v u) fd h1 h2 h3]
  refine wpAny_bind (wpAny_newTuple ?_)
  refine wpAny_pure (hq [v, .ref s.heap.objs.size] _ s.toks (.push i _) (.cons (Rp.kp x (.push _ _)) (.cons ?_ .nil)))
  exact Rp.tup (vs := [u]) ⟨0, Heap.get?_push_size _ rfl⟩ (.cons (Rp.kp y (.push _ _)) .nil)
section
variable {G : GC}
theorem join_ok (W : Wd G) (a b : Str) (ha : a.length ≤ 300) (hb : b.length ≤ 300) : FnOK G 2 (.ref 164) [.str a, .str b] (.str (joinS a b)) := by
  refine FnC.plain (Fn.of (k := 21) (n := 1) (kk := 3) (own := 5) (pn := ["a", "p"]) (names := ["a", "p", "sep", "path", "b"]) (gls := [("fspath", .ref 143), ("_get_sep", .ref 157)]) (qs := [.imm (.str a), .imm (.tup [.str b])]) (W.def (i := 6) rfl)
    (.of (by decide) (by decide) (by decide +kernel) (by decide +kernel) (W.gls [19, 20])) W.nolimit rfl rfl (by decide) rfl rfl (by decide +kernel) (fun fd p1 p2 p3 => Binds.star (x := "a") (y := "p") (fun _ _ _ => by kernel_rfl) p1 p2 p3 _ _) fun A env h0 X0 hF => ?_)
  refine Ex.seq (Ex1.assign (i := 0) hF rfl (Nat.lt_of_sub_pos (by decide : 0 < 5 - 0)) (Ev.call (j := 0) hF rfl (.cons (.name (i := 0) hF rfl rfl) .nil) ((fspath_ok W a).use hF (by decide)))) ?_
  refine Ex.seq (Ex1.assign (i := 2) hF rfl (Nat.lt_of_sub_pos (by decide : 0 < 5 - 2)) (Ev.call (j := 1) hF rfl (.cons (.name (i := 0) hF rfl rfl) .nil) ((get_sep_ok W a).use hF (by decide)))) ?_
  refine Ex.seq (Ex1.assign (i := 3) hF rfl (Nat.lt_of_sub_pos (by decide : 0 < 5 - 3)) (.name (i := 0) hF rfl rfl)) ?_
  refine Ex.seq (ρ' := [.imm (.str a), .imm (.tup [.str b]), .imm (.str "/"), .imm (.str (joinS a b)), .unk]) (Ex1.try_ok (Ex.seq (ρ' := [.imm (.str a), .imm (.tup [.str b]), .imm (.str "/"), .imm (.str (joinS a b)), .unk])
    (Ex1.for (I := fun k => if k = 0 then [.imm (.str a), .imm (.tup [.str b]), .imm (.str "/"), .imm (.str a), .unk] else [.imm (.str a), .imm (.tup [.str b]), .imm (.str "/"), .imm (.str (joinS a b)), .unk]) (ds := [.str b]) (EvIt.tup hF (.name (i := 1) hF rfl rfl)) rfl (fun k d hd => ?_) ⟨rfl, rfl⟩) (Ex.nil ⟨rfl, rfl⟩))) (Ex.ret (.name (i := 3) hF rfl rfl) ⟨_, rfl, rfl⟩)
  cases k with
  | succ k => simp at hd
  | zero =>
    obtain rfl : d = .str b := by simpa using hd.symm
    refine ⟨_, .name (i := 4) hF rfl (Nat.lt_of_sub_pos (by decide : 0 < 5 - 4)), ?_⟩
    refine Ex.seq (Ex1.assign (i := 4) hF rfl (Nat.lt_of_sub_pos (by decide : 0 < 5 - 4)) (Ev.call (j := 0) hF rfl (.cons (.name (i := 4) hF rfl rfl) .nil) ((fspath_ok W b).use hF (by decide)))) ?_
    have hst : ∀ {F : FC} {n : Nat} {ρ : List Sl} (hF : F.Ok n) {p1 p2 p3 p4 : Pos}, F.names[4]? = some ("b" : Str) → ρ[4]? = some (.imm (.str b)) → F.names[2]? = some ("sep" : Str) → ρ[2]? = some (.imm (.str "/")) → p2.endLine = p4.line → Tr F ρ (.Call (.Attribute (.Name "b" p1) "startswith" p2) [.Name "sep" p3] [] p4) (Txt.startswith b "/") := fun hF _ _ _ _ h1 h2 h3 h4 h5 =>
      Tr.val (Ev.meth PySem.F.plainAttrs_str PySem.F.slot_str_startswith PySem.F.type_str_startswith (.name hF h1 h2) (.cons (.name hF h3 h4) .nil) (call_startswith b "/") (hline := by simpa using h5)) (truth_bool _)
    have hnot : (!((a.length : Int) != 0)) = decide ((a.length : Int) = 0) := by rw [show ((a.length : Int) != 0) = !decide ((a.length : Int) = 0) from rfl, Bool.not_not]
    have fin : Wk [.imm (.str a), .imm (.tup [.str b]), .imm (.str "/"), .imm (.str (joinS a b)), .imm (.str b)] [.imm (.str a), .imm (.tup [.str b]), .imm (.str "/"), .imm (.str (joinS a b)), .unk] := .keep (.keep (.keep (.keep (.drop .nil))))
    by_cases h1 : Txt.startswith b "/" = true
    · refine Ex.if_true (Tr.or_true ((hst hF rfl rfl rfl rfl rfl).as h1)) (Ex.seq (Ex1.assign (i := 3) hF rfl (Nat.lt_of_sub_pos (by decide : 0 < 5 - 3)) (.name (i := 4) hF rfl rfl)) (Ex.nil (Ex.nil ?_)))
      have : joinS a b = b := by unfold joinS; rw [if_pos h1]
      rw [this] at fin ⊢; exact fin
    · have h1' := Bool.eq_false_iff.mpr h1
      by_cases h2 : (a.length : Int) = 0
      · refine Ex.if_true (Tr.or_false ((hst hF rfl rfl rfl rfl rfl).as h1') (Tr.or_true ((Tr.not (Tr.val (.name (i := 3) hF rfl rfl) (truth_str a (small_lt (by lia))))).as (hnot.trans (decide_eq_true h2))))) (Ex.seq (Ex1.assign (i := 3) hF rfl (Nat.lt_of_sub_pos (by decide : 0 < 5 - 3)) (.name (i := 4) hF rfl rfl)) (Ex.nil (Ex.nil ?_)))
        have : joinS a b = b := by unfold joinS; rw [if_neg h1, if_pos h2]
        rw [this] at fin ⊢; exact fin
      · refine Ex.if_false (Tr.or_false ((hst hF rfl rfl rfl rfl rfl).as h1') (Tr.or_false ((Tr.not (Tr.val (.name (i := 3) hF rfl rfl) (truth_str a (small_lt (by lia))))).as (hnot.trans (decide_eq_false h2))) .or_nil)) ?_
        have htr : ∀ {c : Bool} {p1 p2 p3 p4 : Pos}, Txt.endswith a "/" = c → p2.endLine = p4.line → Tr (FC.mk G A env ["a", "p", "sep", "path", "b"] 5 [("fspath", .ref 143), ("_get_sep", .ref 157)] (scopeOf (stAt 21)) h0 [] X0) [.imm (.str a), .imm (.tup [.str b]), .imm (.str "/"), .imm (.str a), .imm (.str b)] (.Call (.Attribute (.Name "path" p1) "endswith" p2) [.Name "sep" p3] [] p4) c := fun {c _ _ _ _} e h5 =>
          (Tr.val (Ev.meth PySem.F.plainAttrs_str PySem.F.slot_str_endswith PySem.F.type_str_endswith (.name (i := 3) hF rfl rfl) (.cons (.name (i := 2) hF rfl rfl) .nil) (call_endswith a "/") (hline := by simpa using h5)) (truth_bool _)).as e
        by_cases h3 : Txt.endswith a "/" = true
        · refine Ex.if_true (htr h3 rfl) (Ex.seq (Ex1.aug (i := 3) hF rfl (Nat.lt_of_sub_pos (by decide : 0 < 5 - 3)) rfl (.name (i := 4) hF rfl rfl) (aug_add_str a b (small_lt (by lia)))) (Ex.nil (Ex.nil (Ex.nil ?_))))
          have : joinS a b = a ++ b := by unfold joinS; rw [if_neg h1, if_neg h2, if_pos h3]
          rw [this] at fin ⊢; exact fin
        · refine Ex.if_false (htr (Bool.eq_false_iff.mpr h3) rfl) (Ex.seq (Ex1.aug (i := 3) hF rfl (Nat.lt_of_sub_pos (by decide : 0 < 5 - 3)) rfl (Ev.bin (.name (i := 2) hF rfl rfl) (.name (i := 4) hF rfl rfl) (bin_add_str "/" b (small_lt (by show 1 + b.length ≤ 1000; lia)))) (aug_add_str a ("/" ++ b) ?_)) (Ex.nil (Ex.nil (Ex.nil ?_))))
          · have : (("/" : Str) ++ b).length = 1 + b.length := Str.length_append _ _
            rw [this]; exact small_lt (by lia)
          · have : joinS a b = a ++ ("/" ++ b) := by unfold joinS; rw [if_neg h1, if_neg h2, if_neg h3]
            rw [this] at fin ⊢; exact fin
end
end Mine
end

section
open PySem PySem.Calls PyProof.Rows PySem.W
namespace Mine
theorem small_lt' {n : Nat} (h : n ≤ 1000) : n ≤ sizeLine := by rw [sizeLine_eq]; lia
noncomputable def getD' (ds : List (Str × Int)) (k : Str) (n : Int) : Int := ((ds.find? fun p => p.1 = k).map (·.2)).getD n
noncomputable def storedD (ds : List (Str × Int)) (k : Str) (n : Int) : List (Str × Int) := if ds.any (fun p => p.1 = k) then ds.map (fun p => if p.1 = k then (p.1, n) else p) else ds ++ [(k, n)]
theorem KV.any : ∀ {kvs : List (Str × Value)} {ds : List (Str × Int)} {k : Str}, KV kvs ds → kvs.any (fun p => p.1 = k) = ds.any (fun p => p.1 = k)
  | [], [], _, _ => rfl
  | (a, v) :: r, (b, n) :: s, k, h => by
    obtain ⟨rfl, _, h⟩ := h
    rw [List.any_cons, List.any_cons, KV.any h]
theorem KV.map : ∀ {kvs : List (Str × Value)} {ds : List (Str × Int)} {k : Str} {n : Int} {t : Tok}, KV kvs ds → KV (kvs.map fun p => if p.1 = k then (p.1, .int n t) else p) (ds.map fun p => if p.1 = k then (p.1, n) else p)
  | [], [], _, _, _, _ => trivial
  | (a, v) :: r, (b, m) :: s, k, n, t, h => by
    obtain ⟨rfl, hv, h⟩ := h
    rw [List.map_cons, List.map_cons]
    by_cases e : a = k
    · rw [if_pos e, if_pos e]; exact ⟨rfl, ⟨t, rfl⟩, KV.map h⟩
    · rw [if_neg e, if_neg e]; exact ⟨rfl, hv, KV.map h⟩
theorem KV.snoc : ∀ {kvs : List (Str × Value)} {ds : List (Str × Int)} {k : Str} {n : Int} {t : Tok}, KV kvs ds → KV (kvs ++ [(k, .int n t)]) (ds ++ [(k, n)])
  | [], [], _, _, t, _ => ⟨rfl, ⟨t, rfl⟩, trivial⟩
  | (a, v) :: r, (b, m) :: s, k, n, t, ⟨h1, h2, h⟩ => ⟨h1, h2, KV.snoc h⟩
theorem KV.stored {kvs : List (Str × Value)} {ds : List (Str × Int)} {k : Str} {n : Int} {t : Tok} (h : KV kvs ds) : KV (stored kvs k (.int n t)) (storedD ds k n) := by
  unfold PySem.stored storedD
  rw [h.any]
  split
  · exact h.map
  · exact h.snoc
theorem KV.get : ∀ {kvs : List (Str × Value)} {ds : List (Str × Int)} {k : Str} {n : Int} {t : Tok}, KV kvs ds → ∃ t', (valueAt kvs k).getD (.int n t) = .int (getD' ds k n) t'
  | [], [], _, _, t, _ => ⟨t, rfl⟩
  | (a, v) :: r, (b, m) :: s, k, n, t, h => by
    obtain ⟨rfl, ⟨t1, rfl⟩, h⟩ := h
    unfold valueAt getD'
    rw [List.find?_cons, List.find?_cons]
    by_cases e : a = k
    · simp only [e, decide_true]; exact ⟨t1, rfl⟩
    · simp only [e, decide_false]; exact KV.get h
theorem KV.length : ∀ {kvs : List (Str × Value)} {ds : List (Str × Int)}, KV kvs ds → kvs.length = ds.length
  | [], [], _ => rfl
  | _ :: _, _ :: _, ⟨_, _, h⟩ => congrArg (· + 1) (KV.length h)
section
variable {F : FC} {ρ : List Sl} {n : Nat} {Φ : Fl → List Sl → Prop} {Θ : String → List Sl → Prop}
/-- what an own dict has at a text, or another number -/
theorem Ev.dict_get {i : Nat} {x : Str} {np apos pos : Pos} {e1 e2 : PySem.Expr} {v : Value} {a : Addr} {ds : List (Str × Int)} {k : Str} {m : Int} (hF : F.Ok n) (hx : F.names[i]? = some x) (hne : x ≠ "") (h1 : ρ[i]? = some (.own v a (.dict F.G.prog F.G.w ds))) (hk : Ev F ρ e1 (.str k)) (hm : Ev F ρ e2 (.int m))
    (hfew : ((backTo pos (starEach [e1, e2] F.env)).all (fun x => !x.1) && (backToKw pos (keywordEach [] F.env)).all (fun x => x.1.isSome) && decide ([e1, e2].length + ([] : List Keyword).length + (if ([] : List Keyword).isEmpty then 0 else 1) < 30)) = true := by rfl)
    (hline : (apos.endLine == pos.line) = true := by rfl) (hb : backTo pos (starEach [e1, e2] F.env) = [(false, eval e1 F.env), (false, eval e2 F.env)] := by rfl) :
    Ev F ρ (.Call (.Attribute (.Name x np) "get" apos) [e1, e2] [] pos) (.int (getD' ds k m)) := by
  intro s X Q E hq
  obtain ⟨hv, hsm, kvs, hd, hkv⟩ := (X.ob (List.mem_of_getElem? h1)).1
  subst hv
  refine wpAny_Call_method rfl hfew hline PySem.F.plainAttrs_dict PySem.F.slot_dict_get PySem.F.type_dict_get (load_own hF X hx hne h1 ⟨hd.mapOf.typeIs, fun b e => (by cases e; obtain ⟨o, _, _, e', q, _⟩ := hd; exact ⟨o, e', q.2.1⟩), ?_⟩)
  rw [hb]
  refine wpAny_dict_get2 (knd := PySem.strKind F.G.prog F.G.w) (by simpa using hsm) (hk s X _ _ fun w1 ha tka g1 r1 => hm { s with heap := ha, toks := tka } (X.grow g1) _ _ fun w2 hb' tkb g2 r2 => ?_)
  obtain ⟨t1, rfl⟩ := r1.str'
  obtain ⟨t2, rfl⟩ := r2.int'
  have hd2 := dict_kp (dict_kp hd g1.kp) g2.kp
  obtain ⟨t3, e3⟩ := hkv.get (k := k) (n := m) (t := t2)
  refine ⟨k, _, strKind_is _ _ k t1, hd2.mapOf, ?_⟩
  rw [e3]
  exact hq _ hb' _ (g1.trans g2) (.int _ _)
/-- a number is stored in an own dict -/
theorem Ex1.dict_store {i : Nat} {x : Str} {np spos pos : Pos} {e1 e2 : PySem.Expr} {v : Value} {a : Addr} {ds : List (Str × Int)} {k : Str} {m : Int} (hF : F.Ok n) (hx : F.names[i]? = some x) (hne : x ≠ "") (h1 : ρ[i]? = some (.own v a (.dict F.G.prog F.G.w ds))) (hm : Ev F ρ e2 (.int m)) (hk : Ev F ρ e1 (.str k)) (hsz : ds.length ≤ 1000)
    (hs : swapsWith e2 (some (.Subscript (.Name x np) e1 spos)) pos.line F.env = pure false := by rfl) :
    Ex1 F ρ (.Assign [.Subscript (.Name x np) e1 spos] e2 pos) (Turns ρ i v a (.dict F.G.prog F.G.w (storedD ds k m))) Θ := by
  intro s X Q E hq _
  refine wpAny_Assign_Subscript (hm s X _ _ fun w1 ha tka g1 r1 => ?_) hs
  have X1 := X.grow g1
  refine load_own hF (s := { s with heap := ha, toks := tka }) X1 hx hne h1 (hk { s with heap := ha, toks := tka } X1 _ _ fun w2 hb tkb g2 r2 => ?_)
  obtain ⟨t1, rfl⟩ := r1.int'
  obtain ⟨t2, rfl⟩ := r2.str'
  have X2 := X1.grow g2
  obtain ⟨hv, hsm, kvs, hd, hkv⟩ := (X2.ob (List.mem_of_getElem? h1)).1
  subst hv
  refine wpAny_setItem_pairs (s := { s with heap := hb, toks := tkb }) (strKind_is _ _ k t2) hd (fun h' hd' sb => ?_) (by rw [hkv.length]; exact small_lt' hsz)
  have : Asr F (ρ.set i (.own (.ref a) a (.dict F.G.prog F.G.w (storedD ds k m)))) h' ∧ Stp F ρ (ρ.set i (.own (.ref a) a (.dict F.G.prog F.G.w (storedD ds k m)))) hb h' := by
    refine X2.own_turn hx h1 sb.2 (fun sm => ⟨rfl, hsm, _, hd', hkv.stored⟩) rfl (fun ob es ep e1 e2 => ?_) (fun ob vs e1 e2 => ?_) ?_
    · obtain ⟨o, es1, ep1, q1, q2, q3, _⟩ := hd
      obtain ⟨o', es2, ep2, p1, p2, p3, _⟩ := hd'
      rw [q1] at e1; cases e1
      exact ⟨o', es2, ep2, p1, p2.1.trans q2.1.symm, p3⟩
    · obtain ⟨o, es1, ep1, q1, q2, q3, _⟩ := hd
      rw [q1] at e1; cases e1; rw [q3] at e2; cases e2
    · obtain ⟨o', _, _, p1, _⟩ := hd'; exact ⟨o', p1⟩
  exact hq .next h' _ .next _ ⟨rfl, rfl⟩ this.1 trivial ((Stp.of_grow (g1.trans g2)).trans this.2)
/-- an empty dict under a name, the frame's own -/
theorem Ex1.own_dict {i j : Nat} {gp : Str × Value} {x : Str} {np lp pos : Pos} (hF : F.Ok n) (hg : F.gls[j]? = some gp) (hx : F.names[i]? = some x) (hi : i < F.own) :
    Ex1 F ρ (.Assign [.Name x np] (.Dict [] [] lp) pos) (fun fl r => fl = .next ∧ ∃ a, r = ρ.set i (.own (.ref a) a (.dict F.G.prog F.G.w []))) Θ := by
  intro s X Q E hq _
  refine wpAny_Assign_Name (wpAny_Dict_empty ?_)
  have g : Grow F.G s.heap (s.heap.push { cls := .type "dict", data := .dict #[] }) := .push X.stays _
  have ea : (s.heap.push { cls := .type "dict", data := .dict #[] }).get? s.heap.objs.size = some { cls := .type "dict", data := .dict #[] } := Heap.get?_push_size _ rfl
  have hn : s.heap.get? s.heap.objs.size = none := Heap.get?_none_of_le (Nat.le_refl _)
  have X1 := X.grow_new (C := s.heap.objs.size) g hn ⟨_, ea⟩
  have nX : s.heap.objs.size ∉ F.X ρ := fun q => by obtain ⟨o, e⟩ := X.dom _ q; rw [hn] at e; cases e
  have nv : ¬ F.vol0 s.heap.objs.size := fun q => by
    rcases q with q | ⟨_, y, _, _, k, l⟩
    · obtain ⟨_, _, ⟨o, e, _⟩⟩ := X.loc
      rw [← q, hn] at e; cases e
    · obtain ⟨_, o, e, _⟩ := X.cells y _ k l
      rw [hn] at e; cases e
  refine store_unk (F := F.withX s.heap.objs.size) (s := { s with heap := s.heap.push { cls := .type "dict", data := .dict #[] } }) hF.withX X1 hx hi fun h2 tk2 X2 S2 hh => ?_
  have e2 : h2.get? s.heap.objs.size = some { cls := .type "dict", data := .dict #[] } := S2.kept.same (fun q => q.elim nv fun q => nX (List.mem_append_right _ q)) ea (plain_ty rfl)
  have nX2 : s.heap.objs.size ∉ F.X (ρ.set i .unk) := fun q => (List.mem_append.mp q).elim (fun q => nX (List.mem_append_left _ q)) fun q => nX (List.mem_append_right _ ((owned_setP rfl ρ i).subset q))
  have nB : F.G.B.get? s.heap.objs.size = none := by
    cases q : F.G.B.get? s.heap.objs.size with
    | none => rfl
    | some o => have := X.stays.stays _ o q; rw [hn] at this; cases this
  have n0 : F.h0.get? s.heap.objs.size = none ∨ s.heap.objs.size ∈ F.P := by
    by_cases hP : s.heap.objs.size ∈ F.P
    · exact .inr hP
    · cases q : F.h0.get? s.heap.objs.size with
      | none => exact .inl rfl
      | some o => obtain ⟨o', e⟩ := X.kept.live hP q; rw [hn] at e; cases e
  have hsm : s.heap.objs.size ≠ sysModules := fun q => by
    obtain ⟨_, ⟨mg, hn', _⟩, _⟩ := hF.gls gp (List.mem_of_getElem? hg)
    have := (hn'.keeps X.stays.stays).lt
    rw [q] at this
    exact absurd this (by decide)
  have X3 : Asr F (ρ.set i (.own (.ref s.heap.objs.size) s.heap.objs.size (.dict F.G.prog F.G.w []))) h2 := Asr.own_put X2 hx (.inr hh) ⟨rfl, hsm, [], ⟨_, #[], 0, e2, ⟨rfl, rfl, rfl⟩, rfl, fun e he => by simp at he, .nil, .nil⟩, trivial⟩ rfl nX2 nv nB n0
  have hil : i < ρ.length := by rw [X.len]; exact (List.getElem?_eq_some_iff.mp hx).1
  refine hq .next h2 tk2 .next _ ⟨rfl, _, rfl⟩ X3 trivial ⟨fun b ob hb eb => ?_, fun b ob eb => ?_, fun a ha => ?_⟩
  · exact (g.kp b ob eb).next fun p ep => S2.kept b p hb ep
  · obtain ⟨o', e'⟩ := g.kp.live eb
    exact S2.live b o' e'
  · rcases List.mem_cons.mp ((owned_put hil).mem_iff.mp ha) with q | q
    · exact .inr (q ▸ hn)
    · exact .inl ((owned_setP rfl ρ i).subset q)
theorem Ex.own_dict {rest : List Stmt} {i j : Nat} {gp : Str × Value} {x : Str} {np lp pos : Pos} (hF : F.Ok n) (hg : F.gls[j]? = some gp) (hx : F.names[i]? = some x) (hi : i < F.own) (h : ∀ a, Ex F (ρ.set i (.own (.ref a) a (.dict F.G.prog F.G.w []))) rest Φ Θ) :
    Ex F ρ (.Assign [.Name x np] (.Dict [] [] lp) pos :: rest) Φ Θ := .cons (.own_dict hF hg hx hi) fun fl r ⟨e, a, e'⟩ => by subst e e'; exact h a
end
end Mine
end

section
open PySem PySem.Calls PyProof.Rows PySem.W
namespace Mine
noncomputable def cntNames : List (Str × Int) → Str → List Str → List (Str × Int)
  | cs, _, [] => cs
  | cs, t, n :: r => cntNames (storedD cs (t ++ "/" ++ n) (getD' cs (t ++ "/" ++ n) 0 + 1)) (t ++ "/" ++ n) r
noncomputable def textOf : Str → List Str → Str
  | t, [] => t
  | t, n :: r => textOf (t ++ "/" ++ n) r
noncomputable def countsOf (ns : List Int) : List (Str × Int) := ns.foldl (fun cs n => cntNames cs "" (namesOf n)) []
theorem textOf_snoc : ∀ (t : Str) (l : List Str) (n : Str), textOf t (l ++ [n]) = textOf t l ++ "/" ++ n
  | _, [], _ => rfl
  | t, m :: r, n => textOf_snoc (t ++ "/" ++ m) r n
theorem cntNames_snoc : ∀ (cs : List (Str × Int)) (t : Str) (l : List Str) (n : Str), cntNames cs t (l ++ [n]) = storedD (cntNames cs t l) (textOf t l ++ "/" ++ n) (getD' (cntNames cs t l) (textOf t l ++ "/" ++ n) 0 + 1)
  | _, _, [], _ => rfl
  | cs, t, m :: r, n => cntNames_snoc _ (t ++ "/" ++ m) r n
theorem storedD_len (cs : List (Str × Int)) (k : Str) (n : Int) : (storedD cs k n).length ≤ cs.length + 1 := by
  unfold storedD
  split
  · rw [List.length_map]; lia
  · rw [List.length_append]; exact Nat.le_refl _
theorem cntNames_len : ∀ (cs : List (Str × Int)) (t : Str) (l : List Str), (cntNames cs t l).length ≤ cs.length + l.length
  | _, _, [] => Nat.le_refl _
  | cs, t, n :: r => by
    have h1 := cntNames_len (storedD cs (t ++ "/" ++ n) (getD' cs (t ++ "/" ++ n) 0 + 1)) (t ++ "/" ++ n) r
    have h2 := storedD_len cs (t ++ "/" ++ n) (getD' cs (t ++ "/" ++ n) 0 + 1)
    rw [cntNames, List.length_cons]; lia
theorem textOf_len : ∀ (t : Str) (l : List Str), (∀ n ∈ l, n.length ≤ 2) → (textOf t l).length ≤ t.length + 3 * l.length
  | _, [], _ => Nat.le_refl _
  | t, n :: r, h => by
    have h1 := textOf_len (t ++ "/" ++ n) r fun m hm => h m (List.mem_cons_of_mem _ hm)
    have h2 := h n List.mem_cons_self
    have h3 : (t ++ "/" ++ n).length = t.length + 1 + n.length := by rw [Str.length_append, Str.length_append]; rfl
    rw [textOf, List.length_cons]; lia
theorem nameOf_len (f : Int) : (nameOf f).length ≤ 2 := by
  unfold nameOf
  split
  · decide +kernel
  · split
    · decide +kernel
    · split <;> decide +kernel
theorem namesOf_len (n : Int) : (namesOf n).length ≤ 3 ∧ ∀ x ∈ namesOf n, x.length ≤ 2 := by
  unfold namesOf
  refine ⟨?_, fun x hx => ?_⟩
  · rw [List.length_map]; exact List.length_filter_le _ _
  · obtain ⟨f, _, rfl⟩ := List.mem_map.mp hx; exact nameOf_len f
theorem countsOf_len : ∀ (ns : List Int), (countsOf ns).length ≤ 3 * ns.length := by
  have : ∀ (ns : List Int) (cs : List (Str × Int)), (ns.foldl (fun cs n => cntNames cs "" (namesOf n)) cs).length ≤ cs.length + 3 * ns.length := by
    intro ns
    induction ns with
    | nil => intro cs; exact Nat.le_refl _
    | cons n r ih =>
      intro cs
      have h1 := ih (cntNames cs "" (namesOf n))
      have h2 := cntNames_len cs "" (namesOf n)
      have h3 := (namesOf_len n).1
      rw [List.foldl_cons, List.length_cons]; lia
  intro ns
  have := this ns []
  simpa [countsOf] using this
section
variable {G : GC}
theorem counts_ok (W : Wd G) (ns : List Int) (hn : ns.length ≤ 6) (hr : ∀ n ∈ ns, 0 ≤ n ∧ n < 1000000) : FnOK G 2 (.ref 221) [.list (ns.map .int)] (.dict G.prog G.w (countsOf ns)) := by
  refine Fn.pl (k := 31) (n := 1) (kk := 4) (own := 5) (pn := ["numbers"]) (names := ["numbers", "counts", "number", "text", "name"]) (gls := [("_law_names", .ref 195)]) (W.def (i := 15) rfl)
    (.of (by decide) (by decide) (by decide +kernel) (by decide +kernel) (W.gls [31])) W.nolimit rfl rfl (by decide) rfl (by decide +kernel) (bindK fun _ => all1 fun _ => by kernel_rfl) fun A env h0 X0 hF => ?_
  refine Ex.own_dict (i := 1) (j := 0) hF rfl rfl (Nat.lt_of_sub_pos (by decide : 0 < 5 - 1)) fun a => ?_
  refine Ex.seq (ρ' := [.imm (.list (ns.map .int)), .own (.ref a) a (.dict G.prog G.w (countsOf ns)), .unk, .unk, .unk])
    (Ex1.for (I := fun m => [.imm (.list (ns.map .int)), .own (.ref a) a (.dict G.prog G.w (countsOf (ns.take m))), .unk, .unk, .unk]) (EvIt.list hF (.name (i := 0) hF rfl rfl)) rfl (fun m d hd => ?_) (by rw [List.length_map, List.take_length]; exact ⟨rfl, rfl⟩)) ?_
  · rw [List.getElem?_map] at hd
    obtain ⟨x, hx, rfl⟩ := Option.map_eq_some_iff.mp hd
    have hxr := hr x (List.mem_of_getElem? hx)
    have hcur := countsOf_len (ns.take m)
    have hm : (ns.take m).length ≤ 6 := Nat.le_trans (List.length_take_le' _ _) hn
    obtain ⟨hn3, hn2⟩ := namesOf_len x
    refine ⟨_, .name (i := 2) hF rfl (Nat.lt_of_sub_pos (by decide : 0 < 5 - 2)), Ex.seq (Ex1.assign (i := 3) hF rfl (Nat.lt_of_sub_pos (by decide : 0 < 5 - 3)) .str) ?_⟩
    refine Ex.seq (ρ' := [.imm (.list (ns.map .int)), .own (.ref a) a (.dict G.prog G.w (cntNames (countsOf (ns.take m)) "" (namesOf x))), .imm (.int x), .imm (.str (textOf "" (namesOf x))), .unk])
      (Ex1.for (I := fun j => [.imm (.list (ns.map .int)), .own (.ref a) a (.dict G.prog G.w (cntNames (countsOf (ns.take m)) "" ((namesOf x).take j))), .imm (.int x), .imm (.str (textOf "" ((namesOf x).take j))), .unk])
        (EvIt.list hF (Ev.call (j := 0) hF rfl (.cons (.name (i := 2) hF rfl rfl) .nil) ((names_ok W x hxr.1 hxr.2).use hF (by decide)))) rfl (fun j d hd => ?_) (by rw [List.length_map, List.take_length]; exact ⟨rfl, rfl⟩)) (Ex.nil ?_)
    · rw [List.getElem?_map] at hd
      obtain ⟨y, hy, rfl⟩ := Option.map_eq_some_iff.mp hd
      have ht : (textOf "" ((namesOf x).take j)).length ≤ 9 := by
        have := textOf_len "" ((namesOf x).take j) fun n hn => hn2 n (List.mem_of_mem_take hn)
        have h2 : ((namesOf x).take j).length ≤ 3 := Nat.le_trans (List.length_take_le' _ _) hn3
        have h3 : ("" : Str).length = 0 := rfl
        lia
      have hy2 := hn2 y (List.mem_of_getElem? hy)
      have l1 : (textOf "" ((namesOf x).take j) ++ "/").length = (textOf "" ((namesOf x).take j)).length + 1 := Str.length_append _ _
      refine ⟨_, .name (i := 4) hF rfl (Nat.lt_of_sub_pos (by decide : 0 < 5 - 4)), ?_⟩
      refine Ex.seq (Ex1.assign (i := 3) hF rfl (Nat.lt_of_sub_pos (by decide : 0 < 5 - 3)) (Ev.bin (Ev.bin (.name (i := 3) hF rfl rfl) .str (bin_add_str _ "/" (small_lt (by show _ + 1 ≤ 1000; lia)))) (.name (i := 4) hF rfl rfl) (bin_add_str _ y (small_lt (by rw [l1]; lia))))) ?_
      refine Ex.seq (Ex1.dict_store (i := 1) hF rfl (by decide) rfl (Ev.bin (Ev.dict_get (i := 1) hF rfl (by decide) rfl (.name (i := 3) hF rfl rfl) .int) .int (bin_add_int _ 1)) (.name (i := 3) hF rfl rfl) ?_) (Ex.nil ?_)
      · have h1 := cntNames_len (countsOf (ns.take m)) "" ((namesOf x).take j)
        have h2 : ((namesOf x).take j).length ≤ 3 := Nat.le_trans (List.length_take_le' _ _) hn3
        lia
      · have e : (namesOf x).take (j + 1) = (namesOf x).take j ++ [y] := by rw [List.take_add_one, hy]; rfl
        rw [e, cntNames_snoc, textOf_snoc]
        exact .keep (.keep (.keep (.keep (.drop .nil))))
    · have e : countsOf (ns.take (m + 1)) = cntNames (countsOf (ns.take m)) "" (namesOf x) := by
        unfold countsOf
        rw [List.take_add_one, hx, List.foldl_append]; rfl
      rw [e]
      exact .keep (.keep (.drop (.drop (.drop .nil))))
  · exact Ex.freeze (i := 1) (x := "counts") rfl (by decide) rfl rfl (Ex.ret (.name (i := 1) hF rfl rfl) rfl)
end
end Mine
end

section
open PySem PySem.Calls PyProof.Rows PySem.W
namespace Mine
noncomputable def keysD (ds : List (Str × Int)) : List Dt := ds.map fun p => .str p.1
noncomputable def valuesD (ds : List (Str × Int)) : List Dt := ds.map fun p => .int p.2
theorem KV.at : ∀ {kvs : List (Str × Value)} {ds : List (Str × Int)} {j : Nat} {k : Str} {v : Value}, KV kvs ds → kvs[j]? = some (k, v) → ∃ n t, ds[j]? = some (k, n) ∧ v = .int n t
  | [], [], _, _, _, _, e => by simp at e
  | (a, v) :: r, (b, m) :: s, 0, k, u, h, e => by
    obtain ⟨rfl, ⟨t, rfl⟩, h⟩ := h
    simp only [List.getElem?_cons_zero, Option.some.injEq, Prod.mk.injEq] at e
    obtain ⟨rfl, rfl⟩ := e
    exact ⟨m, t, rfl, rfl⟩
  | (a, v) :: r, (b, m) :: s, j + 1, k, u, ⟨_, _, h⟩, e => by
    obtain ⟨n, t, h1, h2⟩ := KV.at (j := j) h (by simpa using e)
    exact ⟨n, t, by simpa using h1, h2⟩
theorem Rp.dict' {X : List Addr} {h : Heap} {v : Value} {p : Program} {w : World} {ds : List (Str × Int)} (r : Rp X h v (.dict p w ds)) : ∃ a kvs, v = .ref a ∧ a ∉ X ∧ a ≠ sysModules ∧ h.DictOf (PySem.strKind p w) a kvs ∧ KV kvs ds := by
  cases r with | dict a b c d => exact ⟨_, _, rfl, a, b, c, d⟩
section
variable {F : FC} {ρ : List Sl} {n : Nat}
theorem EvIt.keys {e : PySem.Expr} {ds : List (Str × Int)} (hF : F.Ok n) (h1 : Ev F ρ e (.dict F.G.prog F.G.w ds)) (hq0 : F.hd = false := by rfl) : EvIt F ρ e (keysD ds) := by
  intro s X Q E hq
  refine h1 s X _ _ fun v h' tk' g r => ?_
  obtain ⟨d, kvs, rfl, hd, hsm, D, K⟩ := r.dict'
  obtain ⟨o, es, ep, eo, ex, hdd, rest⟩ := id D
  have hat : h'.DictAt (PySem.strKind F.G.prog F.G.w) d kvs ep := ⟨o, es, eo, ex, hdd, rest⟩
  have hne : d ≠ h'.objs.size := Nat.ne_of_lt (Heap.lt_size eo)
  refine wpAny_pyIter_dict (by simpa using hsm) hat ?_
  have g2 := g.trans (.push g.stays { cls := .type "dict_keyiterator", data := .fields #[.ref d, .int 0 0, .int kvs.length 0, .int ep 0] })
  refine hq _ _ tk' _ _ g2 (itOK_walks (Walks.dictKeys (hF.hand hq0) _ d hne kvs ep) rfl fun i h st => ?_) ⟨0, ⟨⟨_, Heap.get?_push_size _ rfl, rfl, rfl⟩, hat.push _⟩, by simp [keysD, K.length], fun b hb => ?_, fun j dd hj v hv => ?_⟩ fun b hb => ?_
  · obtain ⟨⟨o, a, b, c⟩, _⟩ := st
    exact ⟨o, _, _, a, b, c, by decide, by simp, by decide⟩
  · rcases List.mem_cons.mp hb with rfl | hb
    · exact .inl (by simp)
    · obtain rfl := List.mem_singleton.mp hb
      exact .inr ⟨o, Heap.get?_push_of_some _ eo, .inr ⟨hd, ex.1, es, ep, hdd⟩⟩
  · obtain ⟨k, x, hk, hv⟩ := hv
    rw [Nat.zero_add] at hk
    obtain ⟨m, t, h3, _⟩ := K.at hk
    obtain ⟨t', rfl⟩ := Value.isStrOf_shape hv
    unfold keysD at hj
    rw [List.getElem?_map, h3] at hj
    obtain rfl := Option.some.inj hj
    exact .str _ _
  · obtain rfl := List.mem_singleton.mp hb
    exact g.kp.none (Heap.get?_none_of_le (Nat.le_refl _))
theorem EvIt.values {e : PySem.Expr} {apos pos : Pos} {ds : List (Str × Int)} (hF : F.Ok n) (h1 : Ev F ρ e (.dict F.G.prog F.G.w ds)) (hbase : attributeBase e "values" F.env (eval e F.env) = eval e F.env := by rfl)
    (hfew : ((backTo pos (starEach [] F.env)).all (fun x => !x.1) && (backToKw pos (keywordEach [] F.env)).all (fun x => x.1.isSome) && decide (([] : List PySem.Expr).length + ([] : List Keyword).length + (if ([] : List Keyword).isEmpty then 0 else 1) < 30)) = true := by rfl)
    (hline : (apos.endLine == pos.line) = true := by rfl) (hb : backTo pos (starEach [] F.env) = [] := by rfl) (hq0 : F.hd = false := by rfl) : EvIt F ρ (.Call (.Attribute e "values" apos) [] [] pos) (valuesD ds) := by
  intro s X Q E hq
  refine wpAny_Call_method hbase hfew hline PySem.F.plainAttrs_dict PySem.F.slot_dict_values PySem.F.type_dict_values (h1 s X _ _ fun v h' tk' g r => ?_)
  obtain ⟨d, kvs, rfl, hd, hsm, D, K⟩ := r.dict'
  obtain ⟨o, es, ep, eo, ex, hdd, rest⟩ := id D
  have hat : h'.DictAt (PySem.strKind F.G.prog F.G.w) d kvs ep := ⟨o, es, eo, ex, hdd, rest⟩
  have hlt := Heap.lt_size eo
  refine ⟨D.mapOf.typeIs, fun b e => (by cases e; exact ⟨o, eo, ex.2.1⟩), ?_⟩
  rw [hb]
  refine method_meetsIn PySem.F.slot_dict_values PySem.F.entry_dict_values rfl (PySem.evalArgs_none ⟨rfl, D.mapOf.typeIs, PySem.F.args_dict_values_1 _, _, meets_dict_values (PySem.strKind F.G.prog F.G.w) d (by simpa using hsm), ⟨kvs, D⟩, ?_⟩)
  have g1 := g.trans (.push g.stays { cls := .type "dict_values", data := .fields #[.ref d] })
  have hat1 : (h'.push { cls := .type "dict_values", data := .fields #[.ref d] }).DictAt (PySem.strKind F.G.prog F.G.w) d kvs ep := hat.push _
  have hsz : (h'.push { cls := .type "dict_values", data := .fields #[.ref d] }).objs.size = h'.objs.size + 1 := Heap.size_push ..
  show wpAny _ _ (pyIter (.ref h'.objs.size)) Q E { s with heap := h'.push { cls := .type "dict_values", data := .fields #[.ref d] }, toks := tk' }
  refine wpAny_pyIter_values (s := { s with heap := h'.push { cls := .type "dict_values", data := .fields #[.ref d] }, toks := tk' }) ⟨_, Heap.get?_push_size _ rfl, rfl, rfl⟩ hat1 ?_
  have hne : d ≠ (h'.push { cls := .type "dict_values", data := .fields #[.ref d] }).objs.size := by rw [hsz]; exact Nat.ne_of_lt (Nat.lt_succ_of_lt hlt)
  have g2 := g1.trans (.push g1.stays { cls := .type "dict_valueiterator", data := .fields #[.ref d, .int 0 0, .int kvs.length 0, .int ep 0] })
  refine hq _ _ tk' _ _ g2 (itOK_walks (Walks.dictValues (knd := PySem.strKind F.G.prog F.G.w) (hF.hand hq0) _ d hne kvs ep) rfl fun i h st => ?_) ⟨0, ⟨⟨_, Heap.get?_push_size _ rfl, rfl, rfl⟩, hat1.push _⟩, by simp [valuesD, K.length], fun b hb => ?_, fun j dd hj v hv => ?_⟩ fun b hb => ?_
  · obtain ⟨⟨o, a, b, c⟩, _⟩ := st
    exact ⟨o, _, _, a, b, c, by decide, by simp, by decide⟩
  · rcases List.mem_cons.mp hb with rfl | hb
    · exact .inl (by simp)
    · obtain rfl := List.mem_singleton.mp hb
      exact .inr ⟨o, Heap.get?_push_of_some _ (Heap.get?_push_of_some _ eo), .inr ⟨hd, ex.1, es, ep, hdd⟩⟩
  · obtain ⟨k, hk⟩ := hv
    rw [Nat.zero_add] at hk
    obtain ⟨m, t, h3, rfl⟩ := K.at hk
    unfold valuesD at hj
    rw [List.getElem?_map, h3] at hj
    obtain rfl := Option.some.inj hj
    exact .int _ _
  · obtain rfl := List.mem_singleton.mp hb
    exact g1.kp.none (Heap.get?_none_of_le (Nat.le_refl _))
/-- what a dict has at a text that is in it -/
theorem item_dict {G : GC} {A : Around} {ds : List (Str × Int)} {k : Str} {m : Int} (h : (ds.find? fun p => p.1 = k).map (·.2) = some m) : ItemOK G A (.dict G.prog G.w ds) (.str k) (.int m) := fun X s v u st _ r1 r2 Q E hq => by
  obtain ⟨d, kvs, rfl, hd, hsm, D, K⟩ := r1.dict'
  obtain ⟨t, rfl⟩ := r2.str'
  obtain ⟨t', e⟩ := K.get (k := k) (n := 0) (t := 0)
  have hv : ∃ t', valueAt kvs k = some (.int m t') := by
    have : ∀ {kvs : List (Str × Value)} {ds : List (Str × Int)}, KV kvs ds → (ds.find? fun p => p.1 = k).map (·.2) = some m → ∃ t', valueAt kvs k = some (.int m t') := by
      intro kvs
      induction kvs with
      | nil => intro ds hk hf; cases ds with
        | nil => simp at hf
        | cons _ _ => exact hk.elim
      | cons p r ih =>
        intro ds hk hf
        obtain ⟨a, v⟩ := p
        cases ds with
        | nil => exact hk.elim
        | cons q s =>
          obtain ⟨b, n⟩ := q
          obtain ⟨rfl, ⟨t, rfl⟩, hk⟩ := hk
          unfold valueAt
          rw [List.find?_cons] at hf ⊢
          by_cases e : a = k
          · simp only [e, decide_true, Option.map_some, Option.some.injEq] at hf ⊢
            exact ⟨t, by rw [hf]⟩
          · simp only [e, decide_false] at hf ⊢
            exact ih hk hf
    exact this K h
  obtain ⟨t2, hv⟩ := hv
  exact wpAny_getItem_of (strKind_is _ _ k t) D.mapOf hv (hq _ s.heap _ (.refl st) (.int _ _))
end
end Mine
end

section
open PySem PySem.Calls PyProof.Rows PySem.W
namespace Mine
section
variable {F : FC} {ρ ρ0 : List Sl} {n : Nat}
/-- what no frame speaks of turns -/
theorem loose_step {hb h h' : Heap} {wr : List Addr} (X : Asr F ρ h) (S : Stp F ρ0 ρ hb h) (m : Moves wr h h') (hl : ∀ b ∈ wr, Loose F hb h b) : Asr F ρ h' ∧ Stp F ρ0 ρ hb h' := by
  refine ⟨X.moved m (fun b hb' => (hl b hb').2.1) (fun b hb' => (hl b hb').2.2.1) fun b hb' q => ?_, fun b o hv e => ?_, fun b o e => ?_, S.own⟩
  · obtain ⟨_, _, _, h4, o, e, nt⟩ := hl b hb'
    rcases List.mem_append.mp q with q | q
    · exact h4 q
    · obtain ⟨ob, e', _, nn, _⟩ := X.own_plain q
      rw [e] at e'; cases e'; exact nn nt
  · exact (S.kept b o hv e).next fun p e' => .inl (m.others b p (fun q => by rw [(hl b q).1] at e; cases e) e')
  · obtain ⟨o', e'⟩ := S.live b o e
    exact ⟨o', m.others b o' (fun q => by rw [(hl b q).1] at e; cases e) e'⟩
theorem slots_grow {h h' : Heap} {fs : List Env} (X : Asr F ρ h) (hfs : F.A.frames = some fs) (x : Heap.SlotsOnly (fs.filterMap (·.frame)) h h') : Grow F.G h h' := by
  obtain ⟨fs', e, q, r⟩ := X.frs
  rw [hfs] at e; cases e
  have kp : Kp h h' := fun b o eb => by
    by_cases hm : b ∈ fs.filterMap (·.frame)
    · obtain ⟨o', _, _, e1, c, _⟩ := r b hm
      rw [eb] at e1; cases e1
      exact .inr (.inl ⟨c, x.2.2 b o eb⟩)
    · exact .inl ((x.2.1 b hm).trans eb)
  have nf : ∀ b o, h.get? b = some o → o.cls ≠ .type "frame" → h'.get? b = some o := fun b o eb c => by
    refine (x.2.1 b fun hm => ?_).trans eb
    obtain ⟨o', _, _, e1, c', _⟩ := r b hm
    rw [eb] at e1; cases e1; exact c c'
  refine ⟨kp, fun b o eb => ?_, ?_⟩
  · exact (x.2.1 b fun hm => by rw [(q.mem hm).1] at eb; cases eb).trans (X.stays.stays b o eb)
  · obtain ⟨ps, a, b, c⟩ := X.stays.tab
    refine ⟨ps, nf _ _ a (by intro q; cases q), b, c.imp id fun ⟨v, e, c2, o, vs, tq, e1, e2, e3, e4⟩ => ⟨v, e, c2, o, vs, tq, e1, ?_, e3, e4⟩⟩
    refine (x.2.1 _ fun hm => ?_).trans e2
    obtain ⟨o', es, ep, k1, _, k3⟩ := r _ hm
    rw [e2] at k1; cases k1; rw [e3] at k3; cases k3

theorem note_exc {s : Shared} {hb : Heap} {e : Addr} {T : String} {Q : Unit → Shared → Prop} {E : Value → Shared → Prop} (hF : F.Ok n) (X : Asr F ρ s.heap) (S : Stp F ρ0 ρ hb s.heap) (x : ExcIn F hb s.heap e T) (hT : ["frame", "tuple", "list", "dict"].contains (exCls T) = false)
    (hq : ∀ h' oe vs L tb otb tvs, Asr F ρ h' → Stp F ρ0 ρ hb h' → Loose F hb h' e → h'.get? e = some oe → oe.cls = .type (exCls T) → oe.data = .fields vs → 5 ≤ vs.size → (T ≠ "IndexError*" → vs[2]? = some .none) → F.env.frame = some L → vs[1]? = some (.ref tb) → tb ≠ e → Loose F hb h' tb → h'.get? tb = some otb → otb.data = .fields tvs → 5 ≤ tvs.size → tvs[3]? = some (rawInt L) → Q () { s with heap := h' }) :
    wpAny (model F.G.prog F.G.w) F.A (noteFrame (.ref e) F.env) Q E s := by
  obtain ⟨le, oe, vs, he, hc, hd, hsz, hv2, hcase⟩ := x
  rcases hcase with h1 | ⟨L, tb, otb, tvs, hf, h1, hne, lt, htb, hdt, htz, h3⟩
  · obtain ⟨e0, outer, L, hfr, hf0, hf⟩ := hF.top
    obtain ⟨fs', efs, ff, fd⟩ := X.frs
    rw [hfr] at efs; cases efs
    unfold noteFrame
    simp only [hf]
    refine wpAny_bind (wpAny_field he hd h1 ?_)
    rw [if_neg (by decide)]
    unfold PySem.frameOf
    refine wpAny_bind (wpAny_bind (wpAny_frameEnvs hfr ?_))
    have hdw : ((e0 :: outer).dropWhile fun x => x.frame != F.env.frame) = e0 :: outer := by simp [List.dropWhile, hf0]
    rw [hdw]
    unfold frameObject
    refine wpAny_bind (wpAny_bind (wpAny_readyFrames_fun ff fun h₁ hs₁ => wpAny_pure ?_))
    rw [show e0.frame = some L from hf0.trans hf]
    refine wpAny_pure ?_
    refine wpAny_bind (wpAny_entryPlaceOf fun pl hpl => ?_)
    unfold EntryCells.newEntry newFields
    refine wpAny_bind (wpAny_newObj_type ?_ (hpl.sizeOk5 _ _ _ _ _))
    have G1 := slots_grow X hfr hs₁
    have hTs : h₁.objs.size = s.heap.objs.size := hs₁.1
    have oT : (h₁.push { cls := .type "traceback", dict := none, data := .fields ([Value.none, .ref L, .none, rawInt L, .none] ++ (if pl.isEmpty then List.replicate 6 Value.none else pl)).toArray }).get? h₁.objs.size = some { cls := .type "traceback", dict := none, data := .fields ([Value.none, .ref L, .none, rawInt L, .none] ++ (if pl.isEmpty then List.replicate 6 Value.none else pl)).toArray } := Heap.get?_push_size _ rfl
    have G2 : Grow F.G h₁ (h₁.push { cls := .type "traceback", dict := none, data := .fields ([Value.none, .ref L, .none, rawInt L, .none] ++ (if pl.isEmpty then List.replicate 6 Value.none else pl)).toArray }) := .push G1.stays _
    generalize hob : ({ cls := .type "traceback", dict := none, data := .fields ([Value.none, .ref L, .none, rawInt L, .none] ++ (if pl.isEmpty then List.replicate 6 Value.none else pl)).toArray } : Obj) = ob at oT G2 ⊢
    have dT : ∃ ts, ob.data = .fields ts ∧ ob.cls = .type "traceback" ∧ 5 ≤ ts.size ∧ ts[1]? = some (.ref L) ∧ ts[3]? = some (rawInt L) := by
      subst hob
      exact ⟨_, rfl, rfl, by simp, by simp, by simp⟩
    obtain ⟨ts, dT1, dT2, dT3, dT4, dT5⟩ := dT
    generalize h₁.push ob = h2 at oT G2 ⊢
    have X2 := (X.grow G1).grow G2
    have S2 := (S.trans (Stp.of_grow G1)).trans (Stp.of_grow G2)
    have fT : s.heap.get? h₁.objs.size = none := Heap.get?_none_of_le (Nat.le_of_eq hTs.symm)
    obtain ⟨l1, l2, l3, l4, oe', le', nt⟩ := le
    rw [he] at le'; cases le'
    have he2 : h2.get? e = some oe := G2.kp.same (G1.kp.same he nt.plain) nt.plain
    have hTe : h₁.objs.size ≠ e := fun q => by rw [q, he] at fT; cases fT
    refine wpAny_setField he2 hd (by lia) ?_
    have hself := Heap.get?_update_self (Obj.mapFields (·.setIfInBounds 1 (Value.ref h₁.objs.size))) he2 (Obj.isFreed_of_fields (Obj.data_mapFields hd _))
    have hoth : ∀ b, b ≠ e → (h2.update e (Obj.mapFields (·.setIfInBounds 1 (Value.ref h₁.objs.size)))).get? b = h2.get? b := fun b hb => Heap.get?_update_other _ _ (Ne.symm hb)
    generalize h2.update e (Obj.mapFields (·.setIfInBounds 1 (Value.ref h₁.objs.size))) = h3 at hself hoth ⊢
    have mv : Moves [e] h2 h3 := ⟨fun b o hb eb => (hoth b (by simpa using hb)).trans eb, fun b hb => by obtain rfl := List.mem_singleton.mp hb; exact ⟨oe, he2, nt⟩⟩
    obtain ⟨X3, S3⟩ := loose_step X2 S2 mv fun b hb => by obtain rfl := List.mem_singleton.mp hb; exact ⟨l1, l2, l3, l4, oe, he2, nt⟩
    have d3 := Obj.data_mapFields hd (·.setIfInBounds 1 (Value.ref h₁.objs.size))
    have nT : Neut ob := ⟨"traceback", ts, dT2, by decide, dT1, fun q t h => by rw [dT4] at h; cases h⟩
    have lT : Loose F hb h3 h₁.objs.size := by
      refine ⟨?_, ?_, ?_, fun q => ?_, ob, (hoth _ hTe).trans oT, nT⟩
      · cases q : hb.get? h₁.objs.size with
        | none => rfl
        | some o => obtain ⟨o', e'⟩ := S.live _ o q; rw [fT] at e'; cases e'
      · cases q : F.G.B.get? h₁.objs.size with
        | none => rfl
        | some o => have := X.stays.stays _ o q; rw [fT] at this; cases this
      · by_cases hP : h₁.objs.size ∈ F.P
        · exact .inr hP
        · cases q : F.h0.get? h₁.objs.size with
          | none => exact .inl rfl
          | some o => obtain ⟨o', e'⟩ := X.kept.live hP q; rw [fT] at e'; cases e'
      · obtain ⟨o, e'⟩ := X.dom _ (List.mem_append_left _ q)
        rw [fT] at e'; cases e'
    have lE : Loose F hb h3 e := ⟨l1, l2, l3, l4, _, hself, exCls T, _, (Obj.cls_mapFields ..).trans hc, hT, d3, fun q t h => by
      rw [Array.getElem?_setIfInBounds_self_of_lt (by lia)] at h; cases h⟩
    exact hq h3 _ _ L h₁.objs.size ob ts X3 S3 lE hself ((Obj.cls_mapFields ..).trans hc) d3 (by simpa using hsz) (by rw [Array.getElem?_setIfInBounds_ne (by decide)]; exact hv2) hf (by rw [Array.getElem?_setIfInBounds_self_of_lt (by lia)]) hTe lT ((hoth _ hTe).trans oT) dT1 dT3 dT5
  · unfold noteFrame
    simp only [hf]
    refine wpAny_bind (wpAny_field he hd h1 ?_)
    rw [if_pos (show (Value.ref tb != Value.none) = true from by simp)]
    refine wpAny_bind (wpAny_field htb hdt h3 ?_)
    rw [if_pos (show (rawInt L == rawInt L) = true from by first | (simp; done) | exact beq_self_eq_true _)]
    exact wpAny_pure (hq s.heap oe vs L tb otb tvs X S le he hc hd hsz hv2 hf h1 hne lt htb hdt htz h3)
end
end Mine
namespace Mine
section
variable {F : FC} {ρ ρ0 : List Sl} {n : Nat}
/-- the traceback's flight is set -/
theorem flight_set {s : Shared} {hb : Heap} {e tb : Addr} {oe otb : Obj} {vs tvs : Array Value} {fl : Option Addr} {Q : Unit → Shared → Prop} {E : Value → Shared → Prop} (X : Asr F ρ s.heap) (S : Stp F ρ0 ρ hb s.heap)
    (he : s.heap.get? e = some oe) (hd : oe.data = .fields vs) (h1 : vs[1]? = some (.ref tb)) (hne : tb ≠ e) (lt : Loose F hb s.heap tb) (htb : s.heap.get? tb = some otb) (hdt : otb.data = .fields tvs) (htz : 5 ≤ tvs.size)
    (hq : ∀ h' otb', Asr F ρ h' → Stp F ρ0 ρ hb h' → (∀ b, b ≠ tb → h'.get? b = s.heap.get? b) → Loose F hb h' tb → h'.get? tb = some otb' → otb'.data = .fields (tvs.setIfInBounds 3 (fl.elim .none fun f => rawInt f)) → Q () { s with heap := h' }) :
    wpAny (model F.G.prog F.G.w) F.A (setFlight (.ref e) fl) Q E s := by
  unfold setFlight
  refine wpAny_bind (wpAny_field he hd h1 ?_)
  rw [if_pos (show (Value.ref tb != Value.none) = true from by simp)]
  refine wpAny_setField htb hdt (by lia) ?_
  have hself := Heap.get?_update_self (Obj.mapFields (·.setIfInBounds 3 (fl.elim Value.none fun f => rawInt f))) htb (Obj.isFreed_of_fields (Obj.data_mapFields hdt _))
  have hoth : ∀ b, b ≠ tb → (s.heap.update tb (Obj.mapFields (·.setIfInBounds 3 (fl.elim Value.none fun f => rawInt f)))).get? b = s.heap.get? b := fun b hb => Heap.get?_update_other _ _ (Ne.symm hb)
  generalize s.heap.update tb (Obj.mapFields (·.setIfInBounds 3 (fl.elim Value.none fun f => rawInt f))) = h3 at hself hoth ⊢
  obtain ⟨l1, l2, l3, l4, o, eo, nt⟩ := lt
  rw [htb] at eo; cases eo
  have mv : Moves [tb] s.heap h3 := ⟨fun b o hb eb => (hoth b (by simpa using hb)).trans eb, fun b hb => by obtain rfl := List.mem_singleton.mp hb; exact ⟨_, htb, nt⟩⟩
  obtain ⟨X3, S3⟩ := loose_step X S mv fun b hb => by obtain rfl := List.mem_singleton.mp hb; exact ⟨l1, l2, l3, l4, _, htb, nt⟩
  have d3 := Obj.data_mapFields hdt (·.setIfInBounds 3 (fl.elim Value.none fun f => rawInt f))
  obtain ⟨T, vs', hc, hT, hd', hn⟩ := nt
  rw [hdt] at hd'; cases hd'
  exact hq h3 _ X3 S3 hoth ⟨l1, l2, l3, l4, _, hself, T, _, (Obj.cls_mapFields ..).trans hc, hT, d3, fun q t h => by
    rw [Array.getElem?_setIfInBounds_ne (by decide)] at h; exact hn q t h⟩ hself d3
/-- an exception comes out of a loop -/
theorem loop_exc {s : Shared} {hb : Heap} {e : Addr} {T : String} {E : Value → Shared → Prop} (hF : F.Ok n) (X : Asr F ρ s.heap) (S : Stp F ρ0 ρ hb s.heap) (x : ExcIn F hb s.heap e T) (hT : ["frame", "tuple", "list", "dict"].contains (exCls T) = false)
    (he : ∀ h', Asr F ρ h' → Stp F ρ0 ρ hb h' → ExcIn F hb h' e T → E (.ref e) { s with heap := h' }) :
    notedBy (model F.G.prog F.G.w) F.A F.env (fun e s' => cameBackBy (model F.G.prog F.G.w) F.A F.env E e s') (.ref e) s := by
  refine note_exc hF X S x hT fun h' oe vs L tb otb tvs X' S' le eo hc hd hsz h2 hf h1 hne lt htb hdt htz h3 => ?_
  show wpAny _ _ (field (Value.ref e) 1 >>= _) _ _ _
  refine wpAny_bind (wpAny_field (s := { s with heap := h' }) eo hd h1 ?_)
  rw [if_neg (show ¬ (Value.ref tb == Value.none) = true from by simp)]
  rw [hf]
  refine flight_set (s := { s with heap := h' }) X' S' eo hd h1 hne lt htb hdt htz fun h2' otb' X2 S2 hoth lt2 ht2 hd2 => he h2' X2 S2 ?_
  obtain ⟨l1, l2, l3, l4, o, el, nt⟩ := le
  have e2 := (hoth e hne.symm).trans eo
  rw [eo] at el; cases el
  refine ⟨⟨l1, l2, l3, l4, _, e2, nt⟩, oe, vs, e2, hc, hd, hsz, h2, .inr ⟨L, tb, otb', _, hf, h1, hne, lt2, ht2, hd2, by simpa using htz, ?_⟩⟩
  rw [Array.getElem?_setIfInBounds_self_of_lt (by lia)]; rfl
end
end Mine
end

section
open PySem PySem.Calls PyProof.Rows PySem.W
namespace Mine
section
variable {F : FC} {ρ : List Sl} {n : Nat} {Φ : Fl → List Sl → Prop} {Θ : String → List Sl → Prop}
/-- an expression raises -/
noncomputable def EvR (F : FC) (ρ : List Sl) (e : PySem.Expr) (T : String) : Prop := ∀ s, Asr F ρ s.heap → ∀ (Q : Value → Shared → Prop) (E : Value → Shared → Prop),
  (∀ h' tk' x, Grow F.G s.heap h' → ExcIn F s.heap h' x T → E (.ref x) { s with heap := h', toks := tk' }) → wpAny (model F.G.prog F.G.w) F.A (eval e F.env) Q E s
theorem exc_new {h h₁ h' : Heap} {x : Addr} {T : String} (X : Asr F ρ h₁) (lv : ∀ b o, h.get? b = some o → ∃ o', h₁.get? b = some o') (hx : Heap.NewExc h₁ h' x T) (hT : ["frame", "tuple", "list", "dict"].contains T = false) (hs : exCls T = T := by decide) : ExcIn F h h' x T := by
  obtain ⟨ob, t, e1, e2, e3⟩ := hx.there
  refine ⟨⟨?_, ?_, ?_, fun q => ?_, ob, e1, T, _, e2, hT, e3, by simp⟩, ob, _, e1, e2.trans (congrArg _ hs.symm), e3, by simp, fun _ => rfl, .inl rfl⟩
  · cases q : h.get? x with
    | none => rfl
    | some o => obtain ⟨o', e'⟩ := lv _ o q; rw [hx.new] at e'; cases e'
  · cases q : F.G.B.get? x with
    | none => rfl
    | some o => have := X.stays.stays _ o q; rw [hx.new] at this; cases this
  · by_cases hP : x ∈ F.P
    · exact .inr hP
    · cases q : F.h0.get? x with
      | none => exact .inl rfl
      | some o => obtain ⟨o', e'⟩ := X.kept.live hP q; rw [hx.new] at e'; cases e'
  · obtain ⟨o, e'⟩ := X.dom _ (List.mem_append_left _ q)
    rw [hx.new] at e'; cases e'
theorem EvR.item_out {e i : PySem.Expr} {pos : Pos} {l : List Dt} {k : Nat} (hF : F.Ok n) (h1 : Ev F ρ e (.list l)) (h2 : Ev F ρ i (.int k)) (hk : l.length ≤ k) (hk2 : k ≤ 1000) (hs : ∀ o k, ∃ ops, subscripted i false o k = operate ops (getItem o k) := by intro _ _; exact ⟨_, rfl⟩) (hq0 : F.hd = false := by rfl) : EvR F ρ (.Subscript e i pos) "IndexError" := by
  intro s X Q E hq
  refine Subscript_ (h1 s X _ _ fun v h1' tk1 g1 r1 => h2 _ (X.grow g1) _ _ fun u h2' tk2 g2 r2 => ?_)
  obtain ⟨ops, hs⟩ := hs v u
  obtain ⟨al, ws, rfl, ha, L, R⟩ := (r1.kp g2.kp).list'
  obtain ⟨t, rfl⟩ := r2.int'
  refine tail_any (T := "list") L.isList.typeIs list_getitem_lookup (wpAny_getItem_list_out (s := { s with heap := h2', toks := tk2 }) (hF.hand hq0) L.isList (.inr ?_) (by lia) (by lia) fun h' tk x hx => ?_) hs
  · simp [R.length]; lia
  · have g3 : Grow F.G h2' h' := .of_keep g2.stays hx.keeps
    exact hq h' tk x ((g1.trans g2).trans g3) (exc_new ((X.grow g1).grow g2) (fun b o e => (g1.trans g2).kp.live e) hx (by decide))
theorem Ex1.assign_raise {x : Str} {e : PySem.Expr} {np pos : Pos} {T : String} (he : EvR F ρ e T) (hΘ : Θ T ρ) (hs : swapsWith e (some (.Name x np)) pos.line F.env = pure false := by rfl) : Ex1 F ρ (.Assign [.Name x np] e pos) Φ Θ := by
  intro s X Q E _ hE
  exact wpAny_Assign_Name (he s X _ _ fun h' tk' x g ex => hE T x h' tk' ρ hΘ (X.grow g) ex (.of_grow g)) hs
/-- a test raises -/
noncomputable def TrR (F : FC) (ρ : List Sl) (e : PySem.Expr) (T : String) : Prop := ∀ s, Asr F ρ s.heap → ∀ (Q : Bool → Shared → Prop) (E : Value → Shared → Prop),
  (∀ h' tk' x, Grow F.G s.heap h' → ExcIn F s.heap h' x T → E (.ref x) { s with heap := h', toks := tk' }) → wpAny (model F.G.prog F.G.w) F.A (isTrue e F.env (eval e F.env)) Q E s
theorem TrR.cmp {l r : PySem.Expr} {op : CmpOp} {pos : Pos} {T : String} (h : EvR F ρ l T) (hm : behindInMarks op r = false := by rfl) : TrR F ρ (.Compare l [op] [r] pos) T := fun s X Q E hq =>
  wpAny_isTrue_Compare1 (h s X _ _ hq) hm
/-- a while loop, whose test or body may raise at the turn m; a body may break there -/
theorem Ex1.while_exc {test : PySem.Expr} {body : List Stmt} {pos : Pos} {I : Nat → List Sl} {m : Nat} (hF : F.Ok n) (h0 : I 0 = ρ) (hb : ∀ k, k < m → Tr F (I k) test true ∧ Ex F (I k) body fun fl r => (fl = .next ∨ fl = .cont) ∧ Wk r (I (k + 1)))
    (hTh : ∀ T r, Θ T r → ["frame", "tuple", "list", "dict"].contains (exCls T) = false)
    (hend : (Tr F (I m) test false ∧ Φ .next (I m)) ∨ (∃ T, TrR F (I m) test T ∧ Θ T (I m)) ∨ (Tr F (I m) test true ∧ Ex F (I m) body (fun fl r => (fl = .brk ∧ Φ .next r)) Θ)) : Ex1 F ρ (.While test body [] pos) Φ Θ := by
  subst h0
  intro s X Q E hq hE
  refine wpAny_While ?_
  refine codeAny_whileLoop (fun j s' => ∃ k h tk, j = m - k ∧ k ≤ m ∧ s' = { s with heap := h, toks := tk } ∧ Asr F (I k) h ∧ Stp F (I 0) (I k) s.heap h) (fun j s' hI => ?_) m ⟨0, s.heap, s.toks, by lia, by lia, rfl, X, .refl X⟩
  obtain ⟨k, h, tk, rfl, hk, rfl, Xk, Sk⟩ := hI
  have out : ∀ {ρ' : List Sl} {T : String} {x : Addr} {h' : Heap} {tk' : Nat}, Θ T ρ' → Asr F ρ' h' → Stp F (I 0) ρ' s.heap h' → ExcIn F s.heap h' x T →
      notedBy (model F.G.prog F.G.w) F.A F.env (fun e s' => cameBackBy (model F.G.prog F.G.w) F.A F.env E e s') (.ref x) { s with heap := h', toks := tk' } := fun {ρ' T x h' tk'} hΘ X' S' ex =>
    loop_exc (s := { s with heap := h', toks := tk' }) hF X' S' ex (hTh T ρ' hΘ) fun h2 X2 S2 ex2 => hE T x h2 tk' ρ' hΘ X2 ex2 S2
  by_cases hlt : k < m
  · obtain ⟨ht, hbd⟩ := hb k hlt
    refine ht { s with heap := h, toks := tk } Xk _ _ fun h1 tk1 g1 => ?_
    refine hbd { s with heap := h1, toks := tk1 } (Xk.grow g1) _ _ (fun f h2 tk2 fl ρ' hΦ X2 hf S2 => ?_) fun _ _ _ _ _ q => q.elim
    obtain ⟨hfl, w⟩ := hΦ
    have fin : ∃ j, j < m - k ∧ ∃ k h tk, j = m - k ∧ k ≤ m ∧ ({ s with heap := h2, toks := tk2 } : Shared) = { s with heap := h, toks := tk } ∧ Asr F (I k) h ∧ Stp F (I 0) (I k) s.heap h :=
      ⟨m - (k + 1), by lia, k + 1, h2, tk2, rfl, by lia, rfl, X2.weak w, ((Sk.trans (Stp.of_grow g1)).trans S2).weakR w⟩
    rcases hfl with rfl | rfl <;> cases f <;> first | exact hf.elim | exact fin
  · have : k = m := by lia
    subst this
    rcases hend with ⟨ht, hΦ⟩ | ⟨T, ht, hΘ⟩ | ⟨ht, hbd⟩
    · refine ht { s with heap := h, toks := tk } Xk _ _ fun h1 tk1 g1 => ?_
      exact wpAny_execs_nil (hq .next h1 tk1 .next _ hΦ (Xk.grow g1) trivial (Sk.trans (Stp.of_grow g1)))
    · exact ht { s with heap := h, toks := tk } Xk _ _ fun h1 tk1 x g1 ex => out hΘ (Xk.grow g1) (Sk.trans (Stp.of_grow g1)) (ex.base Sk.live)
    · refine ht { s with heap := h, toks := tk } Xk _ _ fun h1 tk1 g1 => ?_
      have S1 := Sk.trans (Stp.of_grow g1)
      refine hbd { s with heap := h1, toks := tk1 } (Xk.grow g1) _ _ (fun f h2 tk2 fl ρ' hΦ X2 hf S2 => ?_) fun T x h2 tk2 ρ' hΘ X2 ex S2 => out hΘ X2 (S1.trans S2) (ex.base S1.live)
      obtain ⟨rfl, hΦ⟩ := hΦ
      cases f <;> try exact hf.elim
      exact hq .next h2 tk2 .next _ hΦ X2 trivial (S1.trans S2)
end
end Mine
end

section
open PySem PySem.Calls PyProof.Rows PySem.W
namespace Mine
/-- the frame while it handles an exception -/
noncomputable def FC.mark (F : FC) (e : Addr) : FC := { F with A := F.A.mark (some (.ref e)), hd := true }
section
variable {F : FC} {ρ : List Sl} {n : Nat} {Φ : Fl → List Sl → Prop} {Θ : String → List Sl → Prop}
theorem FC.Ok.mark (hF : F.Ok n) (e : Addr) : (F.mark e).Ok n := ⟨hF.scope, hF.kind, hF.globs, hF.builtins, nofun, hF.depth, hF.units, hF.nolimit, hF.nodup, hF.nodebug, hF.locB, hF.loc0, hF.cells, hF.cs, hF.apart, hF.sets, hF.gls, hF.top⟩
theorem Asr.mark {h : Heap} {e : Addr} (X : Asr F ρ h) : Asr (F.mark e) ρ h := ⟨X.stays, X.kept, X.frs, X.loc, X.cells, X.nodup, X.apart, X.fresh, X.dom, .of_get fun i x sl e1 e2 => by have := X.sls.get e1 e2; cases sl <;> exact this, X.len⟩
theorem Asr.unmark {h : Heap} {e : Addr} (X : Asr (F.mark e) ρ h) : Asr F ρ h := ⟨X.stays, X.kept, X.frs, X.loc, X.cells, X.nodup, X.apart, X.fresh, X.dom, .of_get fun i x sl e1 e2 => by have := X.sls.get e1 e2; cases sl <;> exact this, X.len⟩
theorem name_glob_m {j : Nat} {f : Str} {fv : Value} {pos : Pos} {e : Addr} {s : Shared} {Q : Value → Shared → Prop} {E : Value → Shared → Prop} (hF : F.Ok n) (hg : F.gls[j]? = some (f, fv)) (st : In F.G s.heap) (h : Q fv s) :
    wpAny (model F.G.prog F.G.w) (F.A.mark (some (.ref e))) (eval (.Name f pos) F.env) Q E s := name_glob (F := F.mark e) (hF.mark e) hg st h
/-- a try that catches what its body raises -/
theorem Ex1.try_catch {body : List Stmt} {b₀ : Stmt} {suite : List Stmt} {hpos pos npos : Pos} {x : Str} {T : String} {j : Nat} {Ψ : List Sl → Prop} (hF : F.Ok n) (hg : F.gls[j]? = some (x, .type T)) (hT : ["frame", "tuple", "list", "dict"].contains T = false)
    (hexc : isSubtype (.type T) (.type "BaseException") = pure true) (hnt : isSubtype (.type ((Manifest.find? T).elim "type" fun x => x.metatype)) (.type "tuple") = pure false) (hsub : isSubtype (.type T) (.type T) = pure true)
    (hb : Ex F ρ body Φ fun T' r => exCls T' = T ∧ Ψ r) (hh : ∀ e r, Ψ r → Ex (F.mark e) r (b₀ :: suite) Φ) : Ex1 F ρ (.Try body [.ExceptHandler (some (.Name x npos)) none (b₀ :: suite) hpos] [] [] pos) Φ Θ := by
  intro s X Q E hq hE
  refine wpAny_Try_except (hb s X _ _ (fun f h' tk' fl ρ' a b c d => ?_) fun T' e h1 tk1 r ⟨hT', hΨ⟩ X1 ex S1 => ?_)
  · have := hq f h' tk' fl ρ' a b c d
    cases f <;> first | exact wpAny_execs_nil this | exact this
  · subst hT'
    refine note_exc (s := { s with heap := h1, toks := tk1 }) hF X1 S1 ex hT fun h2 oe vs L tb otb tvs X2 S2 le eo hc hd hsz hv2 hf h1' hne lt htb hdt htz h3 => ?_
    refine flight_set (s := { s with heap := h2, toks := tk1 }) (fl := none) X2 S2 eo hd h1' hne lt htb hdt htz fun h3' otb' X3 S3 hoth lt3 ht3 hd3 => ?_
    have eo3 := (hoth e hne.symm).trans eo
    refine wpAny_handleBy_builtin hexc hnt hsub ?_
    refine name_glob_m (s := { s with heap := h3', toks := tk1 }) (e := e) hF hg X3.stays ⟨rfl, ⟨oe, eo3, hc⟩, ?_⟩
    rw [if_pos rfl]
    refine flight_set (F := F.mark e) (s := { s with heap := h3', toks := tk1 }) (fl := none) X3.mark ⟨S3.kept, S3.live, S3.own⟩ eo3 hd h1' hne lt3 ht3 hd3 (by simpa using htz) fun h4 otb4 X4 S4 _ _ _ _ => ?_
    refine hh e r hΨ { s with heap := h4, toks := tk1 } X4 _ _ (fun f h' tk' fl ρ' a b c d => ?_) fun _ _ _ _ _ q => q.elim
    exact hq f h' tk' fl ρ' a b.unmark c ((show Stp F ρ r s.heap h4 from ⟨S4.kept, S4.live, S4.own⟩).trans ⟨d.kept, d.live, d.own⟩)
/-- a while loop by a word of its state, that falls at each turn -/
theorem Ex1.while_inv {test : PySem.Expr} {body : List Stmt} {pos : Pos} (Inv : Nat → List Sl → Prop) (m : Nat) (hF : F.Ok n) (h0 : Inv m ρ) (hTh : ∀ T r, Θ T r → ["frame", "tuple", "list", "dict"].contains (exCls T) = false)
    (hb : ∀ j r, Inv j r → (Tr F r test false ∧ Φ .next r) ∨ (Tr F r test true ∧ Ex F r body (fun fl r' => match fl with | .next => ∃ j', j' < j ∧ ∃ r2, Wk r' r2 ∧ Inv j' r2 | .cont => ∃ j', j' < j ∧ ∃ r2, Wk r' r2 ∧ Inv j' r2 | .brk => Φ .next r' | .ret d => Φ (.ret d) r') Θ)) : Ex1 F ρ (.While test body [] pos) Φ Θ := by
  intro s X Q E hq hE
  refine wpAny_While ?_
  refine codeAny_whileLoop (fun j s' => ∃ r h tk, Inv j r ∧ s' = { s with heap := h, toks := tk } ∧ Asr F r h ∧ Stp F ρ r s.heap h) (fun j s' hI => ?_) m ⟨ρ, s.heap, s.toks, h0, rfl, X, .refl X⟩
  obtain ⟨r, h, tk, hi, rfl, Xk, Sk⟩ := hI
  have out : ∀ {ρ' : List Sl} {T : String} {x : Addr} {h' : Heap} {tk' : Nat}, Θ T ρ' → Asr F ρ' h' → Stp F ρ ρ' s.heap h' → ExcIn F s.heap h' x T →
      notedBy (model F.G.prog F.G.w) F.A F.env (fun e s' => cameBackBy (model F.G.prog F.G.w) F.A F.env E e s') (.ref x) { s with heap := h', toks := tk' } := fun {ρ' T x h' tk'} hΘ X' S' ex =>
    loop_exc (s := { s with heap := h', toks := tk' }) hF X' S' ex (hTh T ρ' hΘ) fun h2 X2 S2 ex2 => hE T x h2 tk' ρ' hΘ X2 ex2 S2
  rcases hb j r hi with ⟨ht, hΦ⟩ | ⟨ht, hbd⟩
  · refine ht { s with heap := h, toks := tk } Xk _ _ fun h1 tk1 g1 => ?_
    exact wpAny_execs_nil (hq .next h1 tk1 .next _ hΦ (Xk.grow g1) trivial (Sk.trans (Stp.of_grow g1)))
  · refine ht { s with heap := h, toks := tk } Xk _ _ fun h1 tk1 g1 => ?_
    have S1 := Sk.trans (Stp.of_grow g1)
    refine hbd { s with heap := h1, toks := tk1 } (Xk.grow g1) _ _ (fun f h2 tk2 fl ρ' hΦ X2 hf S2 => ?_) fun T x h2 tk2 ρ' hΘ X2 ex S2 => out hΘ X2 (S1.trans S2) (ex.base S1.live)
    have back : (∃ j', j' < j ∧ ∃ r2, Wk ρ' r2 ∧ Inv j' r2) → ∃ m, m < j ∧ ∃ r h tk, Inv m r ∧ ({ s with heap := h2, toks := tk2 } : Shared) = { s with heap := h, toks := tk } ∧ Asr F r h ∧ Stp F ρ r s.heap h := fun ⟨j', hj, r2, w, hi2⟩ => ⟨j', hj, r2, h2, tk2, hi2, rfl, X2.weak w, (S1.trans S2).weakR w⟩
    cases fl with
    | next => cases f <;> first | exact hf.elim | exact back hΦ
    | cont => cases f <;> first | exact hf.elim | exact back hΦ
    | brk => cases f <;> first | exact hf.elim | exact hq .next h2 tk2 .next _ hΦ X2 trivial (S1.trans S2)
    | ret d => cases f <;> first | exact hf.elim | exact hq _ h2 tk2 (.ret d) _ hΦ X2 hf (S1.trans S2)
end
end Mine
end

section
open PySem PySem.Calls PyProof.Rows PySem.W
namespace Mine
theorem entry_unchain : entryFor table "proto.unchain" = some Builtin.«proto.unchain» := entryFor_of_fast (by kernel_rfl)
section
variable {α : Type} {prog : Program} {w : World} {A : Around} {E : Value → Shared → Prop} {s : Shared}
/-- a new exception, while one is handled that has none behind it -/
theorem raiseNew_h {e h0 : Addr} {oe o0 : Obj} {ve v0 : Array Value} {Q : α → Shared → Prop} (hh : A.handled = some (.ref h0)) (hne : h0 ≠ e) (ho : s.heap.get? h0 = some o0) (hd0 : o0.data = .fields v0) (h2 : v0[2]? = some .none)
    (he : s.heap.get? e = some oe) (hde : oe.data = .fields ve) (hsz : 2 < ve.size) (h : E (.ref e) { s with heap := s.heap.update e (Obj.mapFields (·.setIfInBounds 2 (.ref h0))) }) : wpAny (model prog w) A (raiseNew (.ref e) : Sem α) Q E s := by
  unfold raiseNew
  refine wpAny_bind (wpAny_handled ?_)
  rw [hh]
  have hb : (Value.ref h0 != Value.ref e) = true := by simp [hne]
  simp only [hb, if_true]
  refine wpAny_bind (wpAny_holding (wpAny_runValue (codeAny_builtin entry_unchain ?_)))
  unfold Builtin.«proto.unchain»
  refine wpAny_bind (wpAny_field ho hd0 h2 ?_)
  simp only [beq_self_eq_true, if_true]
  refine wpAny_pure ?_
  show wpAny _ A _ _ _ s
  refine wpAny_bind ?_
  unfold updateField
  refine wpAny_bind (wpAny_load he ?_)
  rw [hde]
  show wpAny _ A (if 2 < ve.size then _ else _) _ _ s
  rw [if_pos hsz]
  exact wpAny_update he (wpAny_throw h)
/-- a new exception that has another one behind it -/
structure ExcOn (h h' : Heap) (e : Addr) (cls : String) (h0 : Addr) : Prop where
  keeps : ∀ b o, h.get? b = some o → h'.get? b = some o
  new : h.get? e = none
  there : ∃ ob t, h'.get? e = some ob ∧ ob.cls = .type cls ∧ ob.data = .fields #[.ref t, .none, .ref h0, .none, .bool false, .none]
theorem raiseWords_h {cls msg : String} {h0 : Addr} {o0 : Obj} {v0 : Array Value} {Q : α → Shared → Prop} (hp : PlainExc cls) (hh : A.handled = some (.ref h0)) (ho : s.heap.get? h0 = some o0) (hd0 : o0.data = .fields v0) (h2 : v0[2]? = some .none)
    (h : ∀ h' tk e, ExcOn s.heap h' e cls h0 → E (.ref e) { s with heap := h', toks := tk }) : wpAny (model prog w) A (raiseErrorWords cls msg : Sem α) Q E s := by
  unfold raiseErrorWords
  refine wpAny_bind (wpAny_mkText (wpAny_bind ?_))
  refine wpAny_newExc_plain hp (fun h' e M => ?_) (show 1 ≤ sizeLine by decide)
  obtain ⟨mk, nw, t, hx, _, _⟩ := M
  have hne : h0 ≠ e := fun q => by rw [q, nw] at ho; cases ho
  refine raiseNew_h (s := { s with heap := h', toks := _ }) hh hne (mk _ _ ho) hd0 h2 hx rfl (by simp) (h _ _ _ ⟨fun b o hb => ?_, nw, ?_⟩)
  · have : b ≠ e := fun q => by rw [q, nw] at hb; cases hb
    exact (Heap.get?_update_other _ _ (Ne.symm this)).trans (mk _ _ hb)
  · exact ⟨_, t, Heap.get?_update_self _ hx (Obj.isFreed_of_fields (Obj.data_mapFields rfl _)), (Obj.cls_mapFields ..), (Obj.data_mapFields rfl _).trans rfl⟩
end
end Mine
end

section
open PySem PySem.Calls PyProof.Rows PySem.W
namespace Mine
section
variable {prog : Program} {w : World} {A : Around} {E : Value → Shared → Prop} {s : Shared}
/-- an index behind a list's end, while an exception is handled -/
theorem item_out_h {l h0 : Addr} {items v0 : Array Value} {o0 : Obj} {k : Nat} {t : Tok} {Q : Value → Shared → Prop} (hA : A.handled = some (.ref h0)) (ho0 : s.heap.get? h0 = some o0) (hd0 : o0.data = .fields v0) (h2 : v0[2]? = some .none)
    (hl : s.heap.IsList l items) (hout : items.size ≤ k) (hk : k ≤ 1000) (hE : ∀ h' tk e, ExcOn s.heap h' e "IndexError" h0 → E (.ref e) { s with heap := h', toks := tk }) : wpAny (model prog w) A (getItem (.ref l) (.int k t)) Q E s := by
  obtain ⟨o, ho, _, _, hd⟩ := id hl
  unfold getItem
  try with_reducible refine wpAny_holding ?_
  have hT : s.TypeIs (.ref l) "list" := hl.typeIs
  refine wpAny_bind (wpAny_sequenceKey hT (by decide) ?_)
  refine wpAny_bind (wpAny_callSpecial?_slot (name := Str.ofString "__getitem__") hT slot_list_getitem
    (wpAny_call_entry slot_list_getitem hT entry_list_getitem ?_ (args_list_getitem _ _)))
  have hf : Builtin.List.listFitsIndex (k : Int) = true := fitsIndex_both (by lia) (by lia)
  obtain ⟨kk, hkk⟩ : ∃ kk : Int, kk = (k : Int) := ⟨_, rfl⟩
  rw [← hkk] at hf ⊢
  show wpAny _ _ (Builtin.List.listSubscript? (.int kk t) >>= _) _ _ s
  refine wpAny_bind (wpAny_listSubscript_int hf ?_)
  subst hkk
  have hx : items[k]? = none := Array.getElem?_eq_none hout
  show wpAny _ _ ((seqItemAt l k >>= fun r => pure (r.map (k, ·))) >>= _) _ _ s
  refine wpAny_bind (wpAny_bind (wpAny_seqItemAt ho hd (wpAny_pure ?_)))
  rw [hx]
  first
    | exact wpAny_bind (wpAny_rule (raiseWords_h plainExc_IndexError hA ho0 hd0 h2 hE))
    | exact wpAny_bind (wpAny_rule (wpAny_bind (raiseWords_h plainExc_IndexError hA ho0 hd0 h2 hE)))
    | exact wpAny_bind (wpAny_bind (wpAny_rule (raiseWords_h plainExc_IndexError hA ho0 hd0 h2 hE)))
    | exact wpAny_rule (raiseWords_h plainExc_IndexError hA ho0 hd0 h2 hE)
end
/-- the frame in the last part of a try, an exception on its way: all that stood then is kept -/
noncomputable def FC.during (F : FC) (e tb : Addr) (ρ : List Sl) (h : Heap) : FC :=
  { F with A := F.A.mark (some (.ref e)), h0 := h, P := (F.P ++ owned ρ ++ F.env.locals :: F.env.cells.filterMap fun p => if F.env.kindOf p.1 = some .cell then F.env.cells.lookup p.1 else none).filter fun a => a != e && a != tb, hd := true }
structure Handling (F : FC) (e : Addr) : Prop where
  hand : F.A.handled = some (.ref e)
  notP : e ∉ F.P
  obj : ∃ oe vs, F.h0.get? e = some oe ∧ Plain oe ∧ oe.data = .fields vs ∧ vs[2]? = some .none
noncomputable def NeutAt (h : Heap) (a : Addr) : Prop := ∃ o, h.get? a = some o ∧ Neut o
section
variable {F : FC} {ρ ρ' : List Sl} {n : Nat} {Φ : Fl → List Sl → Prop} {Θ : String → List Sl → Prop} {e tb : Addr} {h h' : Heap}
theorem during_P (hF : F.Ok n) (X : Asr F ρ h) {a : Addr} (ha : a ∈ (F.during e tb ρ h).P) : F.G.B.get? a = none ∧ (F.h0.get? a = none ∨ a ∈ F.P) ∨ a ∈ F.P := by
  rcases List.mem_append.mp (List.mem_filter.mp ha).1 with q | q
  · rcases List.mem_append.mp q with q | q
    · exact .inr q
    · exact .inl (X.fresh a q)
  · rcases List.mem_cons.mp q with rfl | q
    · exact .inl ⟨hF.locB, hF.loc0⟩
    · obtain ⟨p, _, hp⟩ := List.mem_filterMap.mp q
      by_cases hk : F.env.kindOf p.1 = some .cell
      · rw [if_pos hk] at hp; exact .inl (hF.cells _ _ hk hp)
      · rw [if_neg hk] at hp; cases hp
theorem not_neut_loc (X : Asr F ρ h) : ¬ NeutAt h F.env.locals := fun ⟨o, e, T, vs, hc, hT, _, _⟩ => by
  obtain ⟨_, _, o', e', q⟩ := X.loc
  rw [e] at e'; cases e'
  rcases q with ⟨q, _⟩ | ⟨q, _⟩ <;> (rw [hc] at q; injection q with q; subst q; revert hT; decide)
theorem not_neut_cell {c : Addr} {v : Option Value} (x : h.IsCell c v) : ¬ NeutAt h c := fun ⟨o, e, T, vs, hc, hT, hd, _⟩ => by
  obtain ⟨o', e', q⟩ := x
  rw [e] at e'; cases e'
  rw [hd] at q; cases q
theorem not_neut_own (X : Asr F ρ h) {a : Addr} (ha : a ∈ owned ρ) : ¬ NeutAt h a := fun ⟨o, e, q⟩ => by
  obtain ⟨o', e', _, nn, _⟩ := X.own_plain ha
  rw [e] at e'; cases e'; exact nn q
theorem ne_neut {a : Addr} (he : NeutAt h e) (ht : NeutAt h tb) (ha : ¬ NeutAt h a) : (a != e && a != tb) = true := by
  have h1 : a ≠ e := fun q => ha (q ▸ he)
  have h2 : a ≠ tb := fun q => ha (q ▸ ht)
  simp [h1, h2]
theorem FC.Ok.during (hF : F.Ok n) (X : Asr F ρ h) (he : NeutAt h e) (ht : NeutAt h tb) : (F.during e tb ρ h).Ok n := by
  refine ⟨hF.scope, hF.kind, hF.globs, hF.builtins, nofun, hF.depth, hF.units, hF.nolimit, hF.nodup, hF.nodebug, hF.locB, .inr (List.mem_filter.mpr ⟨List.mem_append_right _ List.mem_cons_self, ne_neut he ht (show ¬ NeutAt h F.env.locals from not_neut_loc X)⟩), fun x c hk hl => ⟨(hF.cells x c hk hl).1, .inr ?_⟩, hF.cs, hF.apart, hF.sets, hF.gls, hF.top⟩
  obtain ⟨v, hc⟩ := X.cells x c hk hl
  refine List.mem_filter.mpr ⟨List.mem_append_right _ (List.mem_cons_of_mem _ (List.mem_filterMap.mpr ⟨(x, c), mem_of_lookup hl, ?_⟩)), ne_neut he ht (not_neut_cell hc)⟩
  show (if F.env.kindOf x = some .cell then F.env.cells.lookup x else none) = some c
  rw [if_pos (show F.env.kindOf x = some .cell from hk)]; exact hl
theorem Asr.during (X : Asr F ρ h) (he : NeutAt h e) (ht : NeutAt h tb) : Asr (F.during e tb ρ h) ρ h :=
  ⟨X.stays, .refl _ _, X.frs, X.loc, X.cells, X.nodup, X.apart, fun a ha => ⟨(X.fresh a ha).1, .inr (List.mem_filter.mpr ⟨List.mem_append_left _ (List.mem_append_right _ ha), ne_neut he ht (not_neut_own X ha)⟩)⟩, X.dom, .of_get fun i x sl e1 e2 => by have := X.sls.get e1 e2; cases sl <;> exact this, X.len⟩
theorem during_not (a : Addr) (ha : a = e ∨ a = tb) : a ∉ (F.during e tb ρ h).P := fun q => by
  have := (List.mem_filter.mp q).2
  rcases ha with rfl | rfl <;> simp at this
theorem during_none (hF : F.Ok n) (X : Asr F ρ h) {a : Addr} (ha : h.get? a = none ∨ a ∈ (F.during e tb ρ h).P) : F.h0.get? a = none ∨ a ∈ F.P := by
  rcases ha with ha | ha
  · by_cases hP : a ∈ F.P
    · exact .inr hP
    · refine .inl ?_
      cases q : F.h0.get? a with
      | none => rfl
      | some o => obtain ⟨o', e'⟩ := X.kept.live hP q; rw [ha] at e'; cases e'
  · exact (during_P hF X ha).elim (·.2) .inr
theorem Asr.after (hF : F.Ok n) (X : Asr F ρ h) (Y : Asr (F.during e tb ρ h) ρ' h') : Asr F ρ' h' := by
  refine ⟨Y.stays, fun b o hb eb => (X.kept b o hb eb).next fun p ep => Y.kept b p (fun q => ?_) ep, Y.frs, Y.loc, Y.cells, Y.nodup, Y.apart, fun a ha => ⟨(Y.fresh a ha).1, during_none hF X (Y.fresh a ha).2⟩, Y.dom, .of_get fun i x sl e1 e2 => by have := Y.sls.get e1 e2; cases sl <;> exact this, Y.len⟩
  rcases during_none hF X (.inr q) with z | z
  · rw [eb] at z; cases z
  · exact hb z
theorem Loose.after (hF : F.Ok n) (X : Asr F ρ h) {hb : Heap} {a : Addr} (l : Loose (F.during e tb ρ h) hb h' a) : Loose F hb h' a := ⟨l.1, l.2.1, during_none hF X l.2.2.1, l.2.2.2⟩
theorem exc_on {h₁ : Heap} {x e0 : Addr} (X : Asr F ρ h₁) (lv : ∀ b o, h.get? b = some o → ∃ o', h₁.get? b = some o') (hx : ExcOn h₁ h' x "IndexError" e0) : ExcIn F h h' x "IndexError*" := by
  obtain ⟨ob, t, e1, e2, e3⟩ := hx.there
  refine ⟨⟨?_, ?_, ?_, fun q => ?_, ob, e1, "IndexError", _, e2, by decide, e3, by simp⟩, ob, _, e1, e2, e3, by simp, fun q => absurd rfl q, .inl rfl⟩
  · cases q : h.get? x with
    | none => rfl
    | some o => obtain ⟨o', e'⟩ := lv _ o q; rw [hx.new] at e'; cases e'
  · cases q : F.G.B.get? x with
    | none => rfl
    | some o => have := X.stays.stays _ o q; rw [hx.new] at this; cases this
  · by_cases hP : x ∈ F.P
    · exact .inr hP
    · cases q : F.h0.get? x with
      | none => exact .inl rfl
      | some o => obtain ⟨o', e'⟩ := X.kept.live hP q; rw [hx.new] at e'; cases e'
  · obtain ⟨o, e'⟩ := X.dom _ (List.mem_append_left _ q)
    rw [hx.new] at e'; cases e'
theorem EvR.item_out_h {a i : PySem.Expr} {pos : Pos} {l : List Dt} {k : Nat} (H : Handling F e) (h1 : Ev F ρ a (.list l)) (h2 : Ev F ρ i (.int k)) (hk : l.length ≤ k) (hk2 : k ≤ 1000) (hs : ∀ o k, ∃ ops, subscripted i false o k = operate ops (getItem o k) := by intro _ _; exact ⟨_, rfl⟩) : EvR F ρ (.Subscript a i pos) "IndexError*" := by
  intro s X Q E hq
  refine Subscript_ (h1 s X _ _ fun v h1' tk1 g1 r1 => h2 _ (X.grow g1) _ _ fun u h2' tk2 g2 r2 => ?_)
  obtain ⟨ops, hs⟩ := hs v u
  obtain ⟨al, ws, rfl, ha, L, R⟩ := (r1.kp g2.kp).list'
  obtain ⟨t, rfl⟩ := r2.int'
  obtain ⟨oe, vs, e1, e2, e3, e4⟩ := H.obj
  have X2 := (X.grow g1).grow g2
  refine tail_any (T := "list") L.isList.typeIs list_getitem_lookup (Mine.item_out_h (s := { s with heap := h2', toks := tk2 }) H.hand (X2.kept.same H.notP e1 e2) e3 e4 L.isList ?_ (by lia) fun h' tk x hx => ?_) hs
  · simp [R.length]; lia
  · have g3 : Grow F.G h2' h' := .of_keep g2.stays hx.keeps
    exact hq h' tk x ((g1.trans g2).trans g3) (exc_on X2 (fun b o e => (g1.trans g2).kp.live e) hx)
end
end Mine
end

section
open PySem PySem.Calls PyProof.Rows PySem.W
namespace Mine
section
variable {F : FC} {ρ ρ0 : List Sl} {n : Nat} {Φ : Fl → List Sl → Prop} {Θ : String → List Sl → Prop}
/-- an exception goes on, its traceback at hand -/
theorem flight_on {s : Shared} {hb : Heap} {e tb : Addr} {oe otb : Obj} {vs tvs : Array Value} {T : String} {L : Addr} {Q : Unit → Shared → Prop} {E : Value → Shared → Prop} (X : Asr F ρ s.heap) (S : Stp F ρ0 ρ hb s.heap) (le : Loose F hb s.heap e) (eo : s.heap.get? e = some oe) (hc : oe.cls = .type (exCls T)) (hd : oe.data = .fields vs) (hsz : 5 ≤ vs.size)
    (hv2 : T ≠ "IndexError*" → vs[2]? = some .none) (hf : F.env.frame = some L) (h1 : vs[1]? = some (.ref tb)) (hne : tb ≠ e) (lt : Loose F hb s.heap tb) (htb : s.heap.get? tb = some otb) (hdt : otb.data = .fields tvs) (htz : 5 ≤ tvs.size)
    (he : ∀ h', Asr F ρ h' → Stp F ρ0 ρ hb h' → ExcIn F hb h' e T → Q () { s with heap := h' }) : wpAny (model F.G.prog F.G.w) F.A (setFlight (.ref e) F.env.frame) Q E s := by
  rw [hf]
  refine flight_set X S eo hd h1 hne lt htb hdt htz fun h2' otb' X2 S2 hoth lt2 ht2 hd2 => he h2' X2 S2 ?_
  obtain ⟨l1, l2, l3, l4, o, el, nt⟩ := le
  have e2 := (hoth e hne.symm).trans eo
  rw [eo] at el; cases el
  refine ⟨⟨l1, l2, l3, l4, _, e2, nt⟩, oe, vs, e2, hc, hd, hsz, hv2, .inr ⟨L, tb, otb', _, hf, h1, hne, lt2, ht2, hd2, by simpa using htz, ?_⟩⟩
  rw [Array.getElem?_setIfInBounds_self_of_lt (by lia)]; rfl
/-- a try whose last part runs in any case -/
theorem Ex1.try_finally {body : List Stmt} {f0 : Stmt} {fs : List Stmt} {pos : Pos} {Φ1 : List Sl → Prop} {Θ1 : String → List Sl → Prop} (hF : F.Ok n) (hTh : ∀ T r, Θ T r → ["frame", "tuple", "list", "dict"].contains (exCls T) = false)
    (hb : Ex F ρ body (fun fl r => fl = .next ∧ Φ1 r) Θ1) (hn : ∀ r, Φ1 r → Ex F r (f0 :: fs) Φ Θ)
    (hr : ∀ T r, Θ1 T r → T ≠ "IndexError*" ∧ ["frame", "tuple", "list", "dict"].contains (exCls T) = false ∧ ∀ e tb h, (F.during e tb r h).Ok n → Handling (F.during e tb r h) e → Ex (F.during e tb r h) r (f0 :: fs) (fun fl r' => fl = .next ∧ Θ T r') Θ) :
    Ex1 F ρ (.Try body [] [] (f0 :: fs) pos) Φ Θ := by
  intro s X Q E hq hE
  refine wpAny_Try_finally (hb s X _ _ (fun f h1 tk1 fl r hΦ X1 hfl S1 => ?_) fun T e h1 tk1 r hΘ X1 ex S1 => ?_)
  · obtain ⟨rfl, hΦ⟩ := hΦ
    cases f <;> try exact hfl.elim
    refine wpAny_execs_nil (ExT.past (s := s) (hn r hΦ) X1 S1 (fun f h2 tk2 fl r2 a b c d => ?_) fun T e h2 tk2 r2 a b c d => ?_)
    · have := hq f h2 tk2 fl r2 a b c d
      cases f <;> exact this
    · exact loop_exc (s := { s with heap := h2, toks := tk2 }) hF b d c (hTh T r2 a) fun h3 X3 S3 ex3 => hE T e h3 tk2 r2 a X3 ex3 S3
  · obtain ⟨hst, hT, hfin⟩ := hr T r hΘ
    refine note_exc (s := { s with heap := h1, toks := tk1 }) hF X1 S1 ex hT fun h2 oe vs L tb otb tvs X2 S2 le eo hc hd hsz hv2 hf h1' hne lt htb hdt htz h3 => ?_
    refine ⟨ref_ne_byPass _, note_exc (s := { s with heap := h2, toks := tk1 }) (T := T) hF X2 S2 ⟨le, oe, vs, eo, hc, hd, hsz, hv2, .inr ⟨L, tb, otb, tvs, hf, h1', hne, lt, htb, hdt, htz, h3⟩⟩ hT fun h2 oe vs L tb otb tvs X2 S2 le eo hc hd hsz hv2 hf h1' hne lt htb hdt htz h3 => ?_⟩
    refine flight_set (s := { s with heap := h2, toks := tk1 }) (fl := none) X2 S2 eo hd h1' hne lt htb hdt htz fun h3' otb' X3 S3 hoth lt3 ht3 hd3 => ?_
    have eo3 := (hoth e hne.symm).trans eo
    obtain ⟨l1, l2, l3, l4, o, el, nt⟩ := le
    rw [eo] at el; cases el
    obtain ⟨t1, t2, t3, t4, ot, elt, ntt⟩ := lt3
    rw [ht3] at elt; cases elt
    have nE : NeutAt h3' e := ⟨_, eo3, nt⟩
    have nT : NeutAt h3' tb := ⟨_, ht3, ntt⟩
    have hFd := hF.during X3 nE nT
    have Hd : Handling (F.during e tb r h3') e := ⟨rfl, during_not e (.inl rfl), ⟨_, _, eo3, nt.plain, hd, hv2 hst⟩⟩
    refine hfin e tb h3' hFd Hd { s with heap := h3', toks := tk1 } (X3.during nE nT) _ _ (fun f h4 tk4 fl r4 hΦ X4 hfl S4 => ?_) fun T2 x h4 tk4 r4 hΘ4 X4 ex4 S4 => ?_
    · obtain ⟨rfl, hΘ4⟩ := hΦ
      cases f <;> try exact hfl.elim
      have X5 := X3.after hF X4
      have S5 : Stp F ρ r4 s.heap h4 := S3.trans ⟨S4.kept, S4.live, S4.own⟩
      have eo4 : h4.get? e = some oe := X4.kept.same (during_not e (.inl rfl)) eo3 nt.plain
      have et4 : h4.get? tb = some otb' := X4.kept.same (during_not tb (.inr rfl)) ht3 ntt.plain
      show wpAny _ _ (PySem.passOn "try.finally" (.ref e) F.env) _ _ _
      unfold PySem.passOn
      refine wpAny_bind (wpAny_field (s := { s with heap := h4, toks := tk4 }) eo4 hd h1' ?_)
      rw [if_neg (show ¬ (Value.ref tb == Value.none) = true from by simp)]
      refine wpAny_bind (flight_on (T := T) (s := { s with heap := h4, toks := tk4 }) X5 S5 ⟨l1, l2, l3, l4, _, eo4, nt⟩ eo4 hc hd hsz hv2 hf h1' hne ⟨t1, t2, t3, t4, _, et4, ntt⟩ et4 hd3 (by simpa using htz) fun h6 X6 S6 ex6 => ?_)
      exact wpAny_throw (hE T e h6 tk4 r4 hΘ4 X6 ex6 S6)
    · refine note_exc (F := F.during e tb r h3') (s := { s with heap := h4, toks := tk4 }) hFd X4 S4 ex4 (hTh T2 r4 hΘ4) fun h5 oe5 vs5 L5 tb5 otb5 tvs5 X5 S5 le5 eo5 hc5 hd5 hsz5 hv5 hf5 h15 hne5 lt5 htb5 hdt5 htz5 h35 => ?_
      have X6 := X3.after hF X5
      have S6 : Stp F ρ r4 s.heap h5 := S3.trans ⟨S5.kept, S5.live, S5.own⟩
      have base : ∀ a, Loose (F.during e tb r h3') h3' h5 a → Loose F s.heap h5 a := fun a l => by
        obtain ⟨q, l⟩ := l.after hF X3
        refine ⟨?_, l⟩
        cases z : s.heap.get? a with
        | none => rfl
        | some o => obtain ⟨o', e'⟩ := S3.live a o z; rw [q] at e'; cases e'
      show wpAny _ _ (field (Value.ref x) 1 >>= _) _ _ _
      refine wpAny_bind (wpAny_field (s := { s with heap := h5, toks := tk4 }) eo5 hd5 h15 ?_)
      rw [if_neg (show ¬ (Value.ref tb5 == Value.none) = true from by simp)]
      exact flight_on (T := T2) (s := { s with heap := h5, toks := tk4 }) X6 S6 (base _ le5) eo5 hc5 hd5 hsz5 hv5 hf5 h15 hne5 (base _ lt5) htb5 hdt5 htz5 fun h6 X7 S7 ex7 => hE T2 x h6 tk4 r4 hΘ4 X7 ex7 S7
end
end Mine
end

section
open PySem PySem.Calls PyProof.Rows PySem.W
namespace Mine
/-- what each of two lists in order has beyond the other -/
noncomputable def sld : List Str → List Str → List Str × List Str
  | [], m => ([], m)
  | x :: l, [] => (x :: l, [])
  | x :: l, y :: m => if x.cps.toList < y.cps.toList then (x :: (sld l (y :: m)).1, (sld l (y :: m)).2) else if y.cps.toList < x.cps.toList then ((sld (x :: l) m).1, y :: (sld (x :: l) m).2) else sld l m
termination_by l m => l.length + m.length
theorem sld_nil (m : List Str) : sld [] m = ([], m) := by rw [sld]
theorem sld_nil' (l : List Str) : sld l [] = (l, []) := by cases l <;> rw [sld]
/-- no two neighbours are the same -/
noncomputable def Adj (l : List Str) : Prop := ∀ (k : Nat) (x y : Str), l[k]? = some x → l[k + 1]? = some y → y ≠ x
theorem drop_get {l : List Str} {k : Nat} {x : Str} (h : l[k]? = some x) : l.drop k = x :: l.drop (k + 1) := by
  obtain ⟨hk, rfl⟩ := List.getElem?_eq_some_iff.mp h
  exact List.drop_eq_getElem_cons hk
theorem strD_get {l : List Str} {k : Nat} {x : Str} (h : l[k]? = some x) : (l.map Dt.str)[k]? = some (.str x) := by rw [List.getElem?_map, h]; rfl
section
variable {F : FC} {ρ : List Sl} {n : Nat} {Φ : Fl → List Sl → Prop} {Θ : String → List Sl → Prop}
/-- the loop that passes an item's like: there is none -/
theorem skip_while (hF : F.Ok n) {q c w : Nat} {xs xi xe : Str} {p1 p2 p3 p4 p5 p6 : Pos} {body : List Stmt} (hq : F.names[q]? = some xs) (hc : F.names[c]? = some xi) (hw : F.names[w]? = some xe) {l : List Str} {k : Nat} {x : Str} (r1 : ρ[q]? = some (.imm (strD l))) (r2 : ρ[c]? = some (.imm (.int (k : Int)))) (r3 : ρ[w]? = some (.imm (.str x)))
    (hl : l.length ≤ 500) (hk : k ≤ 600) (hadj : ∀ z, l[k]? = some z → z ≠ x) {Tx : String} (hTh : ∀ T r, Θ T r → ["frame", "tuple", "list", "dict"].contains (exCls T) = false) (hR : l.length ≤ k → EvR F ρ (.Subscript (.Name xs p1) (.Name xi p2) p3) Tx) (hN : k < l.length → Φ .next ρ) (hE : l.length ≤ k → Θ Tx ρ) :
    Ex1 F ρ (.While (.Compare (.Subscript (.Name xs p1) (.Name xi p2) p3) [.Eq] [.Name xe p4] p5) body [] p6) Φ Θ := by
  refine Ex1.while_exc (I := fun _ => ρ) (m := 0) hF rfl (fun k hk => absurd hk (Nat.not_lt_zero _)) hTh ?_
  by_cases h : k < l.length
  · have hg : l[k]? = some l[k] := List.getElem?_eq_getElem h
    refine .inl ⟨(Tr.cmp (Ev.item list_getitem_lookup (.name hF hq r1) (.name hF hc r2) (item_list (l.map .str) k (.str l[k]) (by lia) (by lia) (by simpa using strD_get hg))) (.name hF hw r3) (cmp_eq_str _ _)).as ?_, hN h⟩
    simpa using hadj _ hg
  · exact .inr (.inl ⟨Tx, TrR.cmp (hR (by lia)), hE (by lia)⟩)
end
section
variable {G : GC}
noncomputable def sldNames : List Str := ["expected", "actual", "i", "j", "missing", "unexpected", "e", "a"]
noncomputable def sldSt (a1 a2 : Addr) (l m : List Str) (i j : Nat) (mis unx : List Str) (se sa : Sl) : List Sl := [.imm (strD l), .imm (strD m), .imm (.int i), .imm (.int j), .own (.ref a1) a1 (.list (mis.map .str)), .own (.ref a2) a2 (.list (unx.map .str)), se, sa]
/-- what holds before each turn -/
structure SldInv (l m : List Str) (i j : Nat) (mis unx : List Str) : Prop where
  li : i ≤ l.length
  lj : j ≤ m.length
  lm : mis.length ≤ i
  lu : unx.length ≤ j
  e1 : mis ++ (sld (l.drop i) (m.drop j)).1 = (sld l m).1
  e2 : unx ++ (sld (l.drop i) (m.drop j)).2 = (sld l m).2
/-- what holds when an index is out of range -/
structure SldEnd (l m : List Str) (i j : Nat) (mis unx : List Str) : Prop where
  li : i ≤ l.length
  lj : j ≤ m.length
  lm : mis.length ≤ i
  lu : unx.length ≤ j
  e1 : mis ++ l.drop i = (sld l m).1
  e2 : unx ++ m.drop j = (sld l m).2
theorem SldInv.end {l m : List Str} {i j : Nat} {mis unx : List Str} (h : SldInv l m i j mis unx) (hij : l.length ≤ i ∨ m.length ≤ j) : SldEnd l m i j mis unx := by
  have e1 := h.e1
  have e2 := h.e2
  rcases hij with q | q
  · rw [List.drop_eq_nil_of_le q, sld_nil] at e1 e2
    exact ⟨h.li, h.lj, h.lm, h.lu, by rw [List.drop_eq_nil_of_le q]; exact e1, e2⟩
  · rw [List.drop_eq_nil_of_le q, sld_nil'] at e1 e2
    exact ⟨h.li, h.lj, h.lm, h.lu, e1, by rw [List.drop_eq_nil_of_le q]; exact e2⟩
theorem SldInv.step {l m : List Str} {i j : Nat} {mis unx : List Str} {x y : Str} (h : SldInv l m i j mis unx) (hx : l[i]? = some x) (hy : m[j]? = some y) :
    (x.cps.toList < y.cps.toList → SldInv l m (i + 1) j (mis ++ [x]) unx) ∧ (¬ x.cps.toList < y.cps.toList → y.cps.toList < x.cps.toList → SldInv l m i (j + 1) mis (unx ++ [y])) ∧ (¬ x.cps.toList < y.cps.toList → ¬ y.cps.toList < x.cps.toList → SldInv l m (i + 1) (j + 1) mis unx) := by
  have li := (List.getElem?_eq_some_iff.mp hx).1
  have lj := (List.getElem?_eq_some_iff.mp hy).1
  have lm := h.lm
  have lu := h.lu
  have e1 := h.e1
  have e2 := h.e2
  rw [drop_get hx, drop_get hy, sld] at e1 e2
  refine ⟨fun c => ?_, fun c d => ?_, fun c d => ?_⟩
  · rw [if_pos c] at e1 e2
    exact ⟨li, h.lj, by simp; lia, lu, by rw [drop_get hy, List.append_assoc]; exact e1, by rw [drop_get hy]; exact e2⟩
  · rw [if_neg c, if_pos d] at e1 e2
    exact ⟨h.li, lj, lm, by simp; lia, by rw [drop_get hx]; exact e1, by rw [drop_get hx, List.append_assoc]; exact e2⟩
  · rw [if_neg c, if_neg d] at e1 e2
    exact ⟨li, lj, by lia, by lia, e1, e2⟩
noncomputable def SldRaised (a1 a2 : Addr) (l m : List Str) (T : String) (r : List Sl) : Prop := exCls T = "IndexError" ∧ ∃ i j mis unx se sa, Sl.plain se = true ∧ Sl.plain sa = true ∧ r = sldSt a1 a2 l m i j mis unx se sa ∧ SldEnd l m i j mis unx
noncomputable def SldNext (a1 a2 : Addr) (l m : List Str) (b : Nat) (r : List Sl) : Prop := ∃ i j mis unx se sa, r = sldSt a1 a2 l m i j mis unx se sa ∧ SldInv l m i j mis unx ∧ (l.length - i) + (m.length - j) < b
end
end Mine
end

section
open PySem PySem.Calls PyProof.Rows PySem.W
namespace Mine
section
variable {G : GC}
theorem sld_ok (W : Wd G) {l m : List Str} (hl : l.length ≤ 500) (hm : m.length ≤ 500) (al : Adj l) (am : Adj m) : FnOK G 1 (.ref 28) [strD l, strD m] (.tup [strD (sld l m).1, strD (sld l m).2]) := by
  refine Fn.pl (k := 2) (n := 0) (kk := 6) (own := 8) (pn := ["expected", "actual"]) (names := sldNames) (gls := [("IndexError", .type "IndexError")]) (W.def (i := 0) rfl)
    (.of (by decide) (by decide) (by decide +kernel) (by decide +kernel) (W.gls [17])) W.nolimit rfl rfl (by decide) rfl (by decide +kernel) (bindK fun _ => all2 fun _ _ => by kernel_rfl) fun A env h0 X0 hF => ?_
  refine Ex.seq (Ex1.assign2 (i := 2) (j := 3) hF rfl (Nat.lt_of_sub_pos (by decide : 0 < 8 - 2)) rfl (Nat.lt_of_sub_pos (by decide : 0 < 8 - 3)) .int) ?_
  refine Ex.own_new (i := 4) hF rfl (Nat.lt_of_sub_pos (by decide : 0 < 8 - 4)) fun a1 => ?_
  refine Ex.own_new (i := 5) hF rfl (Nat.lt_of_sub_pos (by decide : 0 < 8 - 5)) fun a2 => ?_
  refine Ex.cons (Ψ := fun fl r => fl = .next ∧ ∃ i j se sa, r = sldSt a1 a2 l m i j (sld l m).1 (sld l m).2 se sa) (Ex1.while_inv (fun b r => ∃ i j mis unx, b = (l.length - i) + (m.length - j) ∧ r = sldSt a1 a2 l m i j mis unx .unk .unk ∧ SldInv l m i j mis unx) (l.length + m.length) hF ⟨0, 0, [], [], by lia, rfl, Nat.zero_le _, Nat.zero_le _, Nat.le_refl _, Nat.le_refl _, rfl, rfl⟩ (fun _ _ q => q.elim) fun b r hi => ?_) fun fl r h => ?_
  · obtain ⟨i, j, mis, unx, rfl, rfl, I⟩ := hi
    refine .inr ⟨Tr.val Ev.bool (truth_bool true), ?_⟩
    refine Ex.cons (Ψ := fun fl r => (fl = .next ∧ SldNext a1 a2 l m ((l.length - i) + (m.length - j)) r) ∨ (fl = .brk ∧ ∃ i j se sa, r = sldSt a1 a2 l m i j (sld l m).1 (sld l m).2 se sa)) (Ex1.try_catch (Ψ := fun r => ∃ T, SldRaised a1 a2 l m T r) (j := 0) hF rfl (by decide) PySem.F.isExc_IndexError PySem.F.notTuple_IndexError (by rw [isSubtype_type]; kernel_rfl) ?_ ?_) fun fl r h => ?_
    · -- the body
      have li := I.li
      have lj := I.lj
      by_cases hi : l.length ≤ i
      · exact Ex.cons (Ψ := fun _ _ => False) (Ex1.assign_raise (T := "IndexError") (EvR.item_out (k := i) hF (.name (i := 0) hF rfl rfl) (.name (i := 2) hF rfl rfl) (by rw [List.length_map]; exact hi) (by lia)) ⟨rfl, "IndexError", rfl, i, j, mis, unx, _, _, rfl, rfl, rfl, I.end (.inl hi)⟩) fun _ _ q => q.elim
      have hx : l[i]? = some l[i] := List.getElem?_eq_getElem (by lia)
      generalize l[i] = x at hx
      refine Ex.seq (Ex1.assign (i := 6) (d := .str x) hF rfl (Nat.lt_of_sub_pos (by decide : 0 < 8 - 6)) (Ev.item list_getitem_lookup (.name (i := 0) hF rfl rfl) (.name (i := 2) hF rfl rfl) (item_list (l.map .str) i (.str x) (by lia) (by lia) (by simpa using strD_get hx)))) ?_
      by_cases hj : m.length ≤ j
      · exact Ex.cons (Ψ := fun _ _ => False) (Ex1.assign_raise (T := "IndexError") (EvR.item_out (k := j) hF (.name (i := 1) hF rfl rfl) (.name (i := 3) hF rfl rfl) (by rw [List.length_map]; exact hj) (by lia)) ⟨rfl, "IndexError", rfl, i, j, mis, unx, _, _, rfl, rfl, rfl, I.end (.inr hj)⟩) fun _ _ q => q.elim
      have hy : m[j]? = some m[j] := List.getElem?_eq_getElem (by lia)
      generalize m[j] = y at hy
      refine Ex.seq (Ex1.assign (i := 7) (d := .str y) hF rfl (Nat.lt_of_sub_pos (by decide : 0 < 8 - 7)) (Ev.item list_getitem_lookup (.name (i := 1) hF rfl rfl) (.name (i := 3) hF rfl rfl) (item_list (m.map .str) j (.str y) (by lia) (by lia) (by simpa using strD_get hy)))) ?_
      obtain ⟨s1, s2, s3⟩ := I.step hx hy
      have lm := I.lm
      have lu := I.lu
      have nil2 : ∀ {fl r}, (fl = Fl.next ∧ SldNext a1 a2 l m ((l.length - i) + (m.length - j)) r) → After (FC.mk G A env sldNames 8 [("IndexError", .type "IndexError")] (scopeOf (stAt 2)) h0 [] X0) [] (fun fl r => (fl = .next ∧ SldNext a1 a2 l m ((l.length - i) + (m.length - j)) r) ∨ (fl = .brk ∧ ∃ i j se sa, r = sldSt a1 a2 l m i j (sld l m).1 (sld l m).2 se sa)) (fun T' r => exCls T' = "IndexError" ∧ ∃ T, SldRaised a1 a2 l m T r) fl r := fun {fl r} ⟨e, h⟩ => by
        subst e; exact Ex.nil (.inl ⟨rfl, h⟩)
      by_cases c : x.cps.toList < y.cps.toList
      · refine Ex.if_true ((Tr.cmp (.name (i := 6) hF rfl rfl) (.name (i := 7) hF rfl rfl) (cmp_lt_str x y)).as (decide_eq_true c)) ?_
        have I' := s1 c
        refine Ex.seq (ρ' := sldSt a1 a2 l m i j (mis ++ [x]) unx (.imm (.str x)) (.imm (.str y))) (by
          have := Ex1.append (Θ := fun T' r => exCls T' = "IndexError" ∧ ∃ T, SldRaised a1 a2 l m T r) (ρ := sldSt a1 a2 l m i j mis unx (.imm (.str x)) (.imm (.str y))) (i := 4) (x := "missing") (d := .str x) hF rfl (by decide) rfl (.name (i := 6) hF rfl rfl) (by rw [List.length_map]; exact small_lt (by lia)) (e := .Name "e" ⟨14, 31, 14, 32⟩) (np := ⟨14, 16, 14, 23⟩) (apos := ⟨14, 16, 14, 30⟩) (cpos := ⟨14, 16, 14, 33⟩) (pos := ⟨14, 16, 14, 33⟩)
          unfold sldSt at this ⊢; rw [List.map_append]; exact this) ?_
        refine Ex.seq (Ex1.aug (i := 2) (d := .int ((i + 1 : Nat) : Int)) hF rfl (Nat.lt_of_sub_pos (by decide : 0 < 8 - 2)) rfl .int (aug_add_int _ 1)) ?_
        exact Ex.cons (skip_while (q := 0) (c := 2) (w := 6) (k := i + 1) (Φ := fun fl r => fl = .next ∧ SldNext a1 a2 l m ((l.length - i) + (m.length - j)) r) hF rfl rfl rfl rfl rfl rfl hl (by lia) (fun z hz => al i x z hx hz) (fun T r q => by rw [q.1]; decide) (fun h => EvR.item_out (k := i + 1) hF (.name (i := 0) hF rfl rfl) (.name (i := 2) hF rfl rfl) (by rw [List.length_map]; exact h) (by lia)) (fun h => ⟨rfl, i + 1, j, _, _, _, _, rfl, I', by lia⟩) fun h => ⟨rfl, "IndexError", rfl, i + 1, j, _, _, _, _, rfl, rfl, rfl, I'.end (.inl h)⟩) fun fl r h => by
          obtain ⟨rfl, h⟩ := h; exact Ex.nil (nil2 ⟨rfl, h⟩)
      refine Ex.if_false ((Tr.cmp (.name (i := 6) hF rfl rfl) (.name (i := 7) hF rfl rfl) (cmp_lt_str x y)).as (decide_eq_false c)) ?_
      by_cases d : y.cps.toList < x.cps.toList
      · refine Ex.if_true ((Tr.cmp (.name (i := 6) hF rfl rfl) (.name (i := 7) hF rfl rfl) (cmp_gt_str x y)).as (decide_eq_true d)) ?_
        have I' := s2 c d
        refine Ex.seq (ρ' := sldSt a1 a2 l m i j mis (unx ++ [y]) (.imm (.str x)) (.imm (.str y))) (by
          have := Ex1.append (Θ := fun T' r => exCls T' = "IndexError" ∧ ∃ T, SldRaised a1 a2 l m T r) (ρ := sldSt a1 a2 l m i j mis unx (.imm (.str x)) (.imm (.str y))) (i := 5) (x := "unexpected") (d := .str y) hF rfl (by decide) rfl (.name (i := 7) hF rfl rfl) (by rw [List.length_map]; exact small_lt (by lia)) (e := .Name "a" ⟨19, 34, 19, 35⟩) (np := ⟨19, 16, 19, 26⟩) (apos := ⟨19, 16, 19, 33⟩) (cpos := ⟨19, 16, 19, 36⟩) (pos := ⟨19, 16, 19, 36⟩)
          unfold sldSt at this ⊢; rw [List.map_append]; exact this) ?_
        refine Ex.seq (Ex1.aug (i := 3) (d := .int ((j + 1 : Nat) : Int)) hF rfl (Nat.lt_of_sub_pos (by decide : 0 < 8 - 3)) rfl .int (aug_add_int _ 1)) ?_
        exact Ex.cons (skip_while (q := 1) (c := 3) (w := 7) (k := j + 1) (Φ := fun fl r => fl = .next ∧ SldNext a1 a2 l m ((l.length - i) + (m.length - j)) r) hF rfl rfl rfl rfl rfl rfl hm (by lia) (fun z hz => am j y z hy hz) (fun T r q => by rw [q.1]; decide) (fun h => EvR.item_out (k := j + 1) hF (.name (i := 1) hF rfl rfl) (.name (i := 3) hF rfl rfl) (by rw [List.length_map]; exact h) (by lia)) (fun h => ⟨rfl, i, j + 1, _, _, _, _, rfl, I', by lia⟩) fun h => ⟨rfl, "IndexError", rfl, i, j + 1, _, _, _, _, rfl, rfl, rfl, I'.end (.inr h)⟩) fun fl r h => by
          obtain ⟨rfl, h⟩ := h; exact Ex.nil (Ex.nil (nil2 ⟨rfl, h⟩))
      refine Ex.if_false ((Tr.cmp (.name (i := 6) hF rfl rfl) (.name (i := 7) hF rfl rfl) (cmp_gt_str x y)).as (decide_eq_false d)) ?_
      have I' := s3 c d
      refine Ex.seq (Ex1.aug (i := 2) (d := .int ((i + 1 : Nat) : Int)) hF rfl (Nat.lt_of_sub_pos (by decide : 0 < 8 - 2)) rfl .int (aug_add_int _ 1)) ?_
      refine Ex.cons (Ex1.try_finally (Φ := fun fl r => fl = .next ∧ SldNext a1 a2 l m ((l.length - i) + (m.length - j)) r) (Φ1 := fun r => r = sldSt a1 a2 l m (i + 1) j mis unx (.imm (.str x)) (.imm (.str y))) (Θ1 := fun T r => T = "IndexError" ∧ r = sldSt a1 a2 l m (i + 1) j mis unx (.imm (.str x)) (.imm (.str y)) ∧ l.length ≤ i + 1) hF (fun T r q => by rw [q.1]; decide) ?_ (fun r hr => ?_) fun T r hr => ?_) fun fl r h => by
        obtain ⟨rfl, h⟩ := h; exact Ex.nil (Ex.nil (nil2 ⟨rfl, h⟩))
      · exact Ex.cons (skip_while (q := 0) (c := 2) (w := 6) (k := i + 1) (Φ := fun fl r => fl = .next ∧ r = sldSt a1 a2 l m (i + 1) j mis unx (.imm (.str x)) (.imm (.str y))) hF rfl rfl rfl rfl rfl rfl hl (by lia) (fun z hz => al i x z hx hz) (fun T r q => by rw [q.1]; decide) (fun h => EvR.item_out (k := i + 1) hF (.name (i := 0) hF rfl rfl) (.name (i := 2) hF rfl rfl) (by rw [List.length_map]; exact h) (by lia)) (fun h => ⟨rfl, rfl⟩) fun h => ⟨rfl, rfl, h⟩) fun fl r h => by
          obtain ⟨rfl, h⟩ := h; exact Ex.nil ⟨rfl, h⟩
      · subst hr
        refine Ex.seq (Ex1.aug (i := 3) (d := .int ((j + 1 : Nat) : Int)) hF rfl (Nat.lt_of_sub_pos (by decide : 0 < 8 - 3)) rfl .int (aug_add_int _ 1)) ?_
        exact Ex.cons (skip_while (q := 1) (c := 3) (w := 7) (k := j + 1) (Φ := fun fl r => fl = .next ∧ SldNext a1 a2 l m ((l.length - i) + (m.length - j)) r) hF rfl rfl rfl rfl rfl rfl hm (by lia) (fun z hz => am j y z hy hz) (fun T r q => by rw [q.1]; decide) (fun h => EvR.item_out (k := j + 1) hF (.name (i := 1) hF rfl rfl) (.name (i := 3) hF rfl rfl) (by rw [List.length_map]; exact h) (by lia)) (fun h => ⟨rfl, i + 1, j + 1, _, _, _, _, rfl, I', by lia⟩) fun h => ⟨rfl, "IndexError", rfl, i + 1, j + 1, _, _, _, _, rfl, rfl, rfl, I'.end (.inr h)⟩) fun fl r h => by
          obtain ⟨rfl, h⟩ := h; exact Ex.nil ⟨rfl, h⟩
      · obtain ⟨rfl, rfl, hle⟩ := hr
        refine ⟨by decide, by decide, fun e tb h hFd H => ?_⟩
        refine Ex.seq (Ex1.aug (i := 3) (d := .int ((j + 1 : Nat) : Int)) hFd rfl (Nat.lt_of_sub_pos (by decide : 0 < 8 - 3)) rfl .int (aug_add_int _ 1)) ?_
        exact Ex.cons (skip_while (q := 1) (c := 3) (w := 7) (k := j + 1) (Tx := "IndexError*") (Φ := fun fl r => fl = .next ∧ exCls "IndexError" = "IndexError" ∧ ∃ T, SldRaised a1 a2 l m T r) hFd rfl rfl rfl rfl rfl rfl hm (by lia) (fun z hz => am j y z hy hz) (fun T r q => by rw [q.1]; decide) (fun h => EvR.item_out_h (k := j + 1) H (.name (i := 1) hFd rfl rfl) (.name (i := 3) hFd rfl rfl) (by rw [List.length_map]; exact h) (by lia)) (fun h => ⟨rfl, rfl, "IndexError", rfl, i + 1, j + 1, _, _, _, _, rfl, rfl, rfl, I'.end (.inl hle)⟩) fun h => ⟨rfl, "IndexError", rfl, i + 1, j + 1, _, _, _, _, rfl, rfl, rfl, I'.end (.inr h)⟩) fun fl r h => by
          obtain ⟨rfl, h⟩ := h; exact Ex.nil ⟨rfl, h⟩
    · -- the handler
      intro e r hr
      obtain ⟨T, _, i, j, mis, unx, se, sa, hse, hsa, rfl, N⟩ := hr
      have lm := N.lm
      have lu := N.lu
      have li := N.li
      have lj := N.lj
      refine Ex.seq (ρ' := sldSt a1 a2 l m i j (sld l m).1 unx se sa) (by
        have := Ex1.extend (F := FC.mark (FC.mk G A env sldNames 8 [("IndexError", .type "IndexError")] (scopeOf (stAt 2)) h0 [] X0) e) (Θ := noExc) (ρ := sldSt a1 a2 l m i j mis unx se sa) (i := 4) (x := "missing") (es := (l.map Dt.str).drop i) (hF.mark e) rfl (by decide) rfl (Ev.slice (.name (i := 0) (hF.mark e) rfl rfl) (.some (.name (i := 2) (hF.mark e) rfl rfl)) .none .none (by simp) (by rw [List.length_map]; exact small_lt (by lia)) (sliceD_from _ i)) (by simp; lia) (np := ⟨33, 12, 33, 19⟩) (apos := ⟨33, 12, 33, 26⟩) (cpos := ⟨33, 12, 33, 40⟩) (pos := ⟨33, 12, 33, 40⟩) (e := .Subscript (.Name "expected" ⟨33, 27, 33, 35⟩) (.Slice (some (.Name "i" ⟨33, 36, 33, 37⟩)) none none ⟨33, 36, 33, 38⟩) ⟨33, 27, 33, 39⟩)
        rw [← N.e1]; unfold sldSt at this ⊢; rw [List.map_append, List.map_drop]; exact this) ?_
      refine Ex.seq (ρ' := sldSt a1 a2 l m i j (sld l m).1 (sld l m).2 se sa) (by
        have := Ex1.extend (F := FC.mark (FC.mk G A env sldNames 8 [("IndexError", .type "IndexError")] (scopeOf (stAt 2)) h0 [] X0) e) (Θ := noExc) (ρ := sldSt a1 a2 l m i j (sld l m).1 unx se sa) (i := 5) (x := "unexpected") (es := (m.map Dt.str).drop j) (hF.mark e) rfl (by decide) rfl (Ev.slice (.name (i := 1) (hF.mark e) rfl rfl) (.some (.name (i := 3) (hF.mark e) rfl rfl)) .none .none (by simp) (by rw [List.length_map]; exact small_lt (by lia)) (sliceD_from _ j)) (by simp; lia) (np := ⟨34, 12, 34, 22⟩) (apos := ⟨34, 12, 34, 29⟩) (cpos := ⟨34, 12, 34, 41⟩) (pos := ⟨34, 12, 34, 41⟩) (e := .Subscript (.Name "actual" ⟨34, 30, 34, 36⟩) (.Slice (some (.Name "j" ⟨34, 37, 34, 38⟩)) none none ⟨34, 37, 34, 39⟩) ⟨34, 30, 34, 40⟩)
        rw [← N.e2]; unfold sldSt at this ⊢; rw [List.map_append, List.map_drop]; exact this) ?_
      exact Ex.brk (.inr ⟨rfl, i, j, se, sa, rfl⟩)
    · rcases h with ⟨rfl, i', j', mis', unx', se, sa, rfl, I', hlt⟩ | ⟨rfl, h⟩
      · refine Ex.nil ⟨_, hlt, _, ?_, i', j', mis', unx', rfl, rfl, I'⟩
        exact .keep (.keep (.keep (.keep (.keep (.keep (.drop (.drop .nil)))))))
      · exact ⟨rfl, h⟩
  · obtain ⟨rfl, i, j, se, sa, rfl⟩ := h
    refine Ex.freeze (i := 4) (x := "missing") rfl (by decide) rfl rfl (Ex.freeze (i := 5) (x := "unexpected") rfl (by decide) rfl rfl ?_)
    exact Ex.ret (.tup (.cons (.name (i := 4) hF rfl rfl) (.cons (.name (i := 5) hF rfl rfl) .nil)) (show 2 ≤ sizeLine by decide)) rfl
end
end Mine
end

section
open PySem PySem.Calls PyProof.Rows PySem.W
namespace Mine
section
variable {F : FC} {ρ : List Sl} {n : Nat} {Φ : Fl → List Sl → Prop} {Θ : String → List Sl → Prop}
theorem FC.X_set_own {i : Nat} {v : Value} {a : Addr} {o o' : Ob} (e : ρ[i]? = some (.own v a o)) : F.X (ρ.set i (.own v a o')) = F.X ρ := by unfold FC.X; rw [owned_set_own e]
/-- an own list's truth -/
theorem Tr.own_list {i : Nat} {x : Str} {np : Pos} {v : Value} {a : Addr} {ds : List Dt} (hF : F.Ok n) (hx : F.names[i]? = some x) (hne : x ≠ "") (h1 : ρ[i]? = some (.own v a (.list ds))) (hsz : ds.length ≤ 1000) : Tr F ρ (.Name x np) (!ds.isEmpty) := by
  intro s X Q E hq
  obtain ⟨hv, vs, L, hr⟩ := (X.ob (List.mem_of_getElem? h1)).1
  subst hv
  show wpAny _ _ (eval (.Name x np) F.env >>= _) _ _ _
  refine wpAny_bind (load_own hF X hx hne h1 (wpAny_bind (wpAny_standAt (wpAny_holding ?_))))
  have hl := hr.length
  refine wpAny_truthy_list L.isList (by simp; lia) ?_
  cases hr <;> exact hq s.heap _ (.refl X.stays)
/-- an own list's last item is taken -/
theorem Ex1.pop {i k : Nat} {x y : Str} {np apos cpos yp pos : Pos} {v : Value} {a : Addr} {ds : List Dt} {d : Dt} (hF : F.Ok n) (hx : F.names[i]? = some x) (hne : x ≠ "") (hy : F.names[k]? = some y) (hk : k < F.own) (h1 : ρ[i]? = some (.own v a (.list (ds ++ [d])))) (hsz : ds.length ≤ 1000)
    (hfew : ((backTo cpos (starEach [] F.env)).all (fun x => !x.1) && (backToKw cpos (keywordEach [] F.env)).all (fun x => x.1.isSome) && decide (([] : List PySem.Expr).length + ([] : List Keyword).length + (if ([] : List Keyword).isEmpty then 0 else 1) < 30)) = true := by rfl)
    (hline : (apos.endLine == cpos.line) = true := by rfl) (hb : backTo cpos (starEach [] F.env) = [] := by rfl)
    (hs : swapsWith (.Call (.Attribute (.Name x np) "pop" apos) [] [] cpos) (some (.Name y yp)) pos.line F.env = pure false := by rfl) :
    Ex1 F ρ (.Assign [.Name y yp] (.Call (.Attribute (.Name x np) "pop" apos) [] [] cpos) pos) (fun fl r => fl = .next ∧ r = (ρ.set i (.own v a (.list ds))).set k (.imm d)) Θ := by
  intro s X Q E hq _
  obtain ⟨hv, vs, ⟨nn, hl⟩, hr⟩ := (X.ob (List.mem_of_getElem? h1)).1
  subst hv
  have hlen := hr.length
  obtain ⟨u, hu, ru⟩ := hr.get (k := ds.length) (d := d) (by simp)
  have htake : RpL (F.X ρ) s.heap (vs.take ds.length) ds := by simpa using hr.take ds.length
  simp at hlen
  refine wpAny_Assign_Name (wpAny_Call_method rfl hfew hline PySem.F.plainAttrs_list PySem.F.slot_list_pop PySem.F.type_list_pop (load_own hF X hx hne h1 ⟨⟨_, hl, rfl⟩, fun b e => (by cases e; exact ⟨_, hl, rfl⟩), ?_⟩)) hs
  rw [hb]
  obtain ⟨X2, S2⟩ := own_list (ws := vs.take ds.length) X hx h1 hl (fun xs => xs.eraseIdxIfInBounds (vs.toArray.size - 1)) (by
    have : vs.toArray.size - 1 = ds.length := by simp [hlen]
    rw [this, Array.eraseIdxIfInBounds, dif_pos (by simp [hlen])]
    apply Array.ext'
    rw [Array.toList_eraseIdx]
    show vs.eraseIdx ds.length = vs.take ds.length
    rw [List.eraseIdx_eq_take_drop_succ, List.drop_eq_nil_of_le (by lia), List.append_nil]) htake
  refine P.pop_list (y := u) hl (by simpa [hlen] using hu) ?_ (by rw [sizeLine_eq]; simp; lia)
  have sm := Stp.same X S2
  refine store_ok (s := { s with heap := _ }) hF X2 hy hk (by rw [FC.X_set_own h1]; exact ru.same sm fun _ q => q) fun h2 tk2 X3 S3 => ?_
  exact hq .next h2 tk2 .next _ ⟨rfl, rfl⟩ X3 trivial (S2.trans S3)
theorem own_strs {l : List Str} {vs : List Value} {X : List Addr} {h : Heap} (R : RpL X h vs (l.map .str)) (x : Str) : ∀ m (hm : m < vs.toArray.size), isStrOf x vs.toArray[m] = (l[m]'(by have := R.length; simpa [this] using hm) == x) := fun m hm => by
  have hlen : vs.length = l.length := by rw [R.length, List.length_map]
  have hm' : m < l.length := by rw [← hlen]; simpa using hm
  obtain ⟨v, e1, r⟩ := R.get (k := m) (d := .str l[m]) (by simp [hm'])
  obtain ⟨t, rfl⟩ := r.str'
  have : vs.toArray[m] = .str l[m] t := by
    have h2 : m < vs.length := by simpa using hm
    simpa [List.getElem?_eq_getElem h2] using e1
  rw [this]; rfl
/-- an own list loses the first item that is the text -/
theorem Ex1.remove {i : Nat} {x : Str} {np apos cpos pos : Pos} {e : PySem.Expr} {v : Value} {a : Addr} {l : List Str} {y : Str} {j : Nat} (hF : F.Ok n) (hx : F.names[i]? = some x) (hne : x ≠ "") (h1 : ρ[i]? = some (.own v a (.list (l.map .str)))) (he : Ev F ρ e (.str y)) (hsz : l.length ≤ 1000)
    (hj : j < l.length) (hit : l[j] = y) (hno : ∀ m (hm : m < l.length), m < j → l[m] ≠ y)
    (hfew : ((backTo cpos (starEach [e] F.env)).all (fun x => !x.1) && (backToKw cpos (keywordEach [] F.env)).all (fun x => x.1.isSome) && decide ([e].length + ([] : List Keyword).length + (if ([] : List Keyword).isEmpty then 0 else 1) < 30)) = true := by rfl)
    (hline : (apos.endLine == cpos.line) = true := by rfl) (hb : backTo cpos (starEach [e] F.env) = [(false, eval e F.env)] := by rfl) :
    Ex1 F ρ (.Expr (.Call (.Attribute (.Name x np) "remove" apos) [e] [] cpos) pos) (Turns ρ i v a (.list ((l.eraseIdx j).map .str))) Θ := by
  intro s X Q E hq _
  refine wpAny_Expr ?_ (not_inter hF)
  obtain ⟨hv, vs, ⟨nn, hl⟩, hr⟩ := (X.ob (List.mem_of_getElem? h1)).1
  subst hv
  refine wpAny_Call_method rfl hfew hline PySem.F.plainAttrs_list PySem.F.slot_list_remove PySem.F.type_list_remove (load_own hF X hx hne h1 ⟨⟨_, hl, rfl⟩, fun b e => (by cases e; exact ⟨_, hl, rfl⟩), ?_⟩)
  rw [hb]
  refine P.remove_list (he s X _ _ fun w h' tk' g r => ?_)
  obtain ⟨t, rfl⟩ := r.str'
  have X' := X.grow g
  have hl' : h'.get? a = some (LO vs nn) := g.kp.same hl (plain_ty rfl)
  have R := hr.kp g.kp
  have hS := R.strsAre
  have hlen : vs.length = l.length := by rw [R.length, List.length_map]
  have hat := own_strs R y
  obtain ⟨X2, S2⟩ := own_list (ws := vs.eraseIdx j) (ds' := (l.eraseIdx j).map .str) X' hx h1 hl' (fun xs => xs.eraseIdxIfInBounds j) (by
    rw [Array.eraseIdxIfInBounds, dif_pos (by simp [hlen]; exact hj)]
    apply Array.ext'
    rw [Array.toList_eraseIdx]) (by
    have h2 := (R.take j).append (R.drop (j + 1))
    rw [← List.map_take, ← List.map_drop, ← List.map_append] at h2
    rw [List.eraseIdx_eq_take_drop_succ, List.eraseIdx_eq_take_drop_succ]; exact h2)
  refine ⟨vs.toArray, nn, isStrOf y, j, by simpa [hlen] using hj, by rw [sizeLine_eq]; simp; lia, hl', fun z hz => eq_isStrOf y t hS z (by simpa using hz), by rw [hat]; simp [hit], fun m hm hmj => by rw [hat]; simpa using hno m _ hmj, ?_⟩
  exact hq .next _ tk' .next _ ⟨rfl, rfl⟩ X2 trivial ((Stp.of_grow g).trans S2)
/-- .. where no item is the text -/
theorem Ex1.remove_raise {i : Nat} {x : Str} {np apos cpos pos : Pos} {e : PySem.Expr} {v : Value} {a : Addr} {l : List Str} {y : Str} (hF : F.Ok n) (hx : F.names[i]? = some x) (hne : x ≠ "") (h1 : ρ[i]? = some (.own v a (.list (l.map .str)))) (he : Ev F ρ e (.str y)) (hsz : l.length ≤ 1000)
    (hno : ∀ m (hm : m < l.length), l[m] ≠ y) (hΘ : Θ "ValueError" ρ)
    (hfew : ((backTo cpos (starEach [e] F.env)).all (fun x => !x.1) && (backToKw cpos (keywordEach [] F.env)).all (fun x => x.1.isSome) && decide ([e].length + ([] : List Keyword).length + (if ([] : List Keyword).isEmpty then 0 else 1) < 30)) = true := by rfl)
    (hline : (apos.endLine == cpos.line) = true := by rfl) (hb : backTo cpos (starEach [e] F.env) = [(false, eval e F.env)] := by rfl) (hq0 : F.hd = false := by rfl) :
    Ex1 F ρ (.Expr (.Call (.Attribute (.Name x np) "remove" apos) [e] [] cpos) pos) Φ Θ := by
  intro s X Q E _ hE
  refine wpAny_Expr ?_ (not_inter hF)
  obtain ⟨hv, vs, ⟨nn, hl⟩, hr⟩ := (X.ob (List.mem_of_getElem? h1)).1
  subst hv
  refine wpAny_Call_method rfl hfew hline PySem.F.plainAttrs_list PySem.F.slot_list_remove PySem.F.type_list_remove (load_own hF X hx hne h1 ⟨⟨_, hl, rfl⟩, fun b e => (by cases e; exact ⟨_, hl, rfl⟩), ?_⟩)
  rw [hb]
  refine seqMethod1_meets PySem.F.slot_list_remove PySem.F.entry_list_remove (he s X _ _ fun w h' tk' g r => ?_)
  obtain ⟨t, rfl⟩ := r.str'
  have X' := X.grow g
  have hl' : h'.get? a = some (LO vs nn) := g.kp.same hl (plain_ty rfl)
  have R := hr.kp g.kp
  have hS := R.strsAre
  have hat := own_strs R y
  refine ⟨⟨_, hl', rfl⟩, PySem.F.args_list_remove_2 _ _, _, MeetsSeq.list_remove_none a vs.toArray nn (.str y t) (isStrOf y) (fun z hz => eq_isStrOf y t hS z (by simpa using hz)) (fun m hm => by rw [hat]; simpa using hno m _), hl', hF.hand hq0, fun h2 tk2 x hx => ?_⟩
  have g2 : Grow F.G h' h2 := .of_keep g.stays hx.keeps
  exact hE "ValueError" x h2 tk2 ρ hΘ (X'.grow g2) (exc_new X' (fun b o e => g.kp.live e) hx (by decide)) (.of_grow (g.trans g2))
end
end Mine
end

section
open PySem PySem.Calls PyProof.Rows PySem.W
namespace Mine
/-- taken one by one from a bag: what it lacks, what is left of it -/
noncomputable def uld : List Str → List Str → List Str × List Str
  | [], m => ([], m)
  | x :: r, m => if m.contains x then uld r (m.erase x) else (x :: (uld r m).1, (uld r m).2)
theorem find_first {l : List Str} {y : Str} (h : l.contains y = true) : ∃ j, ∃ hj : j < l.length, l[j] = y ∧ (∀ m (hm : m < l.length), m < j → l[m] ≠ y) ∧ l.eraseIdx j = l.erase y := by
  induction l with
  | nil => simp at h
  | cons x r ih =>
    by_cases e : x = y
    · subst e
      exact ⟨0, by simp, rfl, fun m _ hm => absurd hm (Nat.not_lt_zero _), by simp⟩
    · have h' : r.contains y = true := by
        simp only [List.contains_cons, Bool.or_eq_true, beq_iff_eq] at h
        exact h.resolve_left fun q => e q.symm
      obtain ⟨j, hj, h1, h2, h3⟩ := ih h'
      refine ⟨j + 1, by simpa using hj, h1, fun m hm hmj => ?_, ?_⟩
      · cases m with
        | zero => exact e
        | succ m => simpa using h2 m (by simpa using hm) (by lia)
      · rw [List.eraseIdx_cons_succ, h3, List.erase_cons_tail (by simpa using e)]
section
variable {G : GC}
noncomputable def uldSt (v1 v2 : Value) (a1 a2 a3 : Addr) (ex act mis : List Str) (si : Sl) : List Sl := [.own v1 a1 (.list (ex.reverse.map .str)), .own v2 a2 (.list (act.map .str)), .own (.ref a3) a3 (.list (mis.map .str)), si]
theorem uld_ok (W : Wd G) {l m : List Str} (v1 v2 : Value) (a1 a2 : Addr) (hl : l.length ≤ 500) (hm : m.length ≤ 500) : FnC G 1 (.ref 35) [.own v1 a1 (.list (l.reverse.map .str)), .own v2 a2 (.list (m.map .str))] fun d ps' => d = .tup [strD (uld l m).1, strD (uld l m).2] ∧ ∃ o, ps' = [.own v1 a1 (.list o), .imm (strD (uld l m).2)] := by
  refine Fn.of (k := 3) (n := 0) (kk := 2) (own := 4) (pn := ["expected", "actual"]) (names := ["expected", "actual", "missing", "item"]) (gls := [("ValueError", .type "ValueError")]) (W.def (i := 1) rfl)
    (.of (by decide) (by decide) (by decide +kernel) (by decide +kernel) (W.gls [18])) W.nolimit rfl rfl (by decide) rfl rfl (by decide +kernel) (fun fd a b c => .pure fun vs hv => bindK (fun _ => all2 fun _ _ => by kernel_rfl) fd a b c vs hv) fun A env h0 X0 hF => ?_
  refine Ex.own_new (i := 2) hF rfl (Nat.lt_of_sub_pos (by decide : 0 < 4 - 2)) fun a3 => ?_
  refine Ex.cons (Ψ := fun fl r => fl = .next ∧ ∃ si, r = uldSt v1 v2 a1 a2 a3 [] (uld l m).2 (uld l m).1 si) (Ex1.while_inv (fun b r => ∃ ex act mis, b = ex.length ∧ r = uldSt v1 v2 a1 a2 a3 ex act mis .unk ∧ ex.length + mis.length ≤ l.length ∧ act.length ≤ m.length ∧ mis ++ (uld ex act).1 = (uld l m).1 ∧ (uld ex act).2 = (uld l m).2) l.length hF ⟨l, m, [], rfl, rfl, by simp, Nat.le_refl _, rfl, rfl⟩ (fun _ _ q => q.elim) fun b r hi => ?_) fun fl r h => ?_
  · obtain ⟨ex, act, mis, rfl, rfl, h1, h2, e1, e2⟩ := hi
    cases ex with
    | nil =>
      refine .inl ⟨(Tr.own_list (i := 0) (ds := []) hF rfl (by decide) rfl (by simp)).as rfl, rfl, .unk, ?_⟩
      rw [← e1, ← e2]; unfold uld; rw [List.append_nil]
    | cons x r =>
      have hrev : (x :: r).reverse.map Dt.str = r.reverse.map Dt.str ++ [.str x] := by simp
      simp only [List.length_cons] at h1
      refine .inr ⟨(Tr.own_list (i := 0) (ds := (x :: r).reverse.map Dt.str) hF rfl (by decide) rfl (by simp; lia)).as (by rw [hrev]; simp), ?_⟩
      refine Ex.seq (ρ' := uldSt v1 v2 a1 a2 a3 r act mis (.imm (.str x))) (Ex1.mono (Ex1.pop (i := 0) (k := 3) (ds := r.reverse.map Dt.str) (d := .str x) hF rfl (by decide) rfl (Nat.lt_of_sub_pos (by decide : 0 < 4 - 3)) (by unfold uldSt; rw [hrev]; rfl) (by simp; lia)) fun fl r h => h) ?_
      refine Ex.cons (Ψ := fun fl r' => fl = .next ∧ ∃ act' mis', r' = uldSt v1 v2 a1 a2 a3 r act' mis' (.imm (.str x)) ∧ r.length + mis'.length ≤ l.length ∧ act'.length ≤ m.length ∧ mis' ++ (uld r act').1 = (uld l m).1 ∧ (uld r act').2 = (uld l m).2) (Ex1.try_catch (Ψ := fun r' => act.contains x = false ∧ r' = uldSt v1 v2 a1 a2 a3 r act mis (.imm (.str x))) (j := 0) hF rfl (by decide) PySem.F.isExc_ValueError PySem.F.notTuple_ValueError (by rw [isSubtype_type]; kernel_rfl) ?_ ?_) fun fl r' h => ?_
      · cases hc : act.contains x with
        | true =>
          obtain ⟨j, hj, g1, g2, g3⟩ := find_first hc
          refine Ex.cons (Ex1.remove (i := 1) (l := act) (y := x) (j := j) hF rfl (by decide) rfl (.name (i := 3) hF rfl rfl) (by lia) hj g1 g2) fun fl r' h => ?_
          obtain ⟨rfl, rfl⟩ := h
          refine Ex.nil ⟨rfl, act.erase x, mis, ?_, by lia, Nat.le_trans (List.length_erase_le ..) h2, ?_, ?_⟩
          · rw [g3]; rfl
          · rw [uld, if_pos hc] at e1; exact e1
          · rw [uld, if_pos hc] at e2; exact e2
        | false =>
          refine Ex.cons (Ψ := fun _ _ => False) (Ex1.remove_raise (i := 1) (l := act) (y := x) hF rfl (by decide) rfl (.name (i := 3) hF rfl rfl) (by lia) (fun m hm q => ?_) ⟨by decide, rfl, rfl⟩) fun _ _ q => q.elim
          have : x ∈ act := q ▸ List.getElem_mem hm
          simp [this] at hc
      · intro e r' hr
        obtain ⟨hc, rfl⟩ := hr
        refine Ex.cons (Ex1.append (i := 2) (d := .str x) (hF.mark e) rfl (by decide) rfl (.name (i := 3) (hF.mark e) rfl rfl) (by rw [List.length_map]; exact small_lt (by lia))) fun fl r' h => ?_
        obtain ⟨rfl, rfl⟩ := h
        refine Ex.nil ⟨rfl, act, mis ++ [x], ?_, by simp; lia, h2, ?_, ?_⟩
        · unfold uldSt; rw [List.map_append]; rfl
        · rw [uld, if_neg (by rw [hc]; decide)] at e1; rw [List.append_assoc]; exact e1
        · rw [uld, if_neg (by rw [hc]; decide)] at e2; exact e2
      · obtain ⟨rfl, act', mis', rfl, q1, q2, q3, q4⟩ := h
        exact Ex.nil ⟨r.length, by simp, _, .keep (.keep (.keep (.drop .nil))), r, act', mis', rfl, rfl, q1, q2, q3, q4⟩
  · obtain ⟨rfl, si, rfl⟩ := h
    refine Ex.freeze (i := 1) (x := "actual") rfl (by decide) rfl rfl (Ex.freeze (i := 2) (x := "missing") rfl (by decide) rfl rfl ?_)
    exact Ex.ret (.tup (.cons (.name (i := 2) hF rfl rfl) (.cons (.name (i := 1) hF rfl rfl) .nil)) (show 2 ≤ sizeLine by decide)) ⟨_, rfl, rfl, _, rfl⟩
end
end Mine
end

section
open PySem PySem.Calls PyProof.Rows PySem.W
namespace Mine
section
variable {F : FC} {ρ : List Sl} {n : Nat}
theorem RpL.anyStr {X Y : List Addr} {h : Heap} {vs : List Value} {l : List Str} (r : RpL X h vs (l.map .str)) : RpL Y h vs (l.map .str) := RpL.of_strsAre r.strsAre
/-- a list is copied: a new object -/
theorem list_fresh {j : Nat} {f : Str} {fp pos : Pos} {e : PySem.Expr} {l : List Str} (hF : F.Ok n) (hg : F.gls[j]? = some (f, .type "list")) (h1 : Ev F ρ e (strD l)) (hsz : l.length ≤ 1000) (hs : (starEach [e] F.env).any (·.1) = false := by rfl) (hse : starEach [e] F.env = (false, eval e F.env) :: starEach [] F.env := by rfl)
    {s : Shared} (X : Asr F ρ s.heap) {Q : Value → Shared → Prop} {E : Value → Shared → Prop} (hq : ∀ a vs h' tk', Grow F.G s.heap h' → s.heap.get? a = none → LAt h' a vs → (∀ X, RpL X h' vs (l.map .str)) → Q (.ref a) { s with heap := h', toks := tk' }) :
    wpAny (model F.G.prog F.G.w) F.A (eval (.Call (.Name f fp) [e] [] pos) F.env) Q E s := by
  refine wpAny_Call_NameR (name_glob hF hg X.stays ?_)
  refine callWith_of (P := fun h => In F.G h) ?_ (fun h st => (hF.gls _ (List.mem_of_getElem? hg)).2.2.1 _ h st) (evalArgs_any hs (EvL.cons h1 .nil hse s X pos _ _ fun vs h1 tk1 g1 r1 => ⟨g1.stays, ?_⟩))
  · have : (backTo pos (starEach [e] F.env)).any (·.1) = (starEach [e] F.env).any (·.1) := by unfold backTo; rw [List.any_map]; rfl
    rw [this, hs]; rfl
  · obtain ⟨v, rfl, k1⟩ := r1.one
    obtain ⟨al, ws, rfl, ha, L, R⟩ := k1.list'
    obtain ⟨nn, e⟩ := L
    refine call_list_seq (s := { s with heap := h1, toks := tk1 }) _ (.inl rfl) e rfl rfl (fun h' c' hk hD => ?_) (by have := R.length; simp at this; rw [sizeLine_eq]; simp; lia)
    have g2 : Grow F.G h1 h' := .of_keep g1.stays hk
    exact hq _ ws h' tk1 (g1.trans g2) (g1.kp.none (Heap.get?_none_of_le (Nat.le_refl _))) ⟨c', hD⟩ fun Y => (R.kp g2.kp).anyStr
/-- a call that turns two lists made for it -/
theorem ev_call_lists2 {k j j2 : Nat} {f lf : Str} {fv : Value} {fp p1 p2 p3 p4 pos : Pos} {e1 e2 : PySem.Expr} {l m : List Str} {d dx : Dt} (hF : F.Ok n) (hg : F.gls[j]? = some (f, fv)) (hg2 : F.gls[j2]? = some (lf, .type "list")) (h1 : Ev F ρ e1 (strD l)) (h2 : Ev F ρ e2 (strD m)) (hl : l.length ≤ 1000) (hm : m.length ≤ 1000)
    (hc : ∀ v1 v2 a1 a2, FnC F.G k fv [.own v1 a1 (.list (l.map .str)), .own v2 a2 (.list (m.map .str))] fun d' ps' => d' = d ∧ ∃ o, ps' = [.own v1 a1 (.list o), .imm dx]) (hk : k ≤ n)
    (hs : (starEach [PySem.Expr.Call (.Name lf p1) [e1] [] p2, .Call (.Name lf p3) [e2] [] p4] F.env).any (·.1) = false := by rfl)
    (hs1 : (starEach [e1] F.env).any (·.1) = false := by rfl) (hs2 : starEach [e1] F.env = (false, eval e1 F.env) :: starEach [] F.env := by rfl) (hs3 : (starEach [e2] F.env).any (·.1) = false := by rfl) (hs4 : starEach [e2] F.env = (false, eval e2 F.env) :: starEach [] F.env := by rfl)
    (hb : backTo pos (starEach [PySem.Expr.Call (.Name lf p1) [e1] [] p2, .Call (.Name lf p3) [e2] [] p4] F.env) = [(false, eval (PySem.Expr.Call (.Name lf p1) [e1] [] p2) F.env), (false, eval (PySem.Expr.Call (.Name lf p3) [e2] [] p4) F.env)] := by rfl) (hq0 : F.hd = false := by rfl) :
    Ev F ρ (.Call (.Name f fp) [.Call (.Name lf p1) [e1] [] p2, .Call (.Name lf p3) [e2] [] p4] [] pos) d := by
  intro s X Q E hq
  refine wpAny_Call_NameR (name_glob hF hg X.stays ?_)
  refine callWith_of (P := fun h => In F.G h) ?_ (fun h st => (hF.gls _ (List.mem_of_getElem? hg)).2.2.1 _ h st) (evalArgs_any hs ?_)
  · have : (backTo pos (starEach [PySem.Expr.Call (.Name lf p1) [e1] [] p2, .Call (.Name lf p3) [e2] [] p4] F.env)).any (·.1) = (starEach [PySem.Expr.Call (.Name lf p1) [e1] [] p2, .Call (.Name lf p3) [e2] [] p4] F.env).any (·.1) := by unfold backTo; rw [List.any_map]; rfl
    rw [this, hs]; rfl
  rw [hb]
  refine Calls.spliced_cons (list_fresh hF hg2 h1 hl hs1 hs2 X fun a vs h1' tk1 g1 n1 L1 r1 => ?_)
  refine Calls.spliced_cons (list_fresh (s := { s with heap := h1', toks := tk1 }) hF hg2 h2 hm hs3 hs4 (X.grow g1) fun b ws h2' tk2 g2 n2 L2 r2 => ?_)
  have g12 := g1.trans g2
  have X2 := X.grow g12
  have nb : s.heap.get? b = none := g1.kp.none n2
  have hab : a ≠ b := fun q => by obtain ⟨nn, e⟩ := L1; rw [q] at e; exact absurd e (by rw [n2]; exact nofun)
  have nX : ∀ c, s.heap.get? c = none → c ∉ F.X ρ := fun c hc q => by obtain ⟨o, e⟩ := X.dom c q; rw [hc] at e; cases e
  have nB : ∀ c, s.heap.get? c = none → F.G.B.get? c = none := fun c hc => by
    cases q : F.G.B.get? c with
    | none => rfl
    | some o => have := X.stays.stays _ o q; rw [hc] at this; cases this
  have L1' := L1.kp g2.kp
  refine Calls.spliced_nil ⟨g12.stays, ?_⟩
  refine ((hc (.ref a) (.ref b) a b).use hF hk hq0) (F.X ρ) { s with heap := h2', toks := tk2 } [.ref a, .ref b] g12.stays X2.frs ?_ ?_ ?_ ?_ _ _ ?_
  · intro c hc
    rcases List.mem_append.mp hc with q | q
    · exact X2.dom c q
    · rcases List.mem_cons.mp q with rfl | q
      · obtain ⟨nn, e⟩ := L1'; exact ⟨_, e⟩
      · obtain rfl := List.mem_singleton.mp q
        obtain ⟨nn, e⟩ := L2; exact ⟨_, e⟩
  · exact List.nodup_cons.mpr ⟨fun q => hab (List.mem_singleton.mp q), List.nodup_cons.mpr ⟨nofun, .nil⟩⟩
  · intro c hc
    rcases List.mem_cons.mp hc with rfl | q
    · exact ⟨nX _ n1, nB _ n1⟩
    · obtain rfl := List.mem_singleton.mp q
      exact ⟨nX _ nb, nB _ nb⟩
  · exact .cons ⟨rfl, ⟨rfl, vs, L1', (r1 _).kp g2.kp⟩, nofun⟩ (.cons ⟨rfl, ⟨rfl, ws, L2, r2 _⟩, nofun⟩ .nil)
  · rintro v d' h3 tk3 ps' ⟨rfl, o, rfl⟩ i3 kp3 _ _ rv _
    refine hq v h3 tk3 ⟨fun c oc ec => ?_, i3⟩ (rv.same (fun _ _ e _ => e) fun c hc => List.mem_append_left _ hc)
    refine (g12.kp c oc ec).next fun p ep => kp3 c p (fun q => ?_) ep
    rcases List.mem_cons.mp q with rfl | q
    · rw [n1] at ec; cases ec
    · obtain rfl := List.mem_singleton.mp q
      rw [nb] at ec; cases ec
end
end Mine
end

section
open PySem PySem.Calls PyProof.Rows PySem.W Builtin Builtin.ObjectAttr
namespace Mine
/-- what is asked of a plain class C, made by the def fI, for the attributes of its instances -/
structure ClsOK (K : Frag) (C fI : Addr) : Prop where
  makes : makesIn K C = true
  init : findIn K (.ref C) "__init__" = some (some (.ref fI))
  initT : typeIn K (.ref fI) = some (.type "function")
  plain : plainOver K C = true
  value : findIn K (.ref C) "value" = some none
  read : findIn K (.ref C) "read" = some none
  hasDict : (clsIn K C).any (·.hasDict) = true
  seta : findIn K (.ref C) "__setattr__" = some (some (.builtin "object.__setattr__"))
  geta : findIn K (.ref C) "__getattribute__" = some (some (.builtin "object.__getattribute__"))
  hook : findIn K (.ref C) "__getattr__" = some none
section
variable {prog : Program} {w : World} {A : Around} {E : Value → Shared → Prop} {s : Shared} {K : Frag} {x C dx : Addr} {ox od : Obj} {name : Str}
theorem taker_none (h : findIn K (.ref C) name = some none) : takerIn K C name = some none := by unfold takerIn; rw [h]; rfl
theorem find_own {v : Value} (hd : (clsIn K C).any (·.hasDict) = true) (h : findIn K (.ref C) name = some none) (hl : lookIn name od = some (some v)) : findObj K C (some od) name = some (.value v) := by
  obtain ⟨cd, hc, hd⟩ := any_some hd
  unfold findObj
  rw [hc, h]
  simp only [Option.bind_some]
  unfold PySem.W.ownOf
  rw [if_pos hd]; dsimp only; rw [hl]; rfl
/-- an attribute of an object's own is read -/
theorem inst_get {v : Value} {Q : Value → Shared → Prop} {expr : Bool} (X : K.In s.heap) (I : InstAt s.heap x ox C (some od)) (hga : findIn K (.ref C) "__getattribute__" = some (some (.builtin "object.__getattribute__"))) (hd : (clsIn K C).any (·.hasDict) = true) (hn : findIn K (.ref C) name = some none) (hl : lookIn name od = some (some v)) (hh : handedIn v = true)
    (h : Q v { s with toks := s.toks + 1 }) : wpAny (model prog w) A (getAttr (.ref x) name expr) Q E s := get_value X I hga (find_own hd hn hl) hh h
/-- an attribute of an object's own is stored -/
theorem inst_set {v : Value} {es : List DictEntry} {n : Nat} {Q : Unit → Shared → Prop} (X : K.In s.heap) (I : InstAt s.heap x ox C (some od)) (hx : ox.dict = some dx) (hsa : findIn K (.ref C) "__setattr__" = some (some (.builtin "object.__setattr__"))) (hp : plainOver K C = true) (hd : (clsIn K C).any (·.hasDict) = true) (hn : findIn K (.ref C) name = some none)
    (hl : (lookIn name od).isSome = true) (hfr : (Obj.putName name (PyData.keyHash w.params name) (.str name (s.toks + 1)) v od).isFreed = false) (e' : (Obj.putName name (PyData.keyHash w.params name) (.str name (s.toks + 1)) v od).data = .dict es.toArray n) (hz : es.length ≤ 1000)
    (h : ∀ h', (∀ b, b ≠ dx → h'.get? b = s.heap.get? b) → h'.get? dx = some (Obj.putName name (PyData.keyHash w.params name) (.str name (s.toks + 1)) v od) → Q () { s with heap := h', toks := s.toks + 1 + 1 }) :
    wpAny (model prog w) A (setAttr (.ref x) name v) Q E s := by
  refine set_plain X I hsa (osa_open (s := { s with toks := s.toks + 1 }) X I hp (taker_none hn) fun b => ?_)
  obtain ⟨cd, hc, hd'⟩ := any_some hd
  obtain ⟨hx0, hcl, hn0, hdd⟩ := I
  rw [hx] at hdd
  have D : s.heap.get? dx = some od := hdd
  obtain ⟨oc, odi, oda, osl⟩ := ox
  dsimp only at hcl hx
  subst hcl hx
  refine wpAny_bind (wpAny_pure (wpAny_bind (wpAny_bind (wpAny_loadPart hx0 (wpAny_bind ((looks_clsIn X hc).at ?_))))))
  rw [hd']
  refine wpAny_pure (a := some dx) (wpAny_bind (wpAny_pure (wpAny_bind ?_)))
  unfold nsSet
  refine wpAny_bind (wpAny_bind (wpAny_askSetting (wpAny_pure (wpAny_bind (wpAny_mkText (wpAny_bind (wpAny_loadPart D ?_)))))))
  unfold lookIn at hl
  split at hl
  · rename_i es₀ n₀ q
    rw [q]
    dsimp only
    have c : (!es₀.any (·.key.isStr name) && es₀.any (·.refKey)) = false := by
      rw [← Array.any_toList, ← Array.any_toList]
      split at hl
      · rename_i en he
        rw [List.any_eq_true.mpr ⟨en, List.mem_of_find?_eq_some he, List.find?_some he⟩]; rfl
      · split at hl
        · cases hl
        · rename_i z; rw [Bool.not_eq_true] at z; rw [z, Bool.and_false]
    rw [aRefKeyMayBeTheName_at, c]
    refine wpAny_updatePart D ?_
    have D' := Heap.get?_update_self (Obj.putName name (PyData.keyHash w.params name) (.str name (s.toks + 1)) v) D hfr
    refine wpAny_bind (wpAny_lookBehind D' (by rw [e']; exact pastItsLine_dict (by rw [List.size_toArray, sizeLine_eq]; lia)) ?_)
    exact wpAny_pure (h _ (fun b hb => Heap.get?_update_other _ _ (Ne.symm hb)) D')
  · cases hl
end
end Mine
end

section
open PySem PySem.Calls PyProof.Rows PySem.W Builtin
namespace Mine
section
variable {F : FC} {ρ : List Sl} {n : Nat}
theorem picked_to (l : List UInt8) (k : Nat) : KBy.picked l.toArray none (some (k : Int)) = (l.take k).toArray := by
  rw [KBc.picked_eq]
  simp only [Option.elim_none, Option.elim_some, List.drop_zero, Nat.sub_zero]
  rw [clipAt_nat]
  simp [List.take_eq_take_iff]
theorem picked_from (l : List UInt8) (k : Nat) : KBy.picked l.toArray (some (k : Int)) none = (l.drop k).toArray := by
  rw [KBc.picked_eq]
  simp only [Option.elim_none, Option.elim_some]
  rw [clipAt_nat]
  congr 1
  by_cases h : k ≤ l.length
  · rw [Nat.min_eq_left (by simpa using h)]
    exact List.take_of_length_le (by simp)
  · rw [Nat.min_eq_right (by simp; lia)]
    rw [List.drop_eq_nil_of_le (by simp), List.drop_eq_nil_of_le (by lia)]; simp
theorem ev_slice_bytes {e : PySem.Expr} {lo hi : Option PySem.Expr} {sp pos : Pos} {x r : List UInt8} {a b : Option Int} (h1 : Ev F ρ e (.bytes x.toArray)) (hl : EvO F ρ lo a) (hu : EvO F ρ hi b) (hsz : x.length ≤ 1000) (hr : KBy.picked x.toArray a b = r.toArray)
    (hs : ∀ o k, ∃ ops, subscripted (.Slice lo hi Option.none sp) false o k = operate ops (getItem o k) := by intro _ _; exact ⟨_, rfl⟩) : Ev F ρ (.Subscript e (.Slice lo hi Option.none sp) pos) (.bytes r.toArray) := by
  rw [← hr]
  intro s h Q E hq
  refine Subscript_ (h1 s h _ _ fun v h1' tk1 g1 r1 => wpAny_Slice (hl.run (h.grow g1) fun vl h2' tk2 g2 p1 => hu.run ((h.grow g1).grow g2) fun vu h3 tk3 g3 p2 => ?_))
  rw [evalPart_none]
  refine wpAny_pure ?_
  have g13 := (g1.trans g2).trans g3
  obtain ⟨t, rfl⟩ := r1.bytes'
  obtain ⟨ops, hs⟩ := hs (.bytes x.toArray t) (.ref h3.objs.size)
  have g5 : Grow F.G h3 (h3.push { cls := .type "slice", data := .fields #[vl, vu, .none] }) := .push g3.stays _
  refine tail_any (T := "bytes") rfl FB.slot_bytes_getitem.lookup (getItem_meets (typeIs_bytes _ _ _) (by decide) FB.slot_bytes_getitem FB.entry_bytes_getitem (FB.args_bytes_getitem_2 _ _) (KBc.meets_slice2 x.toArray t _ p1 p2)
    ⟨Heap.IsSliceOf.new _ _ _ _, Nat.le_trans (KBc.size_picked_le _ _ _) (by rw [sizeLine_eq]; simp; lia), fun t' k => ?_⟩) hs
  exact hq _ _ k (g13.trans g5) (.bytes _ t')
end
section
variable {G : GC} {A : Around}
theorem call_len_b (l : List UInt8) (hs : l.length ≤ 1000) : CallOK G A (.builtin "len") [.bytes l.toArray] (.int l.length) := fun X s vs st _ _ h1 _ _ hq => by
  obtain ⟨v, rfl, k1⟩ := h1.one
  obtain ⟨_, rfl⟩ := k1.bytes'
  refine PySem.W.len_bytes (by simp; lia) ?_
  simp only [List.size_toArray]
  exact gives_here st (.int _ _) hq
theorem item_bytes (b : UInt8) (l : List UInt8) (hs : (b :: l).length ≤ 1000) : ItemOK G A (.bytes (b :: l).toArray) (.int 0) (.int b.toNat) := fun X s v u st _ h1 h2 _ _ hq => by
  obtain ⟨_, rfl⟩ := h1.bytes'
  obtain ⟨_, rfl⟩ := h2.int'
  refine PySem.W.getItem_bytes (by lia) (by decide) (by simp) ?_
  first
    | exact fun t' k => gives_here st (.int _ _) hq
    | exact gives_here st (.int _ _) hq
end
theorem latin_road {id : String} {b : Array UInt8} : _codecs.decodeRoad id b (PySem.Str.ofString "latin-1") none [] = (_codecs.runDecoder id _codecs.latin1Decoder none true b 0 [] >>= fun r => mkStr ⟨r.1⟩) := by kernel_rfl
end Mine
namespace Mine
section
theorem latin_text {b : Array UInt8} {t t1 t2 : Tok} {d x : PySem.Str} {n : Nat} (hd : ∀ id, _codecs.runDecoder id _codecs.latin1Decoder none true b 0 [] = pure (x.cps, n)) :
    Meets («_codecs.decode.text» ⟨[.bytes b t, .str (PySem.Str.ofString "latin-1") t1, .none, .str d t2], []⟩) (fun _ R s => x.length ≤ sizeLine ∧ R (.ok (.ret (.str x s.toks))) { s with toks := s.toks + 1 }) := by
  refine .of_wp fun prog w A R s hS => ?_
  obtain ⟨hsz, h⟩ := hS
  show wpAny _ _ (Bytes.bytesLike _ (.bytes b t) >>= fun r => _) _ _ s
  refine wpAny_bind (wpAny_of_eq KBd.like_eq ?_)
  refine wpAny_bind (wpAny_of_eq KBd.held_eq ?_)
  show wpAny _ _ (_codecs.decodeRoad _ b (PySem.Str.ofString "latin-1") none [] >>= fun v => _) _ _ s
  rw [latin_road, hd]
  refine wpAny_bind (wpAny_bind (wpAny_pure ?_))
  exact wpAny_mkStr (wpAny_pure ⟨_, rfl, h⟩) hsz
theorem latin_entry {c : UInt8} {cs : List UInt8} {t u : Tok} : «bytes.decode» ⟨[.bytes (c :: cs).toArray t, .str (PySem.Str.ofString "latin-1") u], []⟩ = (mkStr (PySem.Str.ofString "utf-8") >>= fun _ => mkStr (PySem.Str.ofString "latin-1") >>= fun e => mkStr (PySem.Str.ofString "bytes.decode") >>= fun d =>
    call (.builtin "_codecs.decode.text") [.bytes (c :: cs).toArray t, e, .none, d] >>= fun v => ret v) := by kernel_rfl
theorem latin_empty {t u : Tok} : «bytes.decode» ⟨[.bytes #[] t, .str (PySem.Str.ofString "latin-1") u], []⟩ = (rule "bytes.decode.empty" >>= fun _ => retStr Str.empty) := by kernel_rfl
theorem args_bytes_decode_2 (a b : Value) : argsOk "bytes.decode" ⟨[a, b], []⟩ := by unfold argsOk; kernel_rfl
noncomputable def latinS (l : List UInt8) : PySem.Str := ⟨(l.map UInt8.toNat).toArray⟩
theorem call_decode {G : GC} {A : Around} (l : List UInt8) (hl : l.length ≤ 1000) (hd : ∃ n, ∀ id, _codecs.runDecoder id _codecs.latin1Decoder none true l.toArray 0 [] = pure ((latinS l).cps, n)) :
    CallOK G A (.builtin "bytes.decode") [.bytes l.toArray, .str "latin-1"] (.str (latinS l)) := fun X s vs st _ _ h1 _ _ hq => by
  obtain ⟨v, u, rfl, k1, k2⟩ := h1.two
  obtain ⟨t, rfl⟩ := k1.bytes'
  obtain ⟨tu, rfl⟩ := k2.str'
  cases l with
  | nil =>
    refine call_meets (S := fun _ R s => ∀ t' k, R (.ok (.ret (.str (latinS []) t'))) { s with toks := k }) FB.slot_bytes_decode (typeIs_bytes _ _ _) FB.entry_bytes_decode (args_bytes_decode_2 _ _) (.of_wp fun prog w A R s h => ?_) fun t' k => hq _ s.heap k (.refl st) (.str _ _)
    show wpAny _ _ («bytes.decode» ⟨[.bytes #[] t, .str (PySem.Str.ofString "latin-1") tu], []⟩) _ _ s
    rw [latin_empty]
    refine wpAny_bind (wpAny_rule ?_)
    unfold retStr
    exact wpAny_bind (wpAny_mkStr (wpAny_pure ⟨_, rfl, h _ _⟩) (by decide))
  | cons c cs =>
    refine call_meets (S := fun _ R s => ∀ t' k, R (.ok (.ret (.str (latinS (c :: cs)) t'))) { s with toks := k }) FB.slot_bytes_decode (typeIs_bytes _ _ _) FB.entry_bytes_decode (args_bytes_decode_2 _ _) (.of_wp fun prog w A R s h => ?_) fun t' k => hq _ s.heap k (.refl st) (.str _ _)
    show wpAny _ _ («bytes.decode» ⟨[.bytes (c :: cs).toArray t, .str (PySem.Str.ofString "latin-1") tu], []⟩) _ _ s
    rw [latin_entry]
    refine wpAny_bind (wpAny_mkStr (wpAny_bind (wpAny_mkStr (wpAny_bind (wpAny_mkStr ?_ (by decide))) (by decide))) (by decide))
    obtain ⟨n, hd⟩ := hd
    exact wpAny_bind (call_function_meets KBd.kind_text KBd.plain_text KBd.entry_text (KBd.args_text _ _ _ _) (latin_text hd) ⟨by unfold latinS Str.length; rw [sizeLine_eq]; simp at hl ⊢; lia, wpAny_pure ⟨_, rfl, h _ _⟩⟩)
theorem latin_0 : ∃ n, ∀ id, _codecs.runDecoder id _codecs.latin1Decoder none true ([] : List UInt8).toArray 0 [] = pure ((latinS []).cps, n) := ⟨0, fun id => by kernel_rfl⟩
theorem latin_1 : ∃ n, ∀ id, _codecs.runDecoder id _codecs.latin1Decoder none true ([233] : List UInt8).toArray 0 [] = pure ((latinS [233]).cps, n) := ⟨1, fun id => by kernel_rfl⟩
theorem latin_2 : ∃ n, ∀ id, _codecs.runDecoder id _codecs.latin1Decoder none true ([233, 46] : List UInt8).toArray 0 [] = pure ((latinS [233, 46]).cps, n) := ⟨2, fun id => by kernel_rfl⟩
theorem latin_3 : ∃ n, ∀ id, _codecs.runDecoder id _codecs.latin1Decoder none true ([101] : List UInt8).toArray 0 [] = pure ((latinS [101]).cps, n) := ⟨1, fun id => by kernel_rfl⟩
end
end Mine
end

section
open PySem PySem.Calls PyProof.Rows PySem.W
namespace Mine
/-! the stream of octets -/
noncomputable def lamE : Option PySem.Expr := match ((Mine.bodyOf (stAt 26))[1]? : Option Stmt) with | some (.Assign _ e _) => some e | _ => none
noncomputable def lamPar : Arguments := match lamE with | some (.Lambda a _ _ _) => a | _ => ⟨[], [], none, [], [], none, []⟩
noncomputable def lamBody : PySem.Expr := match lamE with | some (.Lambda _ b _ _) => b | _ => .Constant .none 0 ⟨0, 0, 0, 0⟩
noncomputable def lamScope : Scope := match lamE with | some (.Lambda _ _ s _) => s | _ => { kind := .function, names := [], isGenerator := false, isCoroutine := false }
noncomputable def sdict (P : Params) (t1 t2 : Tok) (nn : Nat) (b : Array UInt8) (tb : Tok) (fn : Addr) : Obj :=
  { cls := .type "dict", data := .dict #[{ hash := PyData.keyHash P "value", key := .str "value" t1, val := .bytes b tb }, { hash := PyData.keyHash P "read", key := .str "read" t2, val := .ref fn }] nn }
noncomputable def sdict1 (P : Params) (t1 : Tok) (nn : Nat) (b : Array UInt8) (tb : Tok) : Obj :=
  { cls := .type "dict", data := .dict #[{ hash := PyData.keyHash P "value", key := .str "value" t1, val := .bytes b tb }] nn }
theorem look_value {P : Params} {t1 t2 : Tok} {nn : Nat} {b : Array UInt8} {tb : Tok} {fn : Addr} : lookIn "value" (sdict P t1 t2 nn b tb fn) = some (some (.bytes b tb)) := by rfl
theorem look_read {P : Params} {t1 t2 : Tok} {nn : Nat} {b : Array UInt8} {tb : Tok} {fn : Addr} : lookIn "read" (sdict P t1 t2 nn b tb fn) = some (some (.ref fn)) := by rfl
theorem put_value {P : Params} {t1 t2 t3 : Tok} {nn : Nat} {b c : Array UInt8} {tb tc : Tok} {fn : Addr} : Obj.putName "value" (PyData.keyHash P "value") (.str "value" t3) (.bytes c tc) (sdict P t1 t2 nn b tb fn) = sdict P t1 t2 nn c tc fn := by rfl
theorem put_read {P : Params} {t1 t3 : Tok} {nn : Nat} {b : Array UInt8} {tb : Tok} {fn : Addr} : Obj.putName "read" (PyData.keyHash P "read") (.str "read" t3) (.ref fn) (sdict1 P t1 nn b tb) = sdict P t1 t3 (nn + 1) b tb fn := by rfl
theorem put_first {P : Params} {t3 : Tok} {c : Array UInt8} {tc : Tok} : Obj.putName "value" (PyData.keyHash P "value") (.str "value" t3) (.bytes c tc) emptyDict = sdict1 P t3 1 c tc := by rfl
structure StreamAt (G : GC) (x dx fn c cc : Addr) (b : List UInt8) (h : Heap) : Prop where
  inst : h.get? x = some (instObj 66 dx)
  dict : ∃ t1 t2 nn tb, h.get? dx = some (sdict G.w.params t1 t2 nn b.toArray tb fn)
  fn : ∃ qual pm ctv, h.get? fn = some (kla_obj "<lambda>" qual lamPar lamBody lamScope [("stream", c)] pm cc ctv) ∧ h.CodeRec (.ref cc) qual
  cell : h.IsCell c (some (.ref x))
theorem codeRec_kept {h h' : Heap} {cc : Addr} {qual : Str} (x : h.CodeRec (.ref cc) qual) (k : ∀ o, h.get? cc = some o → Kept1 o (h'.get? cc)) : h'.CodeRec (.ref cc) qual := by
  obtain ⟨c, o, vs, t, e, ho, hd, hv⟩ := x
  cases e
  rcases k o ho with e | ⟨_, sl, e⟩ | ⟨ps, ps', rfl, hT, e⟩
  · exact ⟨_, _, vs, t, rfl, e, hd, hv⟩
  · exact ⟨_, _, vs, t, rfl, e, hd, hv⟩
  · have hps : ps = vs := by injection hd
    subst hps
    have hv' : ps.toList[1]? = some (.str qual t) := by simpa using hv
    generalize ps.toList = l at hT hv'
    match l, hT with
    | [], _ => cases hv'
    | .int _ _ :: .int _ _ :: _ :: _, _ => cases hv'
noncomputable def streamOb (G : GC) (x dx fn c cc : Addr) (b : List UInt8) : Ob := .abs [x, fn, c, cc] (StreamAt G x dx fn c cc b)
theorem StreamAt.ob {G : GC} {x dx fn c cc : Addr} {b : List UInt8} {h : Heap} {X : List Addr} (S : StreamAt G x dx fn c cc b h) : ObAt X h (.ref x) dx (streamOb G x dx fn c cc b) := by
  refine ⟨S, ?_, fun a ha => ?_, fun h h' S k => ?_⟩
  · obtain ⟨t1, t2, nn, tb, e⟩ := S.dict
    exact ⟨_, _, _, e, rfl, plain_ty rfl, ty_ne (by decide)⟩
  · obtain ⟨qual, pm, ctv, e, cr⟩ := S.fn
    rcases List.mem_cons.mp ha with rfl | ha
    · exact ⟨_, S.inst, fun ⟨_, _, _, _, q, _⟩ => by cases q⟩
    rcases List.mem_cons.mp ha with rfl | ha
    · exact ⟨_, e, fun ⟨_, _, _, _, q, _⟩ => by cases q⟩
    rcases List.mem_cons.mp ha with rfl | ha
    · obtain ⟨o, e, d⟩ := S.cell
      exact ⟨o, e, fun ⟨_, _, _, _, q, _⟩ => by rw [d] at q; cases q⟩
    obtain rfl := List.mem_singleton.mp ha
    obtain ⟨_, o, vs, t, e, ho, hd, hv⟩ := cr
    cases e
    exact ⟨o, ho, fun ⟨_, _, _, _, q, q2⟩ => by rw [hd] at q; cases q; exact q2 _ _ hv⟩
  · obtain ⟨t1, t2, nn, tb, e1⟩ := S.dict
    obtain ⟨qual, pm, ctv, e2, cr⟩ := S.fn
    refine ⟨(k x (by simp) _ S.inst).same ⟨nofun, nofun⟩, ⟨t1, t2, nn, tb, (k dx (by simp) _ e1).same (plain_ty rfl)⟩, ⟨qual, pm, ctv, (k fn (by simp) _ e2).same (plain_ty rfl), codeRec_kept cr (k cc (by simp))⟩, ?_⟩
    obtain ⟨o, e, d⟩ := S.cell
    rcases k c (by simp) o e with e' | ⟨_, sl, e'⟩ | ⟨ps, ps', rfl, _, e'⟩
    · exact ⟨_, e', d⟩
    · exact ⟨_, e', d⟩
    · cases d
end Mine
end

section
open PySem PySem.Calls PyProof.Rows PySem.W
namespace Mine
theorem ObAt.kept {X Y : List Addr} {h h' : Heap} {v : Value} {a : Addr} {o : Ob} (x : ObAt X h v a o) (sm : Same X h h') (hs : ∀ a, a ∈ Y → a ∈ X) (k : ∀ b ∈ a :: o.sup, ∀ ob, h.get? b = some ob → Kept1 ob (h'.get? b)) : ObAt Y h' v a o := by
  obtain ⟨ob, e, pl, _⟩ := x.plain
  have ea : h'.get? a = h.get? a := by rw [e, (k a List.mem_cons_self _ e).same pl]
  cases o with
  | list ds => exact x.frame sm hs fun b hb => by obtain rfl := List.mem_singleton.mp hb; exact ea
  | dict p w ds => exact x.frame sm hs fun b hb => by obtain rfl := List.mem_singleton.mp hb; exact ea
  | abs l P =>
    obtain ⟨p, ⟨ob2, es, ep, da, dd, pl2, t⟩, q, r⟩ := x
    exact ⟨r _ _ p k, ⟨ob2, es, ep, ea.trans da, dd, pl2, t⟩, fun b hb => let ⟨o, eo, nn⟩ := q b hb; Kept1.notNeut (k b (List.mem_cons_of_mem _ hb) o eo) nn, r⟩
section
variable {F : FC} {ρ : List Sl} {n : Nat} {Φ : Fl → List Sl → Prop} {Θ : String → List Sl → Prop} {h h' : Heap}
/-- what still holds where one object alone has turned -/
structure Still (F : FC) (X : List Addr) (h h' : Heap) : Prop where
  same : Same X h h'
  has : ∀ x v, Has F h x v → Has F h' x v
  kept : KpBut (· ∈ F.P) F.h0 h'
  frs : FramesOK F.A F.G.B h'
  loc : ∃ m, h'.Ns1 F.env.locals m ∧ ∃ o, h'.get? F.env.locals = some o ∧ ((o.cls = .type "frame" ∧ F.env.locals ∉ F.X0) ∨ (o.cls = .type "dict" ∧ F.env.locals ∈ F.X0))
  cells : ∀ x c, F.env.kindOf x = some .cell → F.env.cells.lookup x = some c → ∃ v, h'.IsCell c v
  live : ∀ b o, h.get? b = some o → ∃ o', h'.get? b = some o'
theorem Kept1.cell {o : Obj} {x : Option Obj} {v : Option Value} (k : Kept1 o x) (hd : o.data = .cell v) : ∃ o', x = Option.some o' ∧ o'.data = .cell v := by
  rcases k with e | ⟨_, sl, e⟩ | ⟨ps, ps', rfl, _, e⟩
  · exact ⟨_, e, hd⟩
  · exact ⟨_, e, hd⟩
  · cases hd
theorem Asr.still {a : Addr} {oa : Obj} (X : Asr F ρ h) (k : KpBut (· = a) h h') (la : ∃ ob, h'.get? a = some ob) (ea : h.get? a = some oa) (pa : Plain oa) (na : ∀ v, oa.data ≠ .cell v) (nl : a ≠ F.env.locals) (n0 : F.h0.get? a = none ∨ a ∈ F.P) (nb : ¬ Bears (F.X ρ) a oa) : Still F (F.X ρ) h h' := by
  have cellk : ∀ c v, h.IsCell c v → h'.IsCell c v := fun c v ⟨o, e, d⟩ => (k c o (fun q => by subst q; rw [ea] at e; cases e; exact na _ d) e).cell d
  obtain ⟨m, ⟨lo, es, ep, le, ld, lr⟩, fo, hfo, hfc⟩ := X.loc
  rw [le] at hfo; cases hfo
  obtain ⟨lo', le', lc, ldd⟩ := (k _ lo (fun q => nl q.symm) le).some
  have ld' : lo'.data = .dict es ep := by
    rcases ldd with q | ⟨ps, q⟩
    · exact q.trans ld
    · subst q; cases ld
  refine ⟨fun b o e q => ?_, fun x v q => ?_, fun b o hb e => (X.kept b o hb e).next fun p e' => k b p (fun q => ?_) e', ?_, ⟨m, ⟨lo', es, ep, le', ld', lr⟩, lo', le', hfc.imp (fun q => ⟨lc.trans q.1, q.2⟩) fun q => ⟨lc.trans q.1, q.2⟩⟩, fun x c a b => let ⟨v, q⟩ := X.cells x c a b; ⟨v, cellk c v q⟩, fun b o e => ?_⟩
  · by_cases hb : b = a
    · subst hb; rw [ea] at e; cases e; exact absurd q nb
    · exact (k b o hb e).same q.plain
  · rcases q with ⟨kd, m', ⟨o1, es1, ep1, e1, d1, r1⟩, q2⟩ | ⟨kd, c, q1, q2⟩
    · rw [le] at e1; cases e1
      rw [ld] at d1; cases d1
      exact .inl ⟨kd, m', ⟨lo', es, ep, le', ld', r1⟩, q2⟩
    · exact .inr ⟨kd, c, q1, cellk _ _ q2⟩
  · subst q
    rcases n0 with q | q
    · rw [e] at q; cases q
    · exact hb q
  · obtain ⟨fs, e, q, r⟩ := X.frs
    have key : ∀ b ∈ fs.filterMap (·.frame), ∃ o o' es ep, h.get? b = some o ∧ h'.get? b = some o' ∧ o'.data = o.data ∧ o'.cls = .type "frame" ∧ o'.data = .dict es ep := fun b hb => by
      obtain ⟨o, es, ep, ho, hc, hd⟩ := r b hb
      obtain ⟨o', e', c', d'⟩ := (k b o (fun q => by subst q; rw [ea] at ho; cases ho; exact pa.1 hc) ho).some
      have : o'.data = o.data := d'.resolve_right fun ⟨ps, q⟩ => by subst q; cases hc
      exact ⟨o, o', es, ep, ho, e', this, c'.trans hc, this.trans hd⟩
    refine ⟨fs, e, ?_, fun b hb => ?_⟩
    · clear e
      induction fs with
      | nil => trivial
      | cons env rest ih =>
        obtain ⟨k1, ⟨L, ob, k2, k3, k4, k5⟩, k6⟩ := q
        obtain ⟨o, o', _, _, j1, j2, j3, _⟩ := key L (by rw [List.filterMap_cons, k2]; exact List.mem_cons_self)
        rw [k4] at j1; cases j1
        exact ⟨k1, ⟨L, o', k2, k3, j2, fun vs q => k5 vs (j3.symm.trans q)⟩, ih k6 (fun b hb => r b (by rw [List.filterMap_cons, k2]; exact List.mem_cons_of_mem _ hb)) fun b hb => key b (by rw [List.filterMap_cons, k2]; exact List.mem_cons_of_mem _ hb)⟩
    · obtain ⟨_, o', es, ep, _, e', _, c, d⟩ := key b hb
      exact ⟨o', es, ep, e', c, d⟩
  · by_cases hb : b = a
    · subst hb; exact la
    · obtain ⟨o', e', _⟩ := (k b o hb e).some; exact ⟨o', e'⟩
/-- an object of the frame's own has turned in a call -/
theorem Asr.own_kept {i : Nat} {x : Str} {v : Value} {a : Addr} {o o' : Ob} (X : Asr F ρ h) (hx : F.names[i]? = some x) (e : ρ[i]? = some (.own v a o)) (k : KpBut (· = a) h h') (i' : In F.G h') (hob : ObAt (F.X ρ) h' v a o') (hsup : o'.sup = o.sup) :
    Asr F (ρ.set i (.own v a o')) h' ∧ Stp F ρ (ρ.set i (.own v a o')) h h' := by
  have hm := mem_owned e
  have hown := X.ob (List.mem_of_getElem? e)
  obtain ⟨oa, ea, pa, nn, nt⟩ := X.own_plain hm
  have haX : a ∈ F.X ρ := List.mem_append_right _ hm
  have eX : F.X (ρ.set i (.own v a o')) = F.X ρ := FC.X_set_own e
  have eo := owned_set_own (o' := o') e
  obtain ⟨ob', e', _⟩ := hob.plain
  have nv : ∀ b, F.vol0 b → b ≠ a := fun b hb q => hown.2.1 a List.mem_cons_self (q ▸ hb)
  have na : ∀ u, oa.data ≠ .cell u := fun u q2 => by
    have := hown.1
    cases o with
    | list ds => obtain ⟨_, vs, ⟨_, e2⟩, _⟩ := this; rw [ea] at e2; cases e2; cases q2
    | dict p w kvs => obtain ⟨_, _, kvs, ⟨o2, es, ep, e2, _, hd, _⟩, _⟩ := this; rw [ea] at e2; cases e2; rw [hd] at q2; cases q2
    | abs l P => obtain ⟨_, ⟨o2, es, ep, e2, hd, _⟩, _⟩ := this; rw [ea] at e2; cases e2; rw [hd] at q2; cases q2
  have S := X.still k ⟨ob', e'⟩ ea pa na (fun q => nv _ (.inl rfl) q.symm) (X.fresh a hm).2 fun q => by
    rcases q with ⟨_, _, _, q | q⟩ | q
    · exact nt q
    · exact q.1 haX
    · exact q.1 haX
  refine ⟨⟨i', S.kept, S.frs, S.loc, S.cells, by rw [eo]; exact X.nodup, by rw [eo]; exact X.apart, by rw [eo]; exact X.fresh, by rw [eX]; exact fun b hb => let ⟨o, e⟩ := X.dom b hb; S.live b o e, ?_, by rw [List.length_set]; exact X.len⟩, ⟨fun b ob hb eb => k b ob (fun q => hb (q ▸ .inr hm)) eb, S.live, fun b hb => .inl (by rw [eo] at hb; exact hb)⟩⟩
  rw [eX]
  refine .of_get fun j y sl e1 e2 => ?_
  by_cases hj : i = j
  · subst hj
    have hlt := (List.getElem?_eq_some_iff.mp e).1
    rw [List.getElem?_set_self hlt] at e2
    cases e2
    rw [hx] at e1; cases e1
    have := X.sls.get hx e
    exact ⟨this.1.imp id (S.has _ _), hob, by rw [hsup]; exact hown.2.1, by rw [hsup]; exact hown.2.2⟩
  · rw [List.getElem?_set_ne hj] at e2
    have := X.sls.get e1 e2
    cases sl with
    | unk => trivial
    | imm d => obtain ⟨u, q1, q2⟩ := this; exact ⟨u, S.has _ _ q1, q2.same S.same fun _ q => q⟩
    | own v' a' o'' =>
      obtain ⟨q1, q2, q3, q4⟩ := this
      refine ⟨q1.imp id (S.has _ _), q2.kept S.same (fun _ q => q) fun b hb ob eb => k b ob (fun q => ?_) eb, q3, q4⟩
      subst q
      rcases List.mem_cons.mp hb with q | q
      · subst q; exact hj (owned_two X.nodup e e2)
      · exact q4 _ q haX
/-- an expression that turns what the frame owns -/
noncomputable def EvT (F : FC) (ρ : List Sl) (e : PySem.Expr) (d : Dt) (ρ' : List Sl) : Prop := ∀ s, Asr F ρ s.heap → ∀ (Q : Value → Shared → Prop) (E : Value → Shared → Prop),
  (∀ v h' tk', Asr F ρ' h' → Stp F ρ ρ' s.heap h' → Rp (F.X ρ') h' v d → Q v { s with heap := h', toks := tk' }) → wpAny (model F.G.prog F.G.w) F.A (eval e F.env) Q E s
theorem Ex1.assign_t {k : Nat} {y : Str} {e : PySem.Expr} {np pos : Pos} {d : Dt} {ρ' : List Sl} (hF : F.Ok n) (hy : F.names[k]? = some y) (hk : k < F.own) (he : EvT F ρ e d ρ') (hs : swapsWith e (some (.Name y np)) pos.line F.env = pure false := by rfl) :
    Ex1 F ρ (.Assign [.Name y np] e pos) (fun fl r => fl = .next ∧ r = ρ'.set k (.imm d)) Θ := by
  intro s X Q E hq _
  refine wpAny_Assign_Name (he s X _ _ fun v h1 tk1 X1 S1 r1 => ?_) hs
  refine store_ok (s := { s with heap := h1, toks := tk1 }) hF X1 hy hk r1 fun h2 tk2 X2 S2 => ?_
  exact hq .next h2 tk2 .next _ ⟨rfl, rfl⟩ X2 trivial (S1.trans S2)
theorem owned_split {v : Value} {a : Addr} {o : Ob} {i : Nat} (hn : (owned ρ).Nodup) (e : ρ[i]? = some (.own v a o)) : a ∉ owned (ρ.set i .unk) ∧ ∀ b, b ∈ owned ρ ↔ b = a ∨ b ∈ owned (ρ.set i .unk) := by
  have hlt := (List.getElem?_eq_some_iff.mp e).1
  have hp := owned_put (v := v) (a := a) (o := o) hlt
  rw [owned_set_own e] at hp
  have hn' := hp.nodup_iff.mp hn
  exact ⟨(List.nodup_cons.mp hn').1, fun b => (hp.mem_iff).trans List.mem_cons⟩
/-- a contract used on an object of the frame's own, and on data behind it -/
theorem callC_own {i k : Nat} {x : Str} {fv v : Value} {a : Addr} {o o' : Ob} {ds : List Dt} {d : Dt} (hF : F.Ok n) (hx : F.names[i]? = some x) (e : ρ[i]? = some (.own v a o)) (hc : FnC F.G k fv (.own v a o :: ds.map .imm) fun d' ps' => d' = d ∧ ∃ r, owned r = [] ∧ ps' = .own v a o' :: r) (hk : k ≤ n) (hsup : o'.sup = o.sup) (hq0 : F.hd = false)
    {s : Shared} (X : Asr F ρ s.heap) {vs : List Value} (hv : RpL (F.X ρ) s.heap vs ds) {Q : Value → Shared → Prop} {E : Value → Shared → Prop}
    (hq : ∀ u h' tk', Asr F (ρ.set i (.own v a o')) h' → Stp F ρ (ρ.set i (.own v a o')) s.heap h' → Rp (F.X (ρ.set i (.own v a o'))) h' u d → Q u { s with heap := h', toks := tk' }) : wpAny (model F.G.prog F.G.w) F.A (call fv (v :: vs)) Q E s := by
  have hm := mem_owned e
  have hown := X.ob (List.mem_of_getElem? e)
  obtain ⟨hna, hsp⟩ := owned_split X.nodup e
  have ho1 : owned (Sl.own v a o :: ds.map .imm) = [a] := congrArg (a :: ·) (owned_imm ds)
  have eX : ∀ b, b ∈ F.X (ρ.set i .unk) ++ [a] ↔ b ∈ F.X ρ := fun b => by
    unfold FC.X
    simp only [List.mem_append, hsp, List.mem_singleton]
    constructor
    · rintro ((q | q) | q)
      · exact .inl q
      · exact .inr (.inr q)
      · exact .inr (.inl q)
    · rintro (q | q | q)
      · exact .inl (.inl q)
      · exact .inr q
      · exact .inl (.inr q)
  refine (hc.use hF hk hq0) (F.X (ρ.set i .unk)) s (v :: vs) X.stays X.frs (fun b hb => X.dom b ((eX b).mp (by rw [ho1] at hb; exact hb))) (by rw [ho1]; exact List.nodup_cons.mpr ⟨nofun, .nil⟩) (fun b hb => ?_) ?_ _ _ ?_
  · rw [ho1] at hb
    obtain rfl := List.mem_singleton.mp hb
    refine ⟨fun q => ?_, (X.fresh _ hm).1⟩
    rcases List.mem_append.mp q with q | q
    · exact X.apart _ hm q
    · exact hna q
  · rw [ho1]
    refine .cons ⟨rfl, hown.1.frame (.of_kp (.refl _)) (fun b hb => (eX b).mp hb) fun _ _ => rfl, fun b hb q => hown.2.2 b hb ((eX b).mp q)⟩ (.of_rp (hv.same (.of_kp (.refl _)) fun b hb => (eX b).mp hb))
  · rintro u d' h' tk' ps' ⟨rfl, r, hr, rfl⟩ i' k' lv _ ru hob
    rw [ho1] at k'
    have ho2 : owned (Sl.own v a o' :: r) = [a] := congrArg (a :: ·) hr
    rw [ho2] at ru hob
    have hob' := (hob v a o' List.mem_cons_self).frame (Y := F.X ρ) (.of_kp (.refl _)) (fun b hb => (eX b).mpr hb) fun _ _ => rfl
    obtain ⟨X2, S2⟩ := X.own_kept hx e (k'.mono fun b q => List.mem_singleton.mp q) i' hob' hsup
    exact hq u h' tk' X2 S2 (ru.same (.of_kp (.refl _)) fun b hb => (eX b).mpr (by rw [FC.X_set_own e] at hb; exact hb))
/-- a def called on an object of the frame's own alone -/
theorem evT_call1 {i j k : Nat} {x f : Str} {fv v : Value} {a : Addr} {o o' : Ob} {d : Dt} {fp np pos : Pos} (hF : F.Ok n) (hg : F.gls[j]? = some (f, fv)) (hx : F.names[i]? = some x) (hne : x ≠ "") (e : ρ[i]? = some (.own v a o)) (hc : FnC F.G k fv [.own v a o] fun d' ps' => d' = d ∧ ∃ r, owned r = [] ∧ ps' = .own v a o' :: r) (hk : k ≤ n) (hsup : o'.sup = o.sup)
    (hs : (starEach [PySem.Expr.Name x np] F.env).any (·.1) = false := by rfl) (hb : backTo pos (starEach [PySem.Expr.Name x np] F.env) = [(false, eval (.Name x np) F.env)] := by rfl) (hq0 : F.hd = false := by rfl) :
    EvT F ρ (.Call (.Name f fp) [.Name x np] [] pos) d (ρ.set i (.own v a o')) := by
  intro s X Q E hq
  refine wpAny_Call_NameR (name_glob hF hg X.stays ?_)
  refine callWith_of (P := fun h => In F.G h) ?_ (fun h st => (hF.gls _ (List.mem_of_getElem? hg)).2.2.1 _ h st) (evalArgs_any hs ?_)
  · have : (backTo pos (starEach [PySem.Expr.Name x np] F.env)).any (·.1) = (starEach [PySem.Expr.Name x np] F.env).any (·.1) := by unfold backTo; rw [List.any_map]; rfl
    rw [this, hs]; rfl
  rw [hb]
  refine Calls.spliced_cons (load_own hF X hx hne e (Calls.spliced_nil ⟨X.stays, ?_⟩))
  exact callC_own (ds := []) hF hx e hc hk hsup hq0 X .nil fun u h' tk' X2 S2 r => hq u h' tk' X2 S2 r
/-- .. and on a datum -/
theorem evT_call2 {i j k : Nat} {x f : Str} {fv v : Value} {a : Addr} {o o' : Ob} {d d2 : Dt} {fp np pos : Pos} {e2 : PySem.Expr} (hF : F.Ok n) (hg : F.gls[j]? = some (f, fv)) (hx : F.names[i]? = some x) (hne : x ≠ "") (e : ρ[i]? = some (.own v a o)) (he2 : Ev F ρ e2 d2) (hc : FnC F.G k fv [.own v a o, .imm d2] fun d' ps' => d' = d ∧ ∃ r, owned r = [] ∧ ps' = .own v a o' :: r) (hk : k ≤ n) (hsup : o'.sup = o.sup)
    (hs : (starEach [PySem.Expr.Name x np, e2] F.env).any (·.1) = false := by rfl) (hb : backTo pos (starEach [PySem.Expr.Name x np, e2] F.env) = [(false, eval (.Name x np) F.env), (false, eval e2 F.env)] := by rfl) (hq0 : F.hd = false := by rfl) :
    EvT F ρ (.Call (.Name f fp) [.Name x np, e2] [] pos) d (ρ.set i (.own v a o')) := by
  intro s X Q E hq
  refine wpAny_Call_NameR (name_glob hF hg X.stays ?_)
  refine callWith_of (P := fun h => In F.G h) ?_ (fun h st => (hF.gls _ (List.mem_of_getElem? hg)).2.2.1 _ h st) (evalArgs_any hs ?_)
  · have : (backTo pos (starEach [PySem.Expr.Name x np, e2] F.env)).any (·.1) = (starEach [PySem.Expr.Name x np, e2] F.env).any (·.1) := by unfold backTo; rw [List.any_map]; rfl
    rw [this, hs]; rfl
  rw [hb]
  refine Calls.spliced_cons (load_own hF X hx hne e (Calls.spliced_cons (he2 s X _ _ fun v2 h1 tk1 g1 r1 => Calls.spliced_nil ⟨g1.stays, ?_⟩)))
  refine callC_own (ds := [d2]) (s := { s with heap := h1, toks := tk1 }) hF hx e hc hk hsup hq0 (X.grow g1) (.cons r1 .nil) fun u h' tk' X2 S2 r => hq u h' tk' X2 ((Stp.of_grow g1).trans S2) r
end
end Mine
end

section
open PySem PySem.Calls PyProof.Rows PySem.W
namespace Mine
/-- the class of the stream -/
noncomputable def ExOK (G : GC) : Prop := ∃ K : Frag, K.In G.B ∧ ClsOK K 66 63
section
variable {F : FC} {ρ : List Sl} {n : Nat} {Φ : Fl → List Sl → Prop} {Θ : String → List Sl → Prop} {xx dx fn c cc : Addr} {b : List UInt8}
theorem inst_at {G : GC} {h : Heap} (S : StreamAt G xx dx fn c cc b h) : ∃ t1 t2 nn tb, InstAt h xx (instObj 66 dx) 66 (some (sdict G.w.params t1 t2 nn b.toArray tb fn)) ∧ h.get? dx = some (sdict G.w.params t1 t2 nn b.toArray tb fn) := by
  obtain ⟨t1, t2, nn, tb, e⟩ := S.dict
  exact ⟨t1, t2, nn, tb, ⟨S.inst, rfl, rfl, e⟩, e⟩
theorem StreamAt.apart {G : GC} {h : Heap} (S : StreamAt G xx dx fn c cc b h) : xx ≠ dx ∧ fn ≠ dx ∧ c ≠ dx ∧ cc ≠ dx := by
  obtain ⟨t1, t2, nn, tb, e⟩ := S.dict
  obtain ⟨q, p, ct, e2, cr⟩ := S.fn
  refine ⟨fun z => ?_, fun z => ?_, fun z => ?_, fun z => ?_⟩
  · have := S.inst; rw [z, e] at this; cases this
  · rw [z, e] at e2; exact absurd (congrArg Obj.cls (Option.some.inj e2)) (ty_ne (by decide))
  · obtain ⟨o, e3, d⟩ := S.cell; rw [z, e] at e3; cases e3; cases d
  · obtain ⟨_, o, vs, t, e3, ho, d, _⟩ := cr; cases e3; rw [z, e] at ho; cases ho; cases d
/-- the stream's octets are read -/
theorem ev_value {i : Nat} {x : Str} {np apos : Pos} (W : ExOK F.G) (hF : F.Ok n) (hx : F.names[i]? = some x) (hne : x ≠ "") (h1 : ρ[i]? = some (.own (.ref xx) dx (streamOb F.G xx dx fn c cc b)))
    (he : ∀ env : Env, eval (.Attribute (.Name x np) "value" apos) env = (do
      let o ← eval (.Name x np) env
      standAt apos.atName
      let r ← holding [o] (getAttr o "value" true)
      letTemporaryGo (.Name x np) o r
      pure r) := by intro _; rfl) : Ev F ρ (.Attribute (.Name x np) "value" apos) (.bytes b.toArray) := by
  intro s X Q E hq
  obtain ⟨K, hK, C⟩ := W
  refine Attribute_any_ (load_own hF X hx hne h1 ?_) (he _)
  have S : StreamAt F.G xx dx fn c cc b s.heap := (X.ob (List.mem_of_getElem? h1)).1.1
  obtain ⟨t1, t2, nn, tb, I, _⟩ := inst_at S
  exact inst_get (fun a o e => X.stays.stays _ _ (hK a o e)) I C.geta C.hasDict C.value look_value rfl (hq _ s.heap _ (.refl X.stays) (.bytes _ _))
/-- other octets are laid into it -/
theorem ex1_value {i : Nat} {x : Str} {np apos pos : Pos} {e : PySem.Expr} {b' : List UInt8} (W : ExOK F.G) (hF : F.Ok n) (hx : F.names[i]? = some x) (hne : x ≠ "") (h1 : ρ[i]? = some (.own (.ref xx) dx (streamOb F.G xx dx fn c cc b))) (he : Ev F ρ e (.bytes b'.toArray))
    (hs : swapsWith e (some (.Attribute (.Name x np) "value" apos)) pos.line F.env = pure false := by rfl) :
    Ex1 F ρ (.Assign [.Attribute (.Name x np) "value" apos] e pos) (Turns ρ i (.ref xx) dx (streamOb F.G xx dx fn c cc b')) Θ := by
  intro s X Q E hq _
  obtain ⟨K, hK, C⟩ := W
  refine plainObj_wpAny_Assign_Attribute (he s X _ _ fun v h1' tk1 g1 r1 => ?_) hs
  have X1 := X.grow g1
  refine load_own (s := { s with heap := h1', toks := tk1 }) hF X1 hx hne h1 ?_
  have S : StreamAt F.G xx dx fn c cc b h1' := (X1.ob (List.mem_of_getElem? h1)).1.1
  obtain ⟨t1, t2, nn, tb, I, hd⟩ := inst_at S
  obtain ⟨t, rfl⟩ := r1.bytes'
  refine inst_set (s := { s with heap := h1', toks := tk1 }) (dx := dx) (es := [{ hash := PyData.keyHash F.G.w.params "value", key := .str "value" t1, val := .bytes b'.toArray t }, { hash := PyData.keyHash F.G.w.params "read", key := .str "read" t2, val := .ref fn }]) (n := nn) (fun a o e => X1.stays.stays _ _ (hK a o e)) I rfl C.seta C.plain C.hasDict C.value rfl rfl rfl (show 2 ≤ 1000 by decide) fun h2 oth ed => ?_
  rw [put_value] at ed
  obtain ⟨n1, n2, n3, n4⟩ := S.apart
  obtain ⟨q, pm, ct, e2, cr⟩ := S.fn
  have S2 : StreamAt F.G xx dx fn c cc b' h2 := ⟨(oth _ n1).trans S.inst, ⟨t1, t2, nn, t, ed⟩, ⟨q, pm, ct, (oth _ n2).trans e2, by
    obtain ⟨_, o, vs, t, e3, ho, d⟩ := cr; cases e3
    exact ⟨_, o, vs, t, rfl, (oth _ n4).trans ho, d⟩⟩, by obtain ⟨o, e3, d⟩ := S.cell; exact ⟨o, (oth _ n3).trans e3, d⟩⟩
  obtain ⟨X3, S3⟩ := X1.own_turn (o' := streamOb F.G xx dx fn c cc b') hx h1 oth (fun _ => S2.ob) rfl (fun ob es ep q1 q2 => by rw [hd] at q1; cases q1; exact ⟨_, _, _, ed, rfl, rfl⟩) (fun ob vs q1 q2 => by rw [hd] at q1; cases q1; cases q2) ⟨_, ed⟩
  exact hq .next _ _ .next _ ⟨rfl, rfl⟩ X3 trivial ((Stp.of_grow g1).trans S3)
end
section
variable {G : GC}
theorem taken_ok (W : Wd G) (Wx : ExOK G) {xx dx fn c cc : Addr} (b : List UInt8) (k : Nat) (hb : b.length ≤ 1000) : FnC G 1 (.ref 183) [.own (.ref xx) dx (streamOb G xx dx fn c cc b), .imm (.int k)] fun d ps' => d = .bytes (b.take k).toArray ∧ ∃ r, owned r = [] ∧ ps' = .own (.ref xx) dx (streamOb G xx dx fn c cc (b.drop k)) :: r := by
  refine Fn.of (k := 25) (n := 0) (kk := 1) (own := 3) (pn := ["stream", "count"]) (names := ["stream", "count", "taken"]) (gls := []) (W.def (i := 9) rfl)
    (.of (by decide) (by decide) (by decide +kernel) (by decide +kernel) (W.gls [])) W.nolimit rfl rfl (by decide) rfl rfl (by decide +kernel) (fun fd a b c => .pure fun vs hv => bindK (fun _ => all2 fun _ _ => by kernel_rfl) fd a b c vs hv) fun A env h0 X0 hF => ?_
  refine Ex.seq (Ex1.assign (i := 2) (d := .bytes (b.take k).toArray) hF rfl (Nat.lt_of_sub_pos (by decide : 0 < 3 - 2)) (ev_slice_bytes (ev_value (i := 0) Wx hF rfl (by decide) rfl) .none (.some (.name (i := 1) hF rfl rfl)) hb (picked_to b k))) ?_
  refine Ex.seq (ex1_value (i := 0) (b' := b.drop k) Wx hF rfl (by decide) rfl (ev_slice_bytes (ev_value (i := 0) Wx hF rfl (by decide) rfl) (.some (.name (i := 1) hF rfl rfl)) .none hb (picked_from b k))) ?_
  exact Ex.ret (.name (i := 2) hF rfl rfl) ⟨_, rfl, rfl, [_], rfl, rfl⟩
end
end Mine
end

section
open PySem PySem.Calls PyProof.Rows PySem.W
namespace Mine
noncomputable abbrev clos1 (c : Addr) : List (Str × Addr) := [("stream", c)]
theorem lam_names : lamScope.names = [(("count" : Str), NameKind.local), ("stream", .free), ("_law_taken", .globalImplicit)] := by rfl
section
variable {G : GC} {xx dx fn c cc : Addr} {b : List UInt8}
/-- the stream's read -/
theorem lam_call (W : Wd G) (Wx : ExOK G) {A : Around} (hA : A.handled = none) (hd : A.depth + 2 < recursionLimit) (hu : A.units + 16 < cLine) {X : List Addr} {s : Shared} (st : In G s.heap) (fr : FramesOK A G.B s.heap) (dom : Dom (X ++ [dx]) s.heap) (hX : dx ∉ X) (hB : G.B.get? dx = none)
    (S : StreamAt G xx dx fn c cc b s.heap) (hsup : ∀ a ∈ [xx, fn, c, cc], a ∉ X ++ [dx]) {k : Nat} {t : Tok} (hb : b.length ≤ 1000) {Q : Value → Shared → Prop} {E : Value → Shared → Prop}
    (hq : ∀ u h' tk', In G h' → KpBut (· ∈ [dx]) s.heap h' → Rp (X ++ [dx]) h' u (.bytes (b.take k).toArray) → StreamAt G xx dx fn c cc (b.drop k) h' → Q u { s with heap := h', toks := tk' }) : wpAny (model G.prog G.w) A (call (.ref fn) [.int k t]) Q E s := by
  obtain ⟨qual, pm, ctv, efn, cr⟩ := S.fn
  refine wpAny_call (kla_callFunE (body := lamBody) (by lia) efn rfl (by show lamScope.isCoroutine = false; rfl) (by show lamScope.isGenerator = false; rfl) rfl cr ?_)
  rw [show bindArgs (kla_fn "<lambda>" qual lamPar lamBody lamScope (clos1 c) pm (.ref cc) ctv) ⟨[.int k t], []⟩ = pure [(("count" : Str), Value.int k t)] from by kernel_rfl]
  refine wpAny_pure ?_
  show wpAny _ _ (newFunctionEnv lamScope mainGlobals (clos1 c) [("count", .int k t)] (qual ++ ".<locals>.") (some fn) (.ref cc) none builtinsNs) _ _ _
  simp only [newFunctionEnv, Option.isSome_none, Bool.false_eq_true, if_false]
  refine wpAny_bind (wpAny_alloc ?_)
  refine wpAny_bind (wpAny_layCells _ (fun name kind cells => by cases hkc : kind == NameKind.cell <;> simp [hkc]) _ _ _ _ ?_)
  show wpAny _ _ (forIn [(("count" : Str), Value.int k t)] PUnit.unit _ >>= _) _ _ { s with heap := s.heap.push { cls := .type "frame", data := .dict #[] } }
  have nb0 : ∀ b, s.heap.get? b = none → G.B.get? b = none := fun b e => by
    cases q : G.B.get? b with
    | none => rfl
    | some o => rw [st.stays b o q] at e; cases e
  have hL : s.heap.get? s.heap.objs.size = none := Heap.get?_none_of_le (Nat.le_refl _)
  obtain ⟨env, henv⟩ : ∃ env, env = newEnv lamScope s.heap.objs.size mainGlobals (clos1 c) (qual ++ ".<locals>.") (some fn) (.ref cc) none builtinsNs := ⟨_, rfl⟩
  have e1 : env.scope = lamScope := by rw [henv]; rfl
  have e2 : env.locals = s.heap.objs.size := by rw [henv]; rfl
  have e3 : env.cells = (clos1 c) := by rw [henv]; rfl
  have e4 : env.globals = mainGlobals := by rw [henv]; rfl
  have e5 : env.builtins = builtinsNs := by rw [henv]; rfl
  have e6 : env.frame = some s.heap.objs.size := by rw [henv]; rfl
  have ek : ∀ x, env.kindOf x = lamScope.names.lookup x := fun x => by rw [henv]; rfl
  refine wpAny_bind ?_
  rw [List.forIn_cons]
  refine wpAny_bind (wpAny_bind ?_)
  show wpAny _ _ (storeName (newEnv lamScope s.heap.objs.size mainGlobals (clos1 c) (qual ++ ".<locals>.") (some fn) (.ref cc) none builtinsNs) "count" (.int k t)) _ _ _
  rw [← henv, storeName_local (ek _) (by rw [e1]; rfl), e2]
  have ns0 : (s.heap.push { cls := .type "frame", data := .dict #[] }).Ns1 s.heap.objs.size fun _ => none := Heap.Ns1.of_empty (Heap.Ns.new s.heap (.type "frame"))
  refine wpAny_nsSet1EFk (s := { s with heap := s.heap.push { cls := .type "frame", data := .dict #[] } }) ns0 fun h1 hn1 hs1 hc1 => wpAny_pure ?_
  dsimp only
  rw [List.forIn_nil]
  refine wpAny_pure (wpAny_pure ?_)
  show Heap.NoLimit h1 ∧ codeAny _ _ (.expr lamBody (newEnv lamScope s.heap.objs.size mainGlobals (clos1 c) (qual ++ ".<locals>.") (some fn) (.ref cc) none builtinsNs)) _ _
  rw [← henv]
  have hk1 : ∀ b o, s.heap.get? b = some o → h1.get? b = some o := fun b o e => (hs1.2 b (Nat.ne_of_lt (Heap.lt_size e))).trans (Heap.get?_push_of_some _ e)
  have In1 : In G h1 := st.keep hk1
  have S1 : StreamAt G xx dx fn c cc b h1 := S.ob (X := []) |>.kp (.of_keep hk1) |>.1
  obtain ⟨fo, ho1, hc1, _⟩ := hc1 _ (Heap.get?_push_size _ rfl)
  obtain ⟨o2, es, ep, ho2, hd2, _⟩ := id hn1
  rw [ho1] at ho2; cases ho2
  obtain ⟨fs, hfs, hff, hfd⟩ := fr.kp (.of_keep hk1)
  refine ⟨W.nolimit.keeps In1.stays, kla_codeExpr ?_⟩
  have nocell : ∀ x, lamScope.names.lookup x ≠ some .cell := fun x q => by
    have := mem_of_lookup q
    rw [lam_names] at this
    simp at this
  have hok : (FC.mk G (A.deeper env) env ["count", "stream"] 1 [("_law_taken", .ref 183)] lamScope s.heap [dx] X).Ok 1 := by
    refine ⟨e1, by rw [show (FC.mk G (A.deeper env) env ["count", "stream"] 1 [("_law_taken", .ref 183)] lamScope s.heap [dx] X).env.scope = lamScope from e1]; rfl, e4, e5, fun _ => hA, ?_, ?_, W.nolimit, (show (["count", "stream"] : List Str).Nodup by decide), (show ∀ x ∈ (["count", "stream"] : List Str), (x == ("__debug__" : Str)) = false by decide), ?_, ?_, fun x c' q1 q2 => ?_, fun x hx => ?_, fun x y c' q1 q2 => ?_, fun i x q1 q2 => ?_, fun p hp => ?_, env, fs, s.heap.objs.size, Around.frames_deeper hfs, rfl, e6⟩
    · show A.depth + 1 + 1 < _; lia
    · show A.units + 3 + 8 * 1 < _; lia
    · show G.B.get? env.locals = none; rw [e2]; exact nb0 _ hL
    · refine .inl ?_; show s.heap.get? env.locals = none; rw [e2]; exact hL
    · exact absurd ((ek x).symm.trans q1) (nocell x)
    · exact absurd ((ek x).symm.trans hx) (nocell x)
    · have q1 : env.cells.lookup x = some c' := q1
      have q2 : env.cells.lookup y = some c' := q2
      rw [e3] at q1 q2
      obtain ⟨h1, _⟩ := Prod.mk.inj (List.mem_singleton.mp (mem_of_lookup q1))
      obtain ⟨h2, _⟩ := Prod.mk.inj (List.mem_singleton.mp (mem_of_lookup q2))
      exact h1.trans h2.symm
    · refine .inl ((ek x).trans ?_)
      cases i with
      | succ i => exact absurd q2 (by simp)
      | zero => obtain rfl : ("count" : Str) = x := by simpa using q1
                rw [lam_names]; rfl
    · obtain rfl := List.mem_singleton.mp hp
      obtain ⟨g1, g2⟩ := W.gls [29] _ (List.mem_singleton.mpr rfl)
      exact ⟨(ek _).trans (by rw [lam_names]; rfl), g1, g2, by decide⟩
  have hXA : Asr (FC.mk G (A.deeper env) env ["count", "stream"] 1 [("_law_taken", .ref 183)] lamScope s.heap [dx] X) [.imm (.int k), .own (.ref xx) dx (streamOb G xx dx fn c cc b)] h1 := by
    have eX : (FC.mk G (A.deeper env) env ["count", "stream"] 1 [("_law_taken", .ref 183)] lamScope s.heap [dx] X).X [.imm (.int k), .own (.ref xx) dx (streamOb G xx dx fn c cc b)] = X ++ [dx] := rfl
    have hvol : ∀ b, (FC.mk G (A.deeper env) env ["count", "stream"] 1 [("_law_taken", .ref 183)] lamScope s.heap [dx] X).vol0 b → b = s.heap.objs.size := by
      rintro b (q | ⟨i, x, h1, h2, h3, _⟩)
      · exact q.trans e2
      · exact absurd ((ek x).symm.trans h3) (nocell x)
    refine ⟨In1, (Kp.of_keep hk1).but, ⟨env :: fs, Around.frames_deeper hfs, ?_, ?_⟩, ⟨_, by rw [show (FC.mk G (A.deeper env) env ["count", "stream"] 1 [("_law_taken", .ref 183)] lamScope s.heap [dx] X).env.locals = s.heap.objs.size from e2]; exact hn1, fo, by rw [show (FC.mk G (A.deeper env) env ["count", "stream"] 1 [("_law_taken", .ref 183)] lamScope s.heap [dx] X).env.locals = s.heap.objs.size from e2]; exact ho1, .inl ⟨hc1, fun q => ?_⟩⟩, fun x c q1 q2 => absurd ((ek x).symm.trans q1) (nocell x), List.nodup_cons.mpr ⟨nofun, .nil⟩, fun a ha => by obtain rfl := List.mem_singleton.mp ha; exact hX, fun a ha => by obtain rfl := List.mem_singleton.mp ha; exact ⟨hB, .inr ha⟩, fun a ha => (dom.kp (.of_keep hk1)) a ha, .of_get fun i x sl hx hsl => ?_, rfl⟩
    · exact ⟨by rw [e1]; decide, ⟨_, fo, e6, nb0 _ hL, ho1, fun vs q => by rw [hd2] at q; cases q⟩, hff⟩
    · intro b hb'
      rw [List.filterMap_cons, e6] at hb'
      rcases List.mem_cons.mp hb' with q | q
      · subst q; exact ⟨fo, es, ep, ho1, hc1, hd2⟩
      · exact hfd b q
    · obtain ⟨o, e⟩ := dom _ (List.mem_append_left _ q)
      rw [show (FC.mk G (A.deeper env) env ["count", "stream"] 1 [("_law_taken", .ref 183)] lamScope s.heap [dx] X).env.locals = s.heap.objs.size from e2, hL] at e; cases e
    · rw [eX]
      match i with
      | 0 =>
        obtain rfl : ("count" : Str) = x := by simpa using hx
        obtain rfl : Sl.imm (.int k) = sl := by simpa using hsl
        have hn2 := hn1.ns
        rw [← e2] at hn2
        exact ⟨.int k t, .inl ⟨(ek _).trans (by rw [lam_names]; rfl), _, hn2, if_pos rfl⟩, .int _ _⟩
      | 1 =>
        obtain rfl : ("stream" : Str) = x := by simpa using hx
        obtain rfl : Sl.own (.ref xx) dx (streamOb G xx dx fn c cc b) = sl := by simpa using hsl
        refine ⟨.inr (.inr ⟨.inr ⟨(ek _).trans (by rw [lam_names]; rfl), by decide⟩, c, by show env.cells.lookup ("stream" : Str) = some c; rw [e3]; rfl, S1.cell⟩), S1.ob, fun b hb q => ?_, hsup⟩
        obtain ⟨ob, eb, _⟩ := (S.ob (X := [])).there b hb
        rw [hvol b q, hL] at eb; cases eb
      | i + 2 => simp at hx
  have T : EvT (FC.mk G (A.deeper env) env ["count", "stream"] 1 [("_law_taken", .ref 183)] lamScope s.heap [dx] X) [.imm (.int k), .own (.ref xx) dx (streamOb G xx dx fn c cc b)] lamBody (.bytes (b.take k).toArray) _ :=
    evT_call2 (i := 1) (j := 0) (o' := streamOb G xx dx fn c cc (b.drop k)) hok rfl rfl (by decide) rfl (.name (i := 0) hok rfl rfl) (taken_ok W Wx b k hb) (Nat.le_refl _) rfl
  refine T { s with heap := h1, toks := _ } hXA _ _ fun v h2 tk2 X2 S2 r2 => ?_
  exact hq v h2 tk2 X2.stays X2.kept r2 (X2.ob (List.mem_of_getElem? (i := 1) rfl)).1.1
end
end Mine
end

section
open PySem PySem.Calls PyProof.Rows PySem.W
namespace Mine
section
variable {F : FC} {ρ : List Sl} {n : Nat} {xx dx fn c cc : Addr} {b : List UInt8}
theorem evT_read {i k : Nat} {x : Str} {np apos pos : Pos} {e : PySem.Expr} (W : Wd F.G) (Wx : ExOK F.G) (hF : F.Ok n) (hn : 2 ≤ n) (hx : F.names[i]? = some x) (hne : x ≠ "") (h1 : ρ[i]? = some (.own (.ref xx) dx (streamOb F.G xx dx fn c cc b))) (he : Ev F ρ e (.int (k : Nat))) (hb : b.length ≤ 1000)
    (hbase : attributeBase (.Name x np) "read" F.env (eval (.Name x np) F.env) = eval (.Name x np) F.env := by rfl)
    (hfew : ((backTo pos (starEach [e] F.env)).all (fun x => !x.1) && (backToKw pos (keywordEach [] F.env)).all (fun x => x.1.isSome) && decide ([e].length + ([] : List Keyword).length + (if ([] : List Keyword).isEmpty then 0 else 1) < 30)) = true := by rfl)
    (hline : (apos.endLine == pos.line) = true := by rfl) (hs : (starEach [e] F.env).any (·.1) = false := by rfl) (hbk : backTo pos (starEach [e] F.env) = [(false, eval e F.env)] := by rfl) (hq0 : F.hd = false := by rfl) :
    EvT F ρ (.Call (.Attribute (.Name x np) "read" apos) [e] [] pos) (.bytes (b.take k).toArray) (ρ.set i (.own (.ref xx) dx (streamOb F.G xx dx fn c cc (b.drop k)))) := by
  intro s X Q E hq
  have hWx := Wx
  obtain ⟨K, hK, C⟩ := Wx
  rw [arm_eval_Call, hbase]
  refine wpAny_bind (load_own hF X hx hne h1 (wpAny_bind (wpAny_standAt ?_)))
  have S : StreamAt F.G xx dx fn c cc b s.heap := (X.ob (List.mem_of_getElem? h1)).1.1
  obtain ⟨t1, t2, nn, tb, I, hd⟩ := inst_at S
  have hform : methodCallForm ([e].length + ([] : List Keyword).length) (backTo pos (starEach [e] F.env)) (backToKw pos (keywordEach [] F.env)) = true := hfew
  have hpos : methodCallPos true (.Name x np) F.env apos pos = pure pos := by unfold methodCallPos; simp [hline]
  unfold methodCall
  rw [hform]
  have KX : K.In s.heap := fun a o e => X.stays.stays _ _ (hK a o e)
  refine wpAny_bind (wpAny_holding (method_usual (r := none) KX I C.geta C.hook C.read rfl (inst_get KX I C.geta C.hasDict C.read look_read rfl ?_)))
  refine wpAny_bind (wpAny_of_eq hpos ?_)
  obtain ⟨qual, pm, ctv, efn, cr⟩ := id S.fn
  refine callWith_of (P := fun h => h.get? fn = some (kla_obj "<lambda>" qual lamPar lamBody lamScope [("stream", c)] pm cc ctv)) ?_ (fun h st => ⟨.frame, .inl rfl, (Looks.ld (part := Option.none) st).andThen .now⟩) (evalArgs_any hs ?_)
  · have : (backTo pos (starEach [e] F.env)).any (·.1) = (starEach [e] F.env).any (·.1) := by unfold backTo; rw [List.any_map]; rfl
    rw [this, hs]; rfl
  rw [hbk]
  refine Calls.spliced_cons (he { s with toks := s.toks + 1 } X _ _ fun v h2 tk2 g2 r2 => Calls.spliced_nil ⟨g2.kp.same efn (plain_ty rfl), ?_⟩)
  obtain ⟨t, rfl⟩ := r2.int'
  have X2 := X.grow g2
  have hm := mem_owned h1
  have hown := X2.ob (List.mem_of_getElem? h1)
  have S2 : StreamAt F.G xx dx fn c cc b h2 := hown.1.1
  obtain ⟨hna, hsp⟩ := owned_split X2.nodup h1
  have eX : ∀ b, b ∈ F.X (ρ.set i .unk) ++ [dx] ↔ b ∈ F.X ρ := fun b => by
    unfold FC.X
    simp only [List.mem_append, hsp, List.mem_singleton]
    constructor
    · rintro ((q | q) | q)
      · exact .inl q
      · exact .inr (.inr q)
      · exact .inr (.inl q)
    · rintro (q | q | q)
      · exact .inl (.inl q)
      · exact .inr q
      · exact .inl (.inr q)
  have hdp := hF.depth
  have hun := hF.units
  refine lam_call (s := { s with heap := h2, toks := tk2 }) (X := F.X (ρ.set i .unk)) W hWx (hF.hand hq0) (by lia) (by lia) X2.stays X2.frs (fun b hb => X2.dom b ((eX b).mp hb)) (fun q => ?_) (X2.fresh _ hm).1 S2 (fun a ha q => hown.2.2 a ha ((eX a).mp q)) hb fun u h3 tk3 i3 k3 ru S3 => ?_
  · rcases List.mem_append.mp q with q | q
    · exact X2.apart _ hm q
    · exact hna q
  · obtain ⟨X4, S4⟩ := X2.own_kept (o' := streamOb F.G xx dx fn c cc (b.drop k)) hx h1 (k3.mono fun b q => List.mem_singleton.mp q) i3 S3.ob rfl
    exact hq u h3 tk3 X4 ((Stp.of_grow g2).trans S4) (ru.same (.of_kp (.refl _)) fun b hb => (eX b).mpr (by rw [FC.X_set_own h1] at hb; exact hb))
end
section
variable {G : GC} {xx dx fn c cc : Addr}
theorem truth_bytes_l {A : Around} (l : List UInt8) (hl : l.length ≤ 1000) : TruthOK G A (.bytes l.toArray) (!l.isEmpty) := by
  have := truth_bytes (G := G) (A := A) l.toArray (by rw [sizeLine_eq]; simp; lia)
  have e : ((l.toArray.size : Int) != 0) = !l.isEmpty := by
    cases l with
    | nil => rfl
    | cons a r => simp; lia
  rw [← e]; exact this
theorem read_uint1_ok (W : Wd G) (Wx : ExOK G) (o : UInt8) (b : List UInt8) (hb : (o :: b).length ≤ 1000) : FnC G 3 (.ref 42) [.own (.ref xx) dx (streamOb G xx dx fn c cc (o :: b))] fun d ps' => d = .int o.toNat ∧ ∃ r, owned r = [] ∧ ps' = .own (.ref xx) dx (streamOb G xx dx fn c cc b) :: r := by
  refine Fn.of (k := 5) (n := 2) (kk := 1) (own := 2) (pn := ["f"]) (names := ["f", "data"]) (gls := []) (W.def (i := 2) rfl)
    (.of (by decide) (by decide) (by decide +kernel) (by decide +kernel) (W.gls [])) W.nolimit rfl rfl (by decide) rfl rfl (by decide +kernel) (fun fd a b c => .pure fun vs hv => bindK (fun _ => all1 fun _ => by kernel_rfl) fd a b c vs hv) fun A env h0 X0 hF => ?_
  refine Ex.seq (Ex1.assign_t (k := 1) hF rfl (Nat.lt_of_sub_pos (by decide : 0 < 2 - 1)) (evT_read (i := 0) (k := 1) W Wx hF (by decide) rfl (by decide) rfl .int hb)) ?_
  refine Ex.if_true ((Tr.val (.name (i := 1) hF rfl rfl) (truth_bytes_l [o] (show 1 ≤ 1000 by decide))).as rfl) ?_
  exact Ex.ret (Ev.item FB.slot_bytes_getitem.lookup (.name (i := 1) hF rfl rfl) .int (item_bytes o [] (show 1 ≤ 1000 by decide))) ⟨_, rfl, rfl, [], rfl, rfl⟩
theorem Ex1.assert {F : FC} {ρ : List Sl} {n : Nat} {Θ : String → List Sl → Prop} {t : PySem.Expr} {pos : Pos} (hF : F.Ok n) (ht : Tr F ρ t true) (hq0 : F.hd = false := by rfl) : Ex1 F ρ (.Assert t none pos) (fun fl r => fl = .next ∧ r = ρ) Θ := by
  intro s X Q E hq _
  refine wpAny_Assert (hF.hand hq0) (ht s X _ _ fun h1 tk1 g1 => ?_)
  rw [if_pos rfl]
  exact hq .next h1 tk1 .next _ ⟨rfl, rfl⟩ (X.grow g1) trivial (.of_grow g1)
theorem read_string1_ok (W : Wd G) (Wx : ExOK G) (l b : List UInt8) (hl : l.length < 200) (hb : b.length ≤ 700) (hd : ∃ n, ∀ id, Builtin._codecs.runDecoder id Builtin._codecs.latin1Decoder none true l.toArray 0 [] = pure ((latinS l).cps, n)) :
    FnC G 4 (.ref 49) [.own (.ref xx) dx (streamOb G xx dx fn c cc (l.length.toUInt8 :: (l ++ b)))] fun d ps' => d = .str (latinS l) ∧ ∃ r, owned r = [] ∧ ps' = .own (.ref xx) dx (streamOb G xx dx fn c cc b) :: r := by
  refine Fn.of (k := 6) (n := 3) (kk := 2) (own := 3) (pn := ["f"]) (names := ["f", "n", "data"]) (gls := [("read_uint1", .ref 42), ("len", .builtin "len")]) (W.def (i := 3) rfl)
    (.of (by decide) (by decide) (by decide +kernel) (by decide +kernel) (W.gls [24, 5])) W.nolimit rfl rfl (by decide) rfl rfl (by decide +kernel) (fun fd a b c => .pure fun vs hv => bindK (fun _ => all1 fun _ => by kernel_rfl) fd a b c vs hv) fun A env h0 X0 hF => ?_
  have hu : l.length.toUInt8.toNat = l.length := by
    rw [Nat.toUInt8_eq, UInt8.toNat_ofNat']; lia
  refine Ex.seq (ρ' := [.own (.ref xx) dx (streamOb G xx dx fn c cc (l ++ b)), .imm (.int l.length), .unk]) (Ex1.mono (Ex1.assign_t (k := 1) hF rfl (Nat.lt_of_sub_pos (by decide : 0 < 3 - 1)) (evT_call1 (i := 0) (j := 0) hF rfl rfl (by decide) rfl (read_uint1_ok W Wx _ _ (by simp; lia)) (by decide) rfl)) fun fl r h => by rw [hu] at h; exact h) ?_
  refine Ex.seq (Ex1.assert hF ((Tr.cmp (.name (i := 1) hF rfl rfl) .int (cmp_ge_int _ 0)).as (by simp))) ?_
  refine Ex.seq (ρ' := [.own (.ref xx) dx (streamOb G xx dx fn c cc b), .imm (.int l.length), .imm (.bytes l.toArray)]) (Ex1.mono (Ex1.assign_t (k := 2) hF rfl (Nat.lt_of_sub_pos (by decide : 0 < 3 - 2)) (evT_read (i := 0) (k := l.length) W Wx hF (by decide) rfl (by decide) rfl (.name (i := 1) hF rfl rfl) (by simp; lia))) fun fl r h => by rw [List.take_left, List.drop_left] at h; exact h) ?_
  refine Ex.if_true ((Tr.cmp (Ev.call (j := 1) hF rfl (.cons (.name (i := 2) hF rfl rfl) .nil) (call_len_b l (by lia))) (.name (i := 1) hF rfl rfl) (cmp_eq_int _ _)).as (by simp)) ?_
  exact Ex.ret (Ev.meth FB.plainAttrs_bytes FB.slot_bytes_decode FB.type_bytes_decode (.name (i := 2) hF rfl rfl) (.cons .str .nil) (call_decode l (by lia) hd)) ⟨_, rfl, rfl, [], rfl, rfl⟩
end
end Mine
end

section
open PySem PySem.Calls PyProof.Rows PySem.W
namespace Mine
section
variable {F : FC} {ρ : List Sl} {n : Nat} {Θ : String → List Sl → Prop}
theorem Stp.rp {ρ' : List Sl} {h h' : Heap} {v : Value} {d : Dt} (X : Asr F ρ h) (S : Stp F ρ ρ' h h') (r : Rp (F.X ρ) h v d) : Rp (F.X ρ') h' v d :=
  r.keep (S.same X) fun a ha => (List.mem_append.mp ha).elim (fun q => .inl (List.mem_append_left _ q)) fun q => (S.own a q).imp (fun q => List.mem_append_right _ q) id
theorem EvT.of {e : PySem.Expr} {d : Dt} (h : Ev F ρ e d) : EvT F ρ e d ρ := fun s X Q E hq => h s X _ _ fun v h' tk' g r => hq v h' tk' (X.grow g) (.of_grow g) r
/-- a pair is stored in two names, the last one first -/
theorem Ex1.swap2 {i j k k2 : Nat} {x y : Str} {p1 p2 tp vp pos : Pos} {e1 e2 : PySem.Expr} {d1 d2 : Dt} {ρ' ρ2 : List Sl} (hF : F.Ok n) (hx : F.names[i]? = some x) (hi : i < F.own) (hy : F.names[j]? = some y) (hj : j < F.own) (h1 : EvT F ρ e1 d1 ρ') (h2 : EvT F ρ' e2 d2 ρ2)
    (he1 : starEach [e1, e2] F.env = [(false, eval e1 F.env), (false, eval e2 F.env)] := by rfl)
    (hs : swapsWithSole [.Tuple [.Name x p1, .Name y p2] k tp] (.Tuple [e1, e2] k2 vp) pos.line F.env = pure false := by rfl) (hw : swappedStores [.Tuple [.Name x p1, .Name y p2] k tp] (.Tuple [e1, e2] k2 vp) F.env = pure (some [x, y]) := by rfl) (hq0 : F.hd = false := by rfl) :
    Ex1 F ρ (.Assign [.Tuple [.Name x p1, .Name y p2] k tp] (.Tuple [e1, e2] k2 vp) pos) (fun fl r => fl = .next ∧ r = (ρ2.set j (.imm d2)).set i (.imm d1)) Θ := by
  intro s X Q E hq _
  refine Assign_Tuple_swapped (wpAny_Tuple ?_) hs hw
  rw [he1]
  show wpAny _ _ (spliced [(false, _), (false, _)]) _ _ _
  refine Calls.spliced_cons ?_
  refine h1 s X _ _ fun v1 ha tka Xa Sa ra => Calls.spliced_cons ?_
  refine h2 { s with heap := ha, toks := tka } Xa _ _ fun v2 hb tkb Xb Sb rb => Calls.spliced_nil ⟨show 2 ≤ sizeLine by decide, ?_⟩
  have ra' := Sb.rp Xa ra
  have gT : Grow F.G hb (hb.push (TO [v1, v2] 0)) := .push Xb.stays _
  refine unpackItems_tuple (s := { s with heap := hb.push (TO [v1, v2] 0), toks := tkb }) (hF.hand hq0) (items := [v1, v2].toArray) ⟨_, Heap.get?_push_size _ rfl, rfl, _, rfl⟩ fun hc he => ?_
  have gc := extBut_grow (F := F) gT.stays he
  have Xc := (Xb.grow gT).grow gc
  show wpAny _ _ (assignInOrder [bindName F.env y, bindName F.env x] [v2, v1]) _ _ _
  unfold assignInOrder
  refine wpAny_bind (wpAny_holding (bindName_ (store_ok (s := { s with heap := hc, toks := tkb }) hF Xc hy hj ((rb.kp gT.kp).kp gc.kp) fun hd tkd Xd Sd => ?_)))
  unfold assignInOrder
  refine wpAny_bind (wpAny_holding (bindName_ (store_ok (s := { s with heap := hd, toks := tkd }) hF Xd hx hi (Sd.rp Xc ((ra'.kp gT.kp).kp gc.kp)) fun he tke Xe Se => ?_)))
  unfold assignInOrder
  exact wpAny_pure (hq .next he tke .next _ ⟨rfl, rfl⟩ Xe trivial (((Sa.trans Sb).trans ((Stp.of_grow gT).trans (Stp.of_grow gc))).trans (Sd.trans Se)))
end
end Mine
end

section
open PySem PySem.Calls PyProof.Rows PySem.W
namespace Mine
noncomputable def envOf (sc : Scope) : Env := newEnv sc 0 0 [] "" none .none none 0
theorem swapped_scope {ts : List PySem.Expr} {v : PySem.Expr} {env env' : Env} (h : env.scope = env'.scope) : swappedStores ts v env = swappedStores ts v env' := by
  unfold swappedStores Env.blockKind Env.kindOf; rw [h]
/-- a text's octets, counted -/
noncomputable def enc (l : List UInt8) : List UInt8 := l.length.toUInt8 :: l
noncomputable def encs (ls : List (List UInt8)) : List UInt8 := ls.flatMap enc
noncomputable def pathOf (names : List Str) : Str := names.foldl joinS "/"
theorem startJoin (a b : Str) : (joinS a b).length ≤ a.length + b.length + 1 := by
  have h1 : (("/" : Str) ++ b).length = 1 + b.length := Str.length_append _ _
  unfold joinS
  split
  · lia
  · split
    · lia
    · split
      · rw [Str.length_append]; lia
      · rw [Str.length_append, h1]; lia
theorem pathOf_len : ∀ (names : List Str) (p : Str), (∀ x ∈ names, x.length ≤ 2) → (names.foldl joinS p).length ≤ p.length + 3 * names.length
  | [], p, _ => by simp
  | x :: r, p, h => by
    rw [List.foldl_cons, List.length_cons]
    have h1 := pathOf_len r (joinS p x) fun y hy => h y (List.mem_cons_of_mem _ hy)
    have h2 := startJoin p x
    have h3 := h x List.mem_cons_self
    lia
noncomputable def Decodes (l : List UInt8) : Prop := ∃ n, ∀ id, Builtin._codecs.runDecoder id Builtin._codecs.latin1Decoder none true l.toArray 0 [] = pure ((latinS l).cps, n)
theorem latinS_len (l : List UInt8) : (latinS l).length = l.length := by unfold latinS Str.length; simp
section
variable {G : GC} {xx dx fn c cc : Addr}
noncomputable def pathSt (G : GC) (xx dx fn c cc : Addr) (bs : List (List UInt8)) (rest : List UInt8) (k : Nat) : List Sl :=
  [.own (.ref xx) dx (streamOb G xx dx fn c cc (if k < bs.length then encs (bs.drop (k + 1)) ++ 0 :: rest else rest)), .imm (.str (pathOf ((bs.map latinS).take k))), .imm (.str ((bs.map latinS).getD k ""))]
theorem encs_len (bs : List (List UInt8)) (h : ∀ l ∈ bs, l.length ≤ 2) : (encs bs).length ≤ 3 * bs.length := by
  unfold encs
  induction bs with
  | nil => simp
  | cons l r ih =>
    rw [List.flatMap_cons, List.length_append, List.length_cons]
    have := ih fun l hl => h l (List.mem_cons_of_mem _ hl)
    have := h l List.mem_cons_self
    have e : (enc l).length = l.length + 1 := rfl
    lia
theorem path_ok (W : Wd G) (Wx : ExOK G) (bs : List (List UInt8)) (rest : List UInt8) (hb : bs.length ≤ 3) (hl : ∀ l ∈ bs, 0 < l.length ∧ l.length ≤ 2 ∧ Decodes l) (hr : rest.length ≤ 500) :
    FnC G 5 (.ref 202) [.own (.ref xx) dx (streamOb G xx dx fn c cc (encs bs ++ 0 :: rest))] fun d ps' => d = .str (pathOf (bs.map latinS)) ∧ ∃ r, owned r = [] ∧ ps' = .own (.ref xx) dx (streamOb G xx dx fn c cc rest) :: r := by
  refine Fn.of (k := 28) (n := 4) (kk := 2) (own := 3) (pn := ["stream"]) (names := ["stream", "path", "name"]) (gls := [("read_string1", .ref 49), ("join", .ref 164)]) (W.def (i := 12) rfl)
    (.of (by decide) (by decide) (by decide +kernel) (by decide +kernel) (W.gls [25, 21])) W.nolimit rfl rfl (by decide) rfl rfl (by decide +kernel) (fun fd a b c => .pure fun vs hv => bindK (fun _ => all1 fun _ => by kernel_rfl) fd a b c vs hv) fun A env h0 X0 hF => ?_
  have hlen : ∀ k, (encs (bs.drop k) ++ 0 :: rest).length ≤ 3 * 3 + 1 + 500 := fun k => by
    have := encs_len (bs.drop k) fun l hl' => (hl l (List.mem_of_mem_drop hl')).2.1
    rw [List.length_drop] at this
    simp; lia
  -- what is read next
  have next : ∀ k, k ≤ bs.length → FnC G 4 (.ref 49) [.own (.ref xx) dx (streamOb G xx dx fn c cc (encs (bs.drop k) ++ 0 :: rest))] fun d ps' => d = .str ((bs.map latinS).getD k "") ∧ ∃ r, owned r = [] ∧ ps' = .own (.ref xx) dx (streamOb G xx dx fn c cc (if k < bs.length then encs (bs.drop (k + 1)) ++ 0 :: rest else rest)) :: r := fun k hk => by
    by_cases hlt : k < bs.length
    · have e : bs.drop k = bs[k] :: bs.drop (k + 1) := List.drop_eq_getElem_cons hlt
      obtain ⟨_, h2, h3⟩ := hl _ (List.getElem_mem hlt)
      have := read_string1_ok (xx := xx) (dx := dx) (fn := fn) (c := c) (cc := cc) W Wx bs[k] (encs (bs.drop (k + 1)) ++ 0 :: rest) (by lia) (by have := hlen (k + 1); lia) h3
      rw [e, if_pos hlt]
      have e2 : encs (bs[k] :: bs.drop (k + 1)) ++ 0 :: rest = bs[k].length.toUInt8 :: (bs[k] ++ (encs (bs.drop (k + 1)) ++ 0 :: rest)) := by unfold encs; rw [List.flatMap_cons, List.append_assoc]; rfl
      have e3 : (bs.map latinS).getD k "" = latinS bs[k] := by simp [List.getD, hlt]
      rw [e2, e3]; exact this
    · have hk' : k = bs.length := by lia
      subst hk'
      rw [List.drop_length, if_neg hlt]
      have := read_string1_ok (xx := xx) (dx := dx) (fn := fn) (c := c) (cc := cc) W Wx [] rest (by simp) (by lia) latin_0
      have e3 : (bs.map latinS).getD bs.length "" = latinS [] := by simp [List.getD]; rfl
      rw [e3]; exact this
  have hplen : ∀ k, (pathOf ((bs.map latinS).take k)).length ≤ 100 := fun k => by
    have := pathOf_len ((bs.map latinS).take k) "/" fun x hx => by
      obtain ⟨l, hl', rfl⟩ := List.mem_map.mp (List.mem_of_mem_take hx)
      rw [latinS_len]; exact (hl l hl').2.1
    rw [List.length_take, List.length_map] at this
    have h1 : ("/" : Str).length = 1 := rfl
    unfold pathOf; lia
  refine Ex.seq (ρ' := pathSt G xx dx fn c cc bs rest 0) (Ex1.mono (Ex1.swap2 (i := 1) (j := 2) (x := "path") (y := "name") hF rfl (Nat.lt_of_sub_pos (by decide : 0 < 3 - 1)) rfl (Nat.lt_of_sub_pos (by decide : 0 < 3 - 2)) (.of .str) (evT_call1 (i := 0) (j := 0) hF rfl rfl (by decide) rfl (next 0 (Nat.zero_le _)) (by decide) rfl) (hw := (swapped_scope (env' := envOf (scopeOf (stAt 28))) hF.scope).trans (by rfl))) fun fl r h => h) ?_
  refine Ex.seq (ρ' := pathSt G xx dx fn c cc bs rest bs.length) (Ex1.while (I := pathSt G xx dx fn c cc bs rest) (m := bs.length) rfl (fun k hk => (Tr.val (.name (i := 2) hF rfl rfl) (truth_str _ ?_)).as ?_) (fun k hk => ?_) ⟨rfl, rfl⟩) ?_
  · by_cases hlt : k < bs.length
    · have e3 : (bs.map latinS).getD k "" = latinS bs[k] := by simp [List.getD, hlt]
      rw [e3, latinS_len]; have := (hl _ (List.getElem_mem hlt)).2.1; exact small_lt (by lia)
    · have e3 : (bs.map latinS).getD k "" = "" := by simp [List.getD, Nat.not_lt.mp hlt]
      rw [e3]; decide
  · by_cases hlt : k < bs.length
    · have e3 : (bs.map latinS).getD k "" = latinS bs[k] := by simp [List.getD, hlt]
      rw [e3, latinS_len, decide_eq_true hlt]; have := (hl _ (List.getElem_mem hlt)).1; exact bne_iff_ne.mpr (by lia)
    · have e3 : (bs.map latinS).getD k "" = "" := by simp [List.getD, Nat.not_lt.mp hlt]
      rw [e3, decide_eq_false hlt]; rfl
  · have e3 : (bs.map latinS).getD k "" = latinS bs[k] := by simp [List.getD, hk]
    have hnl : ((bs.map latinS).getD k "").length ≤ 2 := by rw [e3, latinS_len]; exact (hl _ (List.getElem_mem hk)).2.1
    have e4 : joinS (pathOf ((bs.map latinS).take k)) ((bs.map latinS).getD k "") = pathOf ((bs.map latinS).take (k + 1)) := by
      unfold pathOf
      rw [List.take_add_one, List.foldl_append]
      have : (bs.map latinS)[k]? = some (latinS bs[k]) := by simp [hk]
      rw [this, e3]; rfl
    have hp := hplen k
    refine Ex.seq (Ex1.assign (i := 1) hF rfl (Nat.lt_of_sub_pos (by decide : 0 < 3 - 1)) (Ev.call (j := 1) hF rfl (.cons (.name (i := 1) hF rfl rfl) (.cons (.name (i := 2) hF rfl rfl) .nil)) ((join_ok W _ _ (by lia) (by lia)).use hF (by decide)))) ?_
    refine Ex.seq (Ex1.assign_t (k := 2) hF rfl (Nat.lt_of_sub_pos (by decide : 0 < 3 - 2)) (evT_call1 (i := 0) (j := 0) hF rfl rfl (by decide) (by
      show _ = some (Sl.own (.ref xx) dx (streamOb G xx dx fn c cc (encs (bs.drop (k + 1)) ++ 0 :: rest)))
      unfold pathSt
      rw [if_pos hk]; rfl) (next (k + 1) hk) (by decide) rfl)) (Ex.nil ⟨.inl rfl, ?_⟩)
    rw [e4]
    exact .refl _
  · have : ((bs.map latinS).take bs.length) = bs.map latinS := by rw [List.take_of_length_le (by simp)]
    refine Ex.ret (.name (i := 1) hF rfl rfl) ⟨_, rfl, by rw [this], [], rfl, ?_⟩
    unfold pathSt
    rw [if_neg (Nat.lt_irrefl _)]; rfl
end
end Mine
end

section
open PySem PySem.Calls PyProof.Rows PySem.W
namespace Mine
noncomputable def DefSt (G : GC) (f : Addr) (st : Option Stmt) : Prop := ∃ fd, FdIs fd st ∧ (∃ o, G.B.get? f = some o ∧ o.data = .func fd) ∧ G.B.CodeRec fd.code fd.qualname
noncomputable def clsBody : Option Stmt → List Stmt
  | some (.ClassDef _ _ _ b _ _ _ _ _ _ _) => b
  | _ => []
noncomputable def initSt : Option Stmt := (clsBody (stAt 7))[0]?
noncomputable def lamPos : Pos := match lamE with | some (.Lambda _ _ _ p) => p | _ => ⟨0, 0, 0, 0⟩
/-- what the making of the stream asks of the run -/
structure StrmOK (G : GC) : Prop where
  ex : ExOK G
  init : DefSt G 63 initSt
  def_ : ∃ fd, FdIs fd (stAt 26) ∧ (∃ o, G.B.get? 190 = some o ∧ o.data = .func fd) ∧ G.B.CodeRec fd.code fd.qualname ∧ fd.code = .ref 189 ∧ G.tqual = fd.qualname ++ ".<locals>." ++ "<lambda>"
  head : CodeHd G.B 189 G.tab
  pos : G.tpos = lamPos
  gl : ∃ mg, G.B.Ns mainGlobals mg ∧ G.B.BuiltinsAt mg G.tab
  gP : mainGlobals ≠ G.tab
  tabB : G.B.get? G.tab = none
theorem defAt_of {G : GC} {f : Addr} {fd : FuncData} {st : Option Stmt} (F : FdIs fd st) (ho : ∃ o, G.B.get? f = some o ∧ o.data = .func fd) (hc : G.B.CodeRec fd.code fd.qualname) (hs : plainScope (scopeOf st) = true) : DefAt G f fd (Mine.bodyOf st) := by
  have hs' := Bool.and_eq_true_iff.mp hs
  have hs'' := Bool.and_eq_true_iff.mp hs'.1
  refine ⟨ho, F.body, F.closure, F.globs, F.builtins, hc, ?_, ?_, ?_⟩
  · rw [F.scope]; exact of_decide_eq_true (by simpa using hs''.1)
  · rw [F.scope]; simpa using hs''.2
  · rw [F.scope]; simpa using hs'.2
noncomputable def inst0 (x dx : Addr) : Ob := .abs [x] fun h => h.get? x = some (instObj 66 dx) ∧ h.get? dx = some emptyDict
noncomputable def inst1 (P : Params) (x dx : Addr) (b : List UInt8) : Ob := .abs [x] fun h => h.get? x = some (instObj 66 dx) ∧ ∃ t nn tb, h.get? dx = some (sdict1 P t nn b.toArray tb)
theorem inst0_ob {X : List Addr} {h : Heap} {x dx : Addr} (h1 : h.get? x = some (instObj 66 dx)) (h2 : h.get? dx = some emptyDict) : ObAt X h (.ref x) dx (inst0 x dx) :=
  ⟨⟨h1, h2⟩, ⟨_, _, _, h2, rfl, plain_ty rfl, ty_ne (by decide)⟩, fun b hb => by obtain rfl := List.mem_singleton.mp hb; exact ⟨_, h1, fun ⟨_, _, _, _, q, _⟩ => by cases q⟩,
    fun h h' ⟨p1, p2⟩ k => ⟨(k x (by simp) _ p1).same ⟨nofun, nofun⟩, (k dx (by simp) _ p2).same (plain_ty rfl)⟩⟩
theorem inst1_ob {X : List Addr} {h : Heap} {P : Params} {x dx : Addr} {b : List UInt8} {t : Tok} {nn : Nat} {tb : Tok} (h1 : h.get? x = some (instObj 66 dx)) (h2 : h.get? dx = some (sdict1 P t nn b.toArray tb)) : ObAt X h (.ref x) dx (inst1 P x dx b) :=
  ⟨⟨h1, t, nn, tb, h2⟩, ⟨_, _, _, h2, rfl, plain_ty rfl, ty_ne (by decide)⟩, fun b hb => by obtain rfl := List.mem_singleton.mp hb; exact ⟨_, h1, fun ⟨_, _, _, _, q, _⟩ => by cases q⟩,
    fun h h' ⟨p1, t, nn, tb, p2⟩ k => ⟨(k x (by simp) _ p1).same ⟨nofun, nofun⟩, t, nn, tb, (k dx (by simp) _ p2).same (plain_ty rfl)⟩⟩
section
variable {F : FC} {ρ : List Sl} {n : Nat} {Θ : String → List Sl → Prop} {xx dx : Addr}
/-- the first attribute of a new object -/
theorem ex1_init {i : Nat} {x : Str} {np apos pos : Pos} {e : PySem.Expr} {b : List UInt8} (W : ExOK F.G) (hF : F.Ok n) (hx : F.names[i]? = some x) (hne : x ≠ "") (h1 : ρ[i]? = some (.own (.ref xx) dx (inst0 xx dx))) (he : Ev F ρ e (.bytes b.toArray))
    (hs : swapsWith e (some (.Attribute (.Name x np) "value" apos)) pos.line F.env = pure false := by rfl) :
    Ex1 F ρ (.Assign [.Attribute (.Name x np) "value" apos] e pos) (Turns ρ i (.ref xx) dx (inst1 F.G.w.params xx dx b)) Θ := by
  intro s X Q E hq _
  obtain ⟨K, hK, C⟩ := W
  refine plainObj_wpAny_Assign_Attribute (he s X _ _ fun v h1' tk1 g1 r1 => ?_) hs
  have X1 := X.grow g1
  refine load_own (s := { s with heap := h1', toks := tk1 }) hF X1 hx hne h1 ?_
  obtain ⟨p1, p2⟩ := (X1.ob (List.mem_of_getElem? h1)).1.1
  obtain ⟨t, rfl⟩ := r1.bytes'
  have I : InstAt h1' xx (instObj 66 dx) 66 (some emptyDict) := ⟨p1, rfl, rfl, p2⟩
  refine inst_set (s := { s with heap := h1', toks := tk1 }) (dx := dx) (es := [{ hash := PyData.keyHash F.G.w.params "value", key := .str "value" (tk1 + 1), val := .bytes b.toArray t }]) (n := 1) (fun a o e => X1.stays.stays _ _ (hK a o e)) I rfl C.seta C.plain C.hasDict C.value rfl rfl rfl (show 1 ≤ 1000 by decide) fun h2 oth ed => ?_
  rw [put_first] at ed
  have nx : xx ≠ dx := fun q => by rw [q, p2] at p1; cases p1
  obtain ⟨X3, S3⟩ := X1.own_turn (o' := inst1 F.G.w.params xx dx b) hx h1 oth (fun _ => inst1_ob ((oth _ nx).trans p1) ed) rfl (fun ob es ep q1 q2 => by rw [p2] at q1; cases q1; exact ⟨_, _, _, ed, rfl, rfl⟩) (fun ob vs q1 q2 => by rw [p2] at q1; cases q1; cases q2) ⟨_, ed⟩
  exact hq .next _ _ .next _ ⟨rfl, rfl⟩ X3 trivial ((Stp.of_grow g1).trans S3)
end
section
variable {G : GC}
theorem init_run (W : Wd G) (Wx : StrmOK G) {A : Around} (hA : A.handled = none) (hd : A.depth + 1 < recursionLimit) (hu : A.units + 8 < cLine) {X : List Addr} {s : Shared} {x dx : Addr} {b : List UInt8} {t : Tok} (st : In G s.heap) (fr : FramesOK A G.B s.heap) (dom : Dom X s.heap)
    (h1 : s.heap.get? x = some (instObj 66 dx)) (h2 : s.heap.get? dx = some emptyDict) (n1 : dx ∉ X) (n2 : x ∉ X) (hB : G.B.get? dx = none) {R : Result → Shared → Prop}
    (hq : ∀ h' tk' t nn tb, In G h' → KpBut (· = dx) s.heap h' → h'.get? x = some (instObj 66 dx) → h'.get? dx = some (sdict1 G.w.params t nn b.toArray tb) → R (.ok (.ret .none)) { s with heap := h', toks := tk' }) :
    codeAny (model G.prog G.w) A (.call (.ref 63) ⟨[.ref x, .bytes b.toArray t], []⟩) R s := by
  obtain ⟨fd, F, ho, hc⟩ := Wx.init
  have hs : plainScope (scopeOf initSt) = true := by decide +kernel
  have hX : (X ++ owned [Sl.own (.ref x) dx (inst0 x dx), .imm (.bytes b.toArray)]) = X ++ [dx] := rfl
  have nx : x ≠ dx := fun q => by rw [q, h2] at h1; cases h1
  refine Fn.enter (n := 0) (k := 0) (own := 2) (pn := ["self", "value"]) (names := ["self", "value"]) (gls := []) (ps := [.own (.ref x) dx (inst0 x dx), .imm (.bytes b.toArray)]) (qs := [.own (.ref x) dx (inst0 x dx), .imm (.bytes b.toArray)]) (X := X) (defAt_of F ho hc hs)
    (F.scope ▸ (.of (by decide) (by decide) (by decide +kernel) (by decide +kernel) (W.gls []))) W.nolimit rfl rfl (by decide) rfl rfl (.pure fun vs hv => bindK (fun _ => all2 fun _ _ => by kernel_rfl) _ F.params F.defaults F.kwdefaults vs hv) hA (by lia) (by lia) st fr (fun a ha => ?_) (List.nodup_cons.mpr ⟨nofun, .nil⟩) (fun a ha => ?_) ?_ fun env h1' tk1 hF XA _ _ => ?_
  · rcases List.mem_append.mp ha with q | q
    · exact dom a q
    · obtain rfl := List.mem_singleton.mp q; exact ⟨_, h2⟩
  · obtain rfl := List.mem_singleton.mp ha; exact ⟨n1, hB⟩
  · refine .cons ⟨rfl, inst0_ob h1 h2, fun a ha q => ?_⟩ (.cons (.bytes _ _) .nil)
    obtain rfl := List.mem_singleton.mp ha
    rw [hX] at q
    rcases List.mem_append.mp q with q | q
    · exact n2 q
    · exact nx (List.mem_singleton.mp q)
  · have body := Ex.seq (Φ := fun fl r => fl = .next ∧ r = [.own (.ref x) dx (inst1 G.w.params x dx b), .imm (.bytes b.toArray)]) (Θ := noExc) (ex1_init (F := FC.mk G (A.deeper env) env ["self", "value"] 2 [] fd.scope s.heap [dx] X) (ρ := [.own (.ref x) dx (inst0 x dx), .imm (.bytes b.toArray)]) (i := 0) (np := ⟨62, 8, 62, 12⟩) (apos := ⟨62, 8, 62, 18⟩) (pos := ⟨62, 8, 62, 26⟩) (e := .Name "value" ⟨62, 21, 62, 26⟩) Wx.ex hF rfl (by decide) rfl (.name (i := 1) hF rfl rfl)) (Ex.nil ⟨rfl, rfl⟩)
    refine body { s with heap := h1', toks := tk1 } XA _ _ (fun f h2' tk2 fl r hΦ X2 hfl S2 => ?_) fun _ _ _ _ _ q => q.elim
    obtain ⟨rfl, rfl⟩ := hΦ
    cases f <;> try exact hfl.elim
    obtain ⟨p1, t, nn, tb, p2⟩ := (X2.ob (List.mem_of_getElem? (i := 0) rfl)).1.1
    exact hq h2' tk2 t nn tb X2.stays (X2.kept.mono fun b q => List.mem_singleton.mp q) p1 p2
end
end Mine
end

section
open PySem PySem.Calls PyProof.Rows PySem.W
namespace Mine
section
variable {F : FC} {ρ : List Sl} {n : Nat}
theorem closes_lam {env : Env} {c : Addr} (h : env.cells.lookup ("stream" : Str) = some c) : closureFor lamScope env = pure (clos1 c) := by
  have h2 : ∀ x, (x, NameKind.free) ∈ lamScope.names → (env.cells.lookup x).isSome = true := fun x hx => by
    rw [lam_names] at hx
    have : x = ("stream" : Str) := by simpa using hx
    rw [this, h]; rfl
  rw [closureFor_eq h2, lam_names]
  simp only [closOf]
  have e1 : (NameKind.local == NameKind.free) = false := by decide
  have e2 : (NameKind.free == NameKind.free) = true := by decide
  have e3 : (NameKind.globalImplicit == NameKind.free) = false := by decide
  simp only [e1, e2, e3, Bool.false_eq_true, if_false, if_true, h, Option.getD_some]
/-- the lambda is made -/
theorem lam_make (Wx : StrmOK F.G) (hF : F.Ok n) {c : Addr} (hcode : F.env.code = .ref 189) (hq1 : F.G.tqual = F.env.qual ++ "<lambda>") (hc : F.env.cells.lookup ("stream" : Str) = some c) {s : Shared} (X : Asr F ρ s.heap) {Q : Value → Shared → Prop} {E : Value → Shared → Prop}
    (hq : ∀ fn cc pm ctv h' tk', Grow F.G s.heap h' → s.heap.get? fn = none → h'.get? fn = some (kla_obj "<lambda>" F.G.tqual lamPar lamBody lamScope (clos1 c) pm cc ctv) → h'.CodeRec (.ref cc) F.G.tqual → Q (.ref fn) { s with heap := h', toks := tk' }) :
    wpAny (model F.G.prog F.G.w) F.A (eval (.Lambda lamPar lamBody lamScope lamPos) F.env) Q E s := by
  refine kla_eval (by rfl) ?_
  obtain ⟨mg, hg, hb⟩ := Wx.gl
  have hg' : s.heap.Ns mainGlobals mg := hg.keeps X.stays.stays
  have hb' : s.heap.BuiltinsAt mg F.G.tab := by
    obtain ⟨bm, o, b1, b2, b3, b4, b5, b6⟩ := hb
    exact ⟨bm, o, b1, b2, b3, b4, X.stays.stays _ _ b5, b6⟩
  have hC : CodeHd s.heap 189 F.G.tab := by
    obtain ⟨o, vs, file, tf, flags, tg, inF, text, tt, e, r⟩ := Wx.head
    exact ⟨o, vs, file, tf, flags, tg, inF, text, tt, X.stays.stays _ _ e, r⟩
  obtain ⟨ps, hP, hT, hcs⟩ := X.stays.tab
  rw [← hq1]
  rcases hcs with hn | ⟨cv, hf, hcr⟩
  · refine kla_makeFunction (closes_lam hc) hF.globs hg' hcode hC hP hT (Wx.pos ▸ hn) Wx.gP hb' fun c' ctv h5 tk5 hx hge hlt hrec htb => ?_
    have kp5 : ∀ b o, b ≠ F.G.tab → s.heap.get? b = some o → (h5.push (kla_obj "<lambda>" F.G.tqual lamPar lamBody lamScope (clos1 c) ((mg "__name__").getD .none) c' ctv)).get? b = some o := fun b o hb e => Heap.get?_push_of_some _ (hx b o hb e)
    have hrec' := hrec.keeps (h' := h5.push (kla_obj "<lambda>" F.G.tqual lamPar lamBody lamScope (clos1 c) ((mg "__name__").getD .none) c' ctv)) fun b o e => Heap.get?_push_of_some _ e
    have gr : Grow F.G s.heap (h5.push (kla_obj "<lambda>" F.G.tqual lamPar lamBody lamScope (clos1 c) ((mg "__name__").getD .none) c' ctv)) := by
      refine ⟨fun b o e => ?_, fun b o e => kp5 b o (fun q => by rw [q, Wx.tabB] at e; cases e) (X.stays.stays b o e), _, Heap.get?_push_of_some _ htb, ?_, .inr ⟨.ref c', ?_, hrec'⟩⟩
      · by_cases hb : b = F.G.tab
        · subst hb
          rw [hP] at e; cases e
          exact .inr (.inr ⟨ps, _, rfl, hT, Heap.get?_push_of_some _ htb⟩)
        · exact .inl (kp5 b o hb e)
      · simpa using TriplesOk_snoc _ _ (.ref c') _ hT
      · rw [Wx.pos]
        simpa using codeAmong_snoc (c := .ref c') _ hT (Wx.pos ▸ hn)
    exact hq h5.objs.size c' _ ctv _ tk5 gr (Heap.get?_none_of_le (Nat.le_trans hge (Nat.le_of_lt hlt))) (Heap.get?_push_size _ rfl) hrec'
  · obtain ⟨cc, o, vs, t, rfl, ho, hd, hv⟩ := id hcr
    refine kla_makeFunctionHit (closes_lam hc) hF.globs hg' hcode hC hP hT (Wx.pos ▸ hf) hb' fun ctv h5 tk5 hk hsz => ?_
    have gr : Grow F.G s.heap (h5.push (kla_obj "<lambda>" F.G.tqual lamPar lamBody lamScope (clos1 c) ((mg "__name__").getD .none) cc ctv)) := .of_keep X.stays fun b o e => Heap.get?_push_of_some _ (hk b o e)
    exact hq h5.objs.size cc _ ctv _ tk5 gr (Heap.get?_none_of_le hsz) (Heap.get?_push_size _ rfl) (hcr.keeps fun b o e => Heap.get?_push_of_some _ (hk b o e))
end
end Mine
end

section
open PySem PySem.Calls PyProof.Rows PySem.W
namespace Mine
noncomputable def toB (ns : List Int) : List UInt8 := ns.map fun n => n.toNat.toUInt8
section
variable {G : GC}
theorem stream_run (W : Wd G) (Wx : StrmOK G) {A : Around} (hA : A.handled = none) (hd : A.depth + 3 < recursionLimit) (hu : A.units + 40 < cLine) {X : List Addr} {s : Shared} {v : Value} {ns : List Int} (st : In G s.heap) (fr : FramesOK A G.B s.heap) (dom : Dom X s.heap)
    (hv : Rp X s.heap v (.list (ns.map .int))) (hr : ∀ i ∈ ns, 0 ≤ i ∧ i < 256) (hl : ns.length ≤ 1000) {Q : Value → Shared → Prop} {E : Value → Shared → Prop}
    (hq : ∀ xx dx fn c cc h' tk', Grow G s.heap h' → (∀ a ∈ [xx, dx, fn, c], s.heap.get? a = none) → StreamAt G xx dx fn c cc (toB ns) h' → Q (.ref xx) { s with heap := h', toks := tk' }) : wpAny (model G.prog G.w) A (call (.ref 190) [v]) Q E s := by
  obtain ⟨fd, Fd, ho, hc, hcode, htq⟩ := Wx.def_
  have hs : plainScope (scopeOf (stAt 26)) = true := by decide +kernel
  refine wpAny_call (Fn.enter (n := 2) (k := 1) (own := 2) (pn := ["octets"]) (names := ["octets", "stream"]) (gls := [("_Example", .ref 66), ("bytes", .type "bytes")]) (ps := [.imm (.list (ns.map .int))]) (qs := [.imm (.list (ns.map .int))]) (X := X) (defAt_of Fd ho hc hs)
    (Fd.scope ▸ (.of (by decide) (by decide) (by decide +kernel) (by decide +kernel) (W.gls [28, 4]))) W.nolimit rfl rfl (by decide) rfl rfl (.pure fun vs hv => bindK (fun _ => all1 fun _ => by kernel_rfl) _ Fd.params Fd.defaults Fd.kwdefaults vs hv) hA (by lia) (by lia) st fr (by rw [show X ++ owned [Sl.imm (.list (ns.map .int))] = X from List.append_nil X]; exact dom) List.nodup_nil nofun (.cons (by rw [show X ++ owned [Sl.imm (.list (ns.map .int))] = X from List.append_nil X]; exact hv) .nil) fun env h1 tk1 hF XA ec eq => ?_)
  have hk : env.kindOf ("stream" : Str) = some .cell := by
    show env.scope.names.lookup _ = _
    rw [show env.scope = fd.scope from hF.scope, Fd.scope]; rfl
  obtain ⟨c, hcl⟩ := Option.isSome_iff_exists.mp (hF.cs _ hk)
  have vol1 : ∀ b, (FC.mk G (A.deeper env) env ["octets", "stream"] 2 [("_Example", .ref 66), ("bytes", .type "bytes")] fd.scope s.heap [] X).vol0 b → ∃ o, h1.get? b = some o := by
    rintro b (q | ⟨i, y, _, _, k, l⟩)
    · obtain ⟨_, _, o, e, _⟩ := XA.loc; exact ⟨o, q ▸ e⟩
    · obtain ⟨_, o, e, _⟩ := XA.cells y b k l; exact ⟨o, e⟩
  -- the object is made
  refine wpAny_execs_cons (wpAny_Assign_Name (wpAny_Call_NameR (name_glob (j := 0) hF rfl XA.stays ?_)) rfl)
  refine callWith_of (P := fun h => In G h) rfl (fun h st => (hF.gls _ (List.mem_of_getElem? (i := 0) rfl)).2.2.1 _ h st) (evalArgs_any rfl (EvL.cons (Ev.call (j := 1) hF rfl (.cons (.name (i := 0) hF rfl rfl) .nil) (call_bytes ns (hF.hand rfl) hr (by rw [sizeLine_eq]; lia))) .nil rfl { s with heap := h1, toks := tk1 } XA _ _ _ fun vs h2 tk2 g2 r2 => ⟨g2.stays, ?_⟩))
  obtain ⟨vb, rfl, rb⟩ := r2.one
  obtain ⟨t, rfl⟩ := rb.bytes'
  have X2 := XA.grow g2
  obtain ⟨K, hK, C⟩ := Wx.ex
  have KX : K.In h2 := fun a o e => g2.stays.stays _ _ (hK a o e)
  have sz : ∀ b, h2.objs.size ≤ b → h2.get? b = none := fun b hb => Heap.get?_none_of_le hb
  have old : ∀ b, h2.objs.size ≤ b → s.heap.get? b = none := fun b hb => by
    cases q : s.heap.get? b with
    | none => rfl
    | some o => obtain ⟨o', e'⟩ := XA.kept.live (nofun : b ∉ ([] : List Addr)) q; obtain ⟨o2, e2⟩ := g2.kp.live e'; rw [sz b hb] at e2; cases e2
  have nvol : ∀ b, h2.objs.size ≤ b → ¬ (FC.mk G (A.deeper env) env ["octets", "stream"] 2 [("_Example", .ref 66), ("bytes", .type "bytes")] fd.scope s.heap [] X).vol0 b := fun b hb q => by
    obtain ⟨o, e⟩ := vol1 b q
    obtain ⟨o2, e2⟩ := g2.kp.live e; rw [sz b hb] at e2; cases e2
  have gp : Grow G h2 ((h2.push emptyDict).push (instObj 66 h2.objs.size)) := (Grow.push g2.stays _).trans (.push (Grow.push g2.stays _).stays _)
  have hdx : ((h2.push emptyDict).push (instObj 66 h2.objs.size)).get? h2.objs.size = some emptyDict := Heap.get?_push_of_some _ (Heap.get?_push_size _ rfl)
  have hx : ((h2.push emptyDict).push (instObj 66 h2.objs.size)).get? (h2.objs.size + 1) = some (instObj 66 h2.objs.size) := by
    have := Heap.get?_push_size (h2.push emptyDict) (o := instObj 66 h2.objs.size) rfl
    rwa [Heap.size_push] at this
  have domX : Dom X h2 := fun a ha => X2.dom a (List.mem_append_left _ ha)
  have notX : ∀ b, h2.objs.size ≤ b → b ∉ X := fun b hb q => by obtain ⟨o, e⟩ := domX b q; rw [sz b hb] at e; cases e
  have notB : ∀ b, h2.objs.size ≤ b → G.B.get? b = none := fun b hb => by
    cases q : G.B.get? b with
    | none => rfl
    | some o => have := g2.stays.stays b o q; rw [sz b hb] at this; cases this
  refine wpAny_call (make_core (makes_of KX C.makes) (looks_findIn KX C.init) (fun self => bind_fn KX self C.initT) (.inl rfl) ?_)
  refine init_run (s := ⟨(h2.push emptyDict).push (instObj 66 h2.objs.size), s.gens, s.drawn, tk2, s.os⟩) (A := (A.deeper env).under _) (X := X) W Wx ?_ ?_ ?_ gp.stays ?_ (domX.kp gp.kp) hx hdx (notX _ (Nat.le_refl _)) (notX _ (Nat.le_succ _)) (notB _ (Nat.le_refl _)) fun h3 tk3 t nn tb i3 k3 p1 p2 => ⟨rfl, ?_⟩
  · exact hA
  · show A.depth + 1 + 1 + 1 < recursionLimit; lia
  · show A.units + 3 + 1 + 8 < cLine; lia
  · obtain ⟨fs, f1, f2⟩ := X2.frs.kp gp.kp
    refine ⟨fs, ?_, f2⟩
    have f1' : (A.deeper env).frames = some fs := f1
    show pushEnvs [] (A.deeper env).frames = some fs
    rw [f1']; rfl
  have g23 : Grow G h2 h3 := ⟨fun b o e => (gp.kp b o e).next fun p e' => k3 b p (fun q => by rw [q, sz _ (Nat.le_refl _)] at e; cases e) e', i3⟩
  have X3 := X2.grow g23
  refine store_unk (s := ⟨h3, s.gens, s.drawn, tk3, s.os⟩) (i := 1) hF X3 rfl (Nat.lt_of_sub_pos (by decide : 0 < 2 - 1)) fun h4 tk4 X4 S4 has4 => ?_
  have p1' : h4.get? (h2.objs.size + 1) = some (instObj 66 h2.objs.size) := S4.kept.same (fun q => q.elim (nvol _ (Nat.le_succ _)) nofun) p1 ⟨nofun, nofun⟩
  have p2' : h4.get? h2.objs.size = some (sdict1 G.w.params t nn (toB ns).toArray tb) := S4.kept.same (fun q => q.elim (nvol _ (Nat.le_refl _)) nofun) p2 (plain_ty rfl)
  have cell4 : h4.IsCell c (some (.ref (h2.objs.size + 1))) := by
    rcases has4 with ⟨q, _⟩ | ⟨_, c', q1, q2⟩
    · exact absurd (hk.symm.trans q) (by decide)
    · have : c = c' := Option.some.inj (hcl.symm.trans q1)
      rw [this]; exact q2
  refine wpAny_execs_cons (plainObj_wpAny_Assign_Attribute ?_ rfl)
  refine lam_make (s := ⟨h4, s.gens, s.drawn, tk4, s.os⟩) Wx hF (ec.trans hcode) (htq.trans (by show _ = env.qual ++ _; rw [eq])) hcl X4 fun fn cc pm ctv h5 tk5 g5 nfn efn ecr => ?_
  have cell5 := isCell_kp cell4 g5.kp
  have q1 : h5.get? (h2.objs.size + 1) = some (instObj 66 h2.objs.size) := g5.kp.same p1' ⟨nofun, nofun⟩
  have q2 : h5.get? h2.objs.size = some (sdict1 G.w.params t nn (toB ns).toArray tb) := g5.kp.same p2' (plain_ty rfl)
  refine wpAny_Name (load_has (F := FC.mk G (A.deeper env) env ["octets", "stream"] 2 [("_Example", .ref 66), ("bytes", .type "bytes")] fd.scope s.heap [] X) (s := ⟨h5, s.gens, s.drawn, tk5, s.os⟩) hF.kind (.inr ⟨.inl hk, c, hcl, cell5⟩) ?_) (by decide)
  have nxd : h2.objs.size + 1 ≠ h2.objs.size := Nat.succ_ne_self _
  have KX5 : K.In h5 := fun a o e => g5.stays.stays _ _ (hK a o e)
  have I5 : InstAt h5 (h2.objs.size + 1) (instObj 66 h2.objs.size) 66 (some (sdict1 G.w.params t nn (toB ns).toArray tb)) := ⟨q1, rfl, rfl, q2⟩
  refine inst_set (s := ⟨h5, s.gens, s.drawn, tk5, s.os⟩) (dx := h2.objs.size) (es := [{ hash := PyData.keyHash G.w.params "value", key := .str "value" t, val := .bytes (toB ns).toArray tb }, { hash := PyData.keyHash G.w.params "read", key := .str "read" (tk5 + 1), val := .ref fn }]) (n := nn + 1) KX5 I5 rfl C.seta C.plain C.hasDict C.read rfl rfl rfl (show 2 ≤ 1000 by decide) fun h6 oth ed => ?_
  rw [put_read] at ed
  have nfd : fn ≠ h2.objs.size := fun q => by rw [q] at efn; exact absurd (congrArg Obj.cls (Option.some.inj (efn.symm.trans q2))) (ty_ne (by decide))
  have ncd : c ≠ h2.objs.size := fun q => by obtain ⟨o, e, d⟩ := cell5; rw [q, q2] at e; cases e; cases d
  have S6 : StreamAt G (h2.objs.size + 1) h2.objs.size fn c cc (toB ns) h6 := by
    refine ⟨(oth _ nxd).trans q1, ⟨_, _, _, _, ed⟩, ⟨_, pm, ctv, (oth _ nfd).trans efn, ?_⟩, ?_⟩
    · obtain ⟨_, o, vs, tq, e, ho', hd', hv'⟩ := ecr
      cases e
      exact ⟨_, o, vs, tq, rfl, (oth cc fun q => by rw [q, q2] at ho'; cases ho'; cases hd').trans ho', hd', hv'⟩
    · obtain ⟨o, e, d⟩ := cell5
      exact ⟨o, (oth c ncd).trans e, d⟩
  refine wpAny_execs_cons (wpAny_Return_some (wpAny_Name (load_has (F := FC.mk G (A.deeper env) env ["octets", "stream"] 2 [("_Example", .ref 66), ("bytes", .type "bytes")] fd.scope s.heap [] X) (s := ⟨h6, s.gens, s.drawn, _, s.os⟩) hF.kind (.inr ⟨.inl hk, c, hcl, S6.cell⟩) ?_) (by decide)))
  have In6 : In G h6 := g5.stays.but oth (notB _ (Nat.le_refl _)) fun o vs e q => by rw [q2] at e; cases e; cases q
  have snone : ∀ b, h4.get? b = none → s.heap.get? b = none := fun b hb => by
    cases q : s.heap.get? b with
    | none => rfl
    | some o => obtain ⟨o', e'⟩ := X4.kept.live (nofun : b ∉ ([] : List Addr)) q; rw [hb] at e'; cases e'
  refine hq _ _ fn c cc h6 _ ⟨fun b o e => ?_, In6⟩ (fun a ha => ?_) S6
  · refine (X4.kept b o nofun e).next fun p ep => (g5.kp b p ep).next fun p2 ep2 => .inl ((oth b fun q => ?_).trans ep2)
    rw [q, old _ (Nat.le_refl _)] at e; cases e
  · rcases List.mem_cons.mp ha with rfl | ha
    · exact old _ (Nat.le_succ _)
    rcases List.mem_cons.mp ha with rfl | ha
    · exact old _ (Nat.le_refl _)
    rcases List.mem_cons.mp ha with rfl | ha
    · exact snone _ nfn
    obtain rfl := List.mem_singleton.mp ha
    exact (hF.cells _ _ hk hcl).2.resolve_right nofun
end
end Mine
end

section
open PySem PySem.Calls PyProof.Rows PySem.W
namespace Mine
section
variable {prog : Program} {w : World} {A : Around} {E : Value → Shared → Prop} {s : Shared}
theorem seq_list_iadd : seqSlot? (.type "list") (dunderI "add") = pure (some (.builtin "list.__iadd__")) := PySem.seqSlot_of PySem.F.slot_list_iadd.lookup (by decide +kernel)
/-- a list more is put behind a list, in its place -/
theorem iadd_lists {l b : Addr} {vs ws : List Value} {n m : Nat} {Q : Value → Shared → Prop} (hl : s.heap.get? l = some (LO vs n)) (hb : s.heap.get? b = some (LO ws m)) (hz : vs.length + ws.length ≤ 1000)
    (h : Q (.ref l) { s with heap := s.heap.update l (Obj.mapSeq fun x => x ++ ws.toArray) }) : wpAny (model prog w) A (inplaceOp .Add (.ref l) (.ref b)) Q E s := by
  have ha : s.TypeIs (.ref l) "list" := ⟨_, hl, rfl⟩
  have hb' : s.TypeIs (.ref b) "list" := ⟨_, hb, rfl⟩
  unfold inplaceOp
  refine wpAny_holding ?_
  have hfi : fillsInplaceSlot (.type "list") "add" (Operator.Add == .Add) = pure false := by
    unfold fillsInplaceSlot
    show (typeLookup (.type "list") (dunderI "add") >>= fun fi => pure (fi.isSome && !isSeqSlot fi)) = pure false
    rw [PySem.F.slot_list_iadd.lookup]; rfl
  refine wpAny_bind (wpAny_typeOf ha (wpAny_bind (wpAny_of_eq hfi ?_)))
  show wpAny _ A (if false = true then _ else _) Q E s
  rw [if_neg Bool.false_ne_true]
  refine wpAny_bind (wpAny_binaryOp1_none (nm := "add") ha hb' noFill_list_add ?_)
  refine wpAny_bind (wpAny_of_eq seq_list_iadd ?_)
  refine wpAny_bind (wpAny_rule ?_)
  have hd : ¬(!vs.toArray.isEmpty && Builtin.List.listTooLong (vs.toArray.size + ws.toArray.size)) = true := by
    have : Builtin.List.listTooLong (vs.toArray.size + ws.toArray.size) = false := by
      unfold Builtin.List.listTooLong
      rw [sizeLine_eq]; simp; lia
    rw [this, Bool.and_false]; decide
  exact (call_meets PySem.F.slot_list_iadd ha PySem.F.entry_list_iadd (PySem.F.args_list_iadd_2 _ _) (AutoSeq1.list___iadd___list_list_0 l vs.toArray n b ws.toArray m hd (by rw [sizeLine_eq]; simp; lia) (by rw [sizeLine_eq]; simp; lia)) ⟨hl, hb, h⟩)
end
section
variable {F : FC} {ρ : List Sl} {n : Nat} {Φ : Fl → List Sl → Prop} {Θ : String → List Sl → Prop} {h h' : Heap}
/-- an object of the frame's own is lent: the frame speaks of it no more -/
theorem Asr.disown {i : Nat} {x : Str} {v : Value} {a : Addr} {o : Ob} (X : Asr F ρ h) (hx : F.names[i]? = some x) (e : ρ[i]? = some (.own v a o)) : Asr (F.withX a) (ρ.set i .unk) h := by
  have hm := mem_owned e
  have hown := X.ob (List.mem_of_getElem? e)
  obtain ⟨hna, hsp⟩ := owned_split X.nodup e
  have nl : F.env.locals ≠ a := fun q => hown.2.1 a List.mem_cons_self (.inl q.symm)
  have sub : ∀ b, b ∈ (F.withX a).X (ρ.set i .unk) → b ∈ F.X ρ := fun b hb => by
    rcases List.mem_append.mp (show b ∈ (a :: F.X0) ++ owned (ρ.set i .unk) from hb) with q | q
    · rcases List.mem_cons.mp q with rfl | q
      · exact List.mem_append_right _ hm
      · exact List.mem_append_left _ q
    · exact List.mem_append_right _ ((hsp b).mpr (.inr q))
  have sl := owned_setP (sl := .unk) rfl ρ i
  refine ⟨X.stays, X.kept, X.frs, ?_, X.cells, X.nodup.sublist sl, fun b hb q => ?_, fun b hb => X.fresh b (sl.subset hb), fun b hb => X.dom b (sub b hb), .of_get fun j y sl' e1 e2 => ?_, by rw [List.length_set]; exact X.len⟩
  · obtain ⟨m, hm', fo, hfo, hc⟩ := X.loc
    refine ⟨m, hm', fo, hfo, hc.imp (fun q => ⟨q.1, fun q' => ?_⟩) fun q => ⟨q.1, .tail _ q.2⟩⟩
    rcases List.mem_cons.mp (show F.env.locals ∈ a :: F.X0 from q') with q' | q'
    · exact nl q'
    · exact q.2 q'
  · rcases List.mem_cons.mp (show b ∈ a :: F.X0 from q) with q | q
    · exact hna (q ▸ hb)
    · exact X.apart b (sl.subset hb) q
  · by_cases hj : i = j
    · subst hj
      rw [List.getElem?_set_self (List.getElem?_eq_some_iff.mp e).1] at e2
      cases e2; trivial
    · rw [List.getElem?_set_ne hj] at e2
      have := X.sls.get e1 e2
      cases sl' with
      | unk => trivial
      | imm d => obtain ⟨u, q1, q2⟩ := this; exact ⟨u, q1, q2.same (.of_kp (.refl _)) sub⟩
      | own v' a' o' => obtain ⟨q1, q2, q3, q4⟩ := this; exact ⟨q1, q2.frame (.of_kp (.refl _)) sub fun _ _ => rfl, q3, fun b hb q => q4 b hb (sub b q)⟩
/-- a list more is put behind an own one by += -/
theorem Ex1.aug_own {i : Nat} {x : Str} {np pos : Pos} {e : PySem.Expr} {v : Value} {a : Addr} {ds es : List Dt} (hF : F.Ok n) (hx : F.names[i]? = some x) (hi : i < F.own) (hne : x ≠ "") (h1 : ρ[i]? = some (.own v a (.list ds))) (he : Ev F ρ e (.list es)) (hsz : ds.length + es.length ≤ 1000) :
    Ex1 F ρ (.AugAssign (.Name x np) .Add e pos) (Turns ρ i v a (.list (ds ++ es))) Θ := by
  intro s X Q E hq _
  have hown0 := X.ob (List.mem_of_getElem? h1)
  obtain ⟨hv, vs, ⟨nn, hl⟩, hr⟩ := hown0.1
  subst hv
  have hlt := (List.getElem?_eq_some_iff.mp h1).1
  refine wpAny_AugAssign_Name (load_has hF.kind ((X.sls.get hx h1).1.resolve_left hne) (he s X _ _ fun u h2 tk2 g2 r2 => ?_))
  obtain ⟨al, ws, rfl, ha, ⟨n2, el⟩, R⟩ := r2.list'
  have X2 := X.grow g2
  have hl2 : h2.get? a = some (LO vs nn) := g2.kp.same hl (plain_ty rfl)
  have hr2 := hr.kp g2.kp
  have l1 := hr.length
  have l2 := R.length
  obtain ⟨X3, S3⟩ := own_list (ws := vs ++ ws) (ds' := ds ++ es) X2 hx h1 hl2 (fun xs => xs ++ ws.toArray) (by simp) (hr2.append R)
  refine iadd_lists (s := { s with heap := h2, toks := tk2 }) hl2 el (by lia) ?_
  have e3 : (ρ.set i (.own (.ref a) a (.list (ds ++ es))))[i]? = some (.own (.ref a) a (.list (ds ++ es))) := List.getElem?_set_self hlt
  obtain ⟨_, vs3, ⟨n3, L3⟩, R3⟩ := (X3.ob (List.mem_of_getElem? e3)).1
  have hvol := (X3.ob (List.mem_of_getElem? e3)).2.1
  obtain ⟨hna, hsp⟩ := owned_split X3.nodup e3
  have hfr := X3.fresh a (mem_owned e3)
  have hap := X3.apart a (mem_owned e3)
  generalize h2.update a (Obj.mapSeq fun xs => xs ++ ws.toArray) = h3 at X3 S3 L3 R3 ⊢
  have Xd := X3.disown hx e3
  have e4 : (ρ.set i (.own (.ref a) a (.list (ds ++ es)))).set i .unk = ρ.set i .unk := List.set_set ..
  rw [e4] at Xd hna hsp
  refine store_unk (F := F.withX a) (s := { s with heap := h3, toks := tk2 }) hF.withX Xd hx hi fun h4 tk4 X4 S4 has4 => ?_
  rw [show (ρ.set i .unk).set i .unk = ρ.set i .unk from List.set_set ..] at X4 S4
  have L4 : h4.get? a = some (LO vs3 n3) := S4.kept.same (fun q => q.elim (hvol a List.mem_cons_self) hna) L3 (plain_ty rfl)
  have sm := S4.same Xd
  have eqX : ∀ b, b ∈ (F.withX a).X (ρ.set i .unk) ↔ b ∈ F.X (ρ.set i (.own (.ref a) a (.list (ds ++ es)))) := fun b => by
    show b ∈ (a :: F.X0) ++ owned (ρ.set i .unk) ↔ b ∈ F.X0 ++ owned (ρ.set i (.own (.ref a) a (.list (ds ++ es))))
    simp only [List.mem_append, List.mem_cons, hsp]
    constructor
    · rintro ((q | q) | q)
      · exact .inr (.inl q)
      · exact .inl q
      · exact .inr (.inr q)
    · rintro (q | q | q)
      · exact .inl (.inr q)
      · exact .inl (.inl q)
      · exact .inr q
  have R4 : RpL ((F.withX a).X (ρ.set i .unk)) h4 vs3 (ds ++ es) := (R3.same (.of_kp (.refl _)) fun b hb => (eqX b).mp hb).same sm fun _ q => q
  have X5 := Asr.own_put (o := .list (ds ++ es)) X4 hx (.inr has4) ⟨rfl, vs3, ⟨n3, L4⟩, R4⟩ rfl (fun q => (List.mem_append.mp q).elim hap hna) (hvol a List.mem_cons_self) hfr.1 hfr.2
  refine hq .next h4 tk4 .next _ ⟨rfl, rfl⟩ X5 trivial ((Stp.of_grow g2).trans (S3.trans ⟨fun b o hb eb => S4.kept b o (fun q => hb (q.imp id fun q => (hsp b).mpr (.inr q))) eb, S4.live, fun b hb => .inl hb⟩))
end
end Mine
end

section
open PySem PySem.Calls PyProof.Rows PySem.W
namespace Mine
theorem Wk.set_unk : ∀ (ρ : List Sl) (i : Nat), Wk ρ (ρ.set i .unk)
  | [], _ => .nil
  | _ :: r, 0 => .drop (.refl r)
  | _ :: r, i + 1 => .keep (Wk.set_unk r i)
theorem Wk.append : ∀ {r r' : List Sl} (s : List Sl), Wk r r' → Wk (r ++ s) (r' ++ s)
  | _, _, s, .nil => .refl s
  | _, _, s, .keep w => .keep (Wk.append s w)
  | _, _, s, .drop w => .drop (Wk.append s w)
/-- a frame with a name more, one that it does not set -/
noncomputable def FC.addN (F : FC) (nm : Str) : FC := { F with names := F.names ++ [nm] }
noncomputable def cstT (xs : List Str) (D : Addr) (out : List Dt) (v : Value) (a : Addr) (o : Ob) : List Sl := cst xs [] D out ++ [.own v a o]
noncomputable def csetT (sl : List Sl) (D : Addr) (out : List Dt) (v : Value) (a : Addr) (o : Ob) : List Sl := cset sl [] D out ++ [.own v a o]
theorem cstT_owned (xs : List Str) (D : Addr) (out : List Dt) (v : Value) (a : Addr) (o : Ob) : owned (cstT xs D out v a o) = [D, a] := by
  unfold cstT; rw [owned_append, cst_owned]; rfl
section
variable {F : FC} {ρ : List Sl} {n : Nat} {Φ : Fl → List Sl → Prop} {Θ : String → List Sl → Prop}
theorem FC.addN_at {nm : Str} (ho : F.own ≤ F.names.length) {i : Nat} {x : Str} (hx : (F.addN nm).names[i]? = some x) (hi : i < F.own) : F.names[i]? = some x := by
  have e : (F.names ++ [nm])[i]? = some x := hx
  rwa [List.getElem?_append_left (Nat.lt_of_lt_of_le hi ho)] at e
theorem FC.addN_vol {nm : Str} (ho : F.own ≤ F.names.length) (b : Addr) : (F.addN nm).vol0 b → F.vol0 b
  | .inl q => .inl q
  | .inr ⟨i, x, hx, hi, q⟩ => .inr ⟨i, x, FC.addN_at ho hx hi, hi, q⟩
theorem FC.Ok.addN {nm : Str} (hF : F.Ok n) (ho : F.own ≤ F.names.length) (hn : (F.names ++ [nm]).Nodup) (hd : (nm == ("__debug__" : Str)) = false) : (F.addN nm).Ok n :=
  ⟨hF.scope, hF.kind, hF.globs, hF.builtins, hF.hand, hF.depth, hF.units, hF.nolimit, hn, fun x hx => by
    rcases List.mem_append.mp (show x ∈ F.names ++ [nm] from hx) with q | q
    · exact hF.nodebug x q
    · obtain rfl := List.mem_singleton.mp q; exact hd, hF.locB, hF.loc0, hF.cells, hF.cs, hF.apart, fun i x hx hi => hF.sets i x (FC.addN_at ho hx hi) hi, hF.gls, hF.top⟩
theorem Asr.addN {σ : List Sl} {h : Heap} {nm : Str} {v : Value} {a : Addr} {o : Ob} (X : Asr F σ h) (ho : F.own ≤ F.names.length) (hv : Has F h nm v) (hob : ObAt (F.X σ) h v a o) (hvol : ∀ b ∈ a :: o.sup, ¬ F.vol0 b) (hsup : ∀ b ∈ o.sup, b ∉ F.X σ ∧ b ≠ a) (ha : a ∉ F.X σ) (hfr : F.G.B.get? a = none ∧ (F.h0.get? a = none ∨ a ∈ F.P))
    (hob' : ObAt (F.X σ ++ [a]) h v a o) (hs : SlsOK F (F.X σ ++ [a]) h F.names σ) : Asr (F.addN nm) (σ ++ [.own v a o]) h := by
  have eo : owned (σ ++ [.own v a o]) = owned σ ++ [a] := owned_append ..
  have eX : (F.addN nm).X (σ ++ [.own v a o]) = F.X σ ++ [a] := by
    show F.X0 ++ owned (σ ++ [.own v a o]) = _
    rw [eo, ← List.append_assoc]; rfl
  refine ⟨X.stays, X.kept, X.frs, X.loc, X.cells, ?_, fun b hb => ?_, fun b hb => ?_, fun b hb => ?_, ?_, ?_⟩
  · rw [eo]
    refine List.nodup_append.mpr ⟨X.nodup, List.nodup_cons.mpr ⟨nofun, .nil⟩, fun b hb c hc q => ?_⟩
    obtain rfl := List.mem_singleton.mp hc
    exact ha (List.mem_append_right _ (q ▸ hb))
  · rw [eo] at hb
    rcases List.mem_append.mp hb with q | q
    · exact X.apart b q
    · obtain rfl := List.mem_singleton.mp q; exact fun q => ha (List.mem_append_left _ q)
  · rw [eo] at hb
    rcases List.mem_append.mp hb with q | q
    · exact X.fresh b q
    · obtain rfl := List.mem_singleton.mp q; exact hfr
  · rw [eX] at hb
    rcases List.mem_append.mp hb with q | q
    · exact X.dom b q
    · obtain rfl := List.mem_singleton.mp q
      obtain ⟨ob, e, _⟩ := hob.plain; exact ⟨ob, e⟩
  · rw [eX]
    refine .of_get fun i x sl e1 e2 => ?_
    have e1 : (F.names ++ [nm])[i]? = some x := e1
    by_cases hi : i < F.names.length
    · rw [List.getElem?_append_left hi] at e1
      rw [List.getElem?_append_left (by rw [X.len]; exact hi)] at e2
      have := hs.get e1 e2
      cases sl with
      | unk => trivial
      | imm d => exact this
      | own v' a' o' => obtain ⟨q1, q2, q3, q4⟩ := this; exact ⟨q1, q2, fun b hb q => q3 b hb (FC.addN_vol ho b q), q4⟩
    · have hi := Nat.not_lt.mp hi
      rw [List.getElem?_append_right hi] at e1
      rw [List.getElem?_append_right (by rw [X.len]; exact hi), X.len] at e2
      generalize i - F.names.length = l at e1 e2
      cases l with
      | succ l => simp at e2
      | zero =>
        simp only [List.getElem?_cons_zero, Option.some.injEq] at e1 e2
        subst e1 e2
        exact ⟨.inr hv, hob', fun b hb q => hvol b hb (FC.addN_vol ho b q), fun b hb q => (List.mem_append.mp q).elim (hsup b hb).1 fun q => (hsup b hb).2 (List.mem_singleton.mp q)⟩
  · show (σ ++ [Sl.own v a o]).length = (F.names ++ [nm]).length
    rw [List.length_append, List.length_append, X.len]; rfl
/-- .. where the element turns what the frame owns -/
theorem InT.emitT {i : Nat} {D : Addr} {out : List Dt} {d : Dt} {elt : PySem.Expr} {x : Str} {ρ2 : List Sl} (hx : F.names[i]? = some x) (h1 : ρ2[i]? = some (.own (.ref D) D (.list out))) (he : EvT F ρ elt d ρ2) (hsz : out.length ≤ sizeLine) :
    InT F ρ (ρ2.set i (.own (.ref D) D (.list (out ++ [d])))) (compEmit elt (.ref D) F.env) := by
  intro s X c Q E hq
  unfold compEmit
  refine wpAny_bind (wpAny_bind (he s X _ _ fun w h' tk' X' S' r => ?_))
  obtain ⟨_, vs, ⟨nn, hl⟩, hr⟩ := (X'.ob (List.mem_of_getElem? h1)).1
  obtain ⟨X2, S2⟩ := own_list (ws := vs ++ [w]) X' hx h1 hl (fun xs => xs.push w) (by simp) (hr.append (.cons r .nil))
  refine wpAny_bind (call_meets (B := Builtin.«list.append») PySem.F.slot_list_append (show Shared.TypeIs { s with heap := h', toks := tk' } (.ref D) "list" from ⟨_, hl, rfl⟩) PySem.F.entry_list_append (PySem.F.args_list_append_2 _ _) (PySem.list_append D vs.toArray nn w (by simpa [hr.length] using hsz)) ⟨hl, ?_⟩)
  exact wpAny_pure (wpAny_pure (hq _ tk' X2 (S'.trans S2)))
variable {scope : Scope} {xs : List Str} {gl : List (Str × Value)}
/-- a comprehension whose element turns what the frame owns -/
theorem evT_comp {elt target iter : PySem.Expr} {pos : Pos} {ds : List Dt} {any : Bool} {i : Nat} {nm : Str} {v : Value} {a : Addr} {sup : List Addr} {P : Nat → Heap → Prop} (out : Nat → Dt) (hF : F.Ok n) (hx : F.names[i]? = some nm) (e : ρ[i]? = some (.own v a (.abs sup (P 0))))
    (hi : EvIt F ρ iter ds any) (ha : (any || isTupE target) = true) (hK : compOK F.sc scope xs [] gl = true) (hnm : scope.names.lookup nm = some .free) (hnx : nm ∉ xs) (hne : nm ≠ "") (hsz : ds.length ≤ 1000) (hgl : ∀ p ∈ gl, GlOK F.G p)
    (hb : ∀ C D acc, ((F.comp (ρ.set i .unk) scope C xs [] gl).addN nm).Ok n → ∀ k d, ds[k]? = some d → ∃ sl : List Sl, sl.length = xs.length ∧ Tgt ((F.comp (ρ.set i .unk) scope C xs [] gl).addN nm) target d (cstT xs D acc v a (.abs sup (P k))) (csetT sl D acc v a (.abs sup (P k))) ∧
      EvT ((F.comp (ρ.set i .unk) scope C xs [] gl).addN nm) (csetT sl D acc v a (.abs sup (P k))) elt (out k) (csetT sl D acc v a (.abs sup (P (k + 1)))))
    (hs : ∀ x, foldedSetIterable iter F.env x = pure x := by intro _; rfl) :
    EvT F ρ (.ListComp elt [⟨target, iter, [], 0⟩] scope pos) (.list ((List.range ds.length).map out)) (ρ.set i (.own v a (.abs sup (P ds.length)))) := by
  intro s X Q E hq
  have K := CompOK.of hK
  rw [eval_ListComp]
  refine wpAny_comprehension_free (use := Option.none) rfl hs (closureFor_eq fun x hx => hF.cs x ((kind_eq hF x).trans (K.free x hx))) K.kind (fun x hx hl => by
    obtain ⟨y, k⟩ := x
    have hl : k = .local := hl
    subst hl
    exact lookup_of_mem K.keys hx) (hi s X _ _ fun it h₂ tk₂ wr St g₂ ok st₂ hw => wpAny_newObj_type (newCompEnv fun cenv h he hl kp eC hcell => ?_))
  have hsz2 : (h₂.push { cls := .type "list", data := .seq #[] }).objs.size = h₂.objs.size + 1 := Heap.size_push ..
  have kp2 : ∀ b o, h₂.get? b = some o → h.get? b = some o := fun b o e => kp b o (Heap.get?_push_of_some _ e)
  have eD : h.get? h₂.objs.size = some (LO [] 0) := kp _ _ (Heap.get?_push_size _ rfl)
  have he' : { cenv with scope := relabel scope F.env } = compEnv scope F.env (h₂.objs.size + 1) := he.trans (congrArg _ hsz2)
  have hl : cenv.locals = h₂.objs.size + 1 := hl.trans hsz2
  have eC : h.get? (h₂.objs.size + 1) = some { cls := .type "dict", data := .dict #[] } := hsz2 ▸ eC
  have hcell : ∀ x c, (x, c) ∈ cellsFrom (h₂.objs.size + 1 + 1) scope.names [] → h.IsCell c Option.none := fun x c hm => hcell x c (by
    rw [show ({ s with heap := h₂.push { cls := .type "list", data := .seq ([] : List Value).toArray }, toks := tk₂ } : Shared).heap.objs.size = h₂.objs.size + 1 from hsz2]; exact hm)
  rw [he']
  have X2 := X.grow g₂
  have Xw : Asr F (ρ.set i .unk) h₂ := X2.weak (Wk.set_unk ρ i)
  obtain ⟨hna, hsp⟩ := owned_split X.nodup e
  have haO := mem_owned e
  have hfresh : ∀ b, h₂.objs.size ≤ b → h₂.get? b = Option.none := fun b hb => Heap.get?_none_of_le hb
  have okF := comp_ok (ρ := ρ.set i .unk) (xs := xs) (caps := []) (gl := gl) (C := h₂.objs.size + 1) hF K Xw (Nat.le_succ _) hgl
  have X3 := comp_start (cs := []) hF K Xw .nil kp2 rfl eD rfl eC hcell
  have hX3 : (F.comp (ρ.set i .unk) scope (h₂.objs.size + 1) xs [] gl).X (cst xs [] h₂.objs.size []) = ((h₂.objs.size + 1) :: F.X (ρ.set i .unk)) ++ [h₂.objs.size] := by
    unfold FC.X; rw [cst_owned]; rfl
  have subX : ∀ b, b ∈ F.X (ρ.set i .unk) → b ∈ F.X ρ := fun b hb => by
    rcases List.mem_append.mp hb with q | q
    · exact List.mem_append_left _ q
    · exact List.mem_append_right _ ((hsp b).mpr (.inr q))
  have own2 := X2.ob (List.mem_of_getElem? e)
  obtain ⟨oa, ea, _⟩ := own2.1.plain
  have old2 : ∀ b o, h₂.get? b = some o → b ≠ h₂.objs.size ∧ b ≠ h₂.objs.size + 1 := fun b o e => ⟨fun q => (by rw [q, hfresh _ (Nat.le_refl _)] at e; cases e), fun q => (by rw [q, hfresh _ (Nat.le_succ _)] at e; cases e)⟩
  have naX : a ∉ F.X (ρ.set i .unk) := fun q => (List.mem_append.mp q).elim (X.apart a haO) hna
  have naC : a ∉ (F.comp (ρ.set i .unk) scope (h₂.objs.size + 1) xs [] gl).X (cst xs [] h₂.objs.size []) := fun q => by
    rw [hX3] at q
    rcases List.mem_append.mp q with q | q
    · rcases List.mem_cons.mp q with q | q
      · exact (old2 a oa ea).2 q
      · exact naX q
    · exact (old2 a oa ea).1 (List.mem_singleton.mp q)
  have hown : (F.comp (ρ.set i .unk) scope (h₂.objs.size + 1) xs [] gl).own ≤ (F.comp (ρ.set i .unk) scope (h₂.objs.size + 1) xs [] gl).names.length := by
    show xs.length ≤ (xs ++ [] ++ [("" : Str)]).length
    simp
  have hndb : (nm == ("__debug__" : Str)) = false := hF.nodebug nm (List.mem_of_getElem? hx)
  have okF' : ((F.comp (ρ.set i .unk) scope (h₂.objs.size + 1) xs [] gl).addN nm).Ok n := okF.addN hown (by
    show ((xs ++ [] ++ [("" : Str)]) ++ [nm]).Nodup
    refine List.nodup_append.mpr ⟨K.nodup, List.nodup_cons.mpr ⟨nofun, .nil⟩, fun b hm c hc q => ?_⟩
    have eb : b = nm := q.trans (List.mem_singleton.mp hc)
    rcases List.mem_append.mp hm with q' | q'
    · rw [List.append_nil] at q'; exact hnx (eb ▸ q')
    · exact hne (eb.symm.trans (List.mem_singleton.mp q'))) hndb
  -- the comprehension's frame does not write what stood
  have vold : ∀ b o, h₂.get? b = some o → ¬ (F.comp (ρ.set i .unk) scope (h₂.objs.size + 1) xs [] gl).vol0 b := fun b o eb q => by
    rcases q with q | ⟨j, x, hx, hi, hk, hl⟩
    · exact (old2 b o eb).2 q
    · rcases comp_cell hF K hl with ⟨_, q⟩ | ⟨q, _⟩
      · exact absurd (Heap.lt_size eb) (Nat.not_lt.mpr (Nat.le_of_succ_le (Nat.le_of_succ_le (cellsFrom_lo _ _ q))))
      · have hx' : x ∈ xs := by
          have e : (F.comp (ρ.set i .unk) scope (h₂.objs.size + 1) xs [] gl).names = xs ++ ([] ++ [("" : Str)]) := List.append_assoc _ _ _
          rw [e, List.getElem?_append_left hi] at hx
          exact List.mem_of_getElem? hx
        have := lookup_of_mem K.keys q
        rcases K.xk x hx' with q' | q' <;> rw [this] at q' <;> cases q'
  have hob2 : ∀ Y, ObAt Y h v a (.abs sup (P 0)) := fun Y => own2.1.kp (.of_keep kp2)
  have hhas : Has (F.comp (ρ.set i .unk) scope (h₂.objs.size + 1) xs [] gl) h nm v := by
    have hfree := mem_of_lookup_kind hnm
    obtain ⟨f1, f2⟩ := comp_free (ρ := ρ.set i .unk) (C := h₂.objs.size + 1) (xs := xs) (caps := []) (gl := gl) hF K hfree
    have hk : F.env.kindOf nm = some .cell := (kind_eq hF nm).trans (K.free nm hfree)
    rcases (X2.sls.get hx e).1.resolve_left hne with ⟨q, _⟩ | ⟨_, c, q1, q2⟩
    · rw [hk] at q; cases q
    · exact .inr ⟨.inl f2, c, f1.trans q1, q2.keeps kp2⟩
  have X4 : Asr ((F.comp (ρ.set i .unk) scope (h₂.objs.size + 1) xs [] gl).addN nm) (cstT xs h₂.objs.size [] v a (.abs sup (P 0))) h := by
    refine X3.addN hown hhas (hob2 _) (fun b hb => ?_) (fun b hb => ⟨fun q => ?_, ?_⟩) naC (X.fresh a haO) (hob2 _) ?_
    · obtain ⟨ob, eb, _⟩ := own2.1.there b hb
      exact vold b ob eb
    · obtain ⟨ob, eb, _⟩ := own2.1.there b (.tail _ hb)
      rw [hX3] at q
      rcases List.mem_append.mp q with q | q
      · rcases List.mem_cons.mp q with q | q
        · exact (old2 b ob eb).2 q
        · exact own2.2.2 b hb (subX b q)
      · exact (old2 b ob eb).1 (List.mem_singleton.mp q)
    · exact fun q => own2.2.2 b hb (q ▸ List.mem_append_right _ haO)
    · refine .of_get fun j x sl e1 e2 => ?_
      have := X3.sls.get e1 e2
      unfold cst at e2
      cases sl with
      | unk => trivial
      | imm d =>
        rcases List.mem_append.mp (List.mem_of_getElem? e2) with q | q
        · rcases List.mem_append.mp q with q | q
          · cases (List.mem_replicate.mp q).2
          · cases q
        · cases List.mem_singleton.mp q
      | own v' a' o' =>
        rcases List.mem_append.mp (List.mem_of_getElem? e2) with q | q
        · rcases List.mem_append.mp q with q | q
          · cases (List.mem_replicate.mp q).2
          · cases q
        · cases List.mem_singleton.mp q
          obtain ⟨q1, q2, q3, q4⟩ := this
          exact ⟨q1, ⟨rfl, [], ⟨0, eD⟩, .nil⟩, q3, nofun⟩
  have hX4 : ∀ k out', ((F.comp (ρ.set i .unk) scope (h₂.objs.size + 1) xs [] gl).addN nm).X (cstT xs h₂.objs.size out' v a (.abs sup (P k))) = ((h₂.objs.size + 1) :: F.X (ρ.set i .unk)) ++ [h₂.objs.size, a] := fun k out' => by
    unfold FC.X; rw [cstT_owned]; rfl
  have hwr : ∀ b ∈ wr, ∃ o, h₂.get? b = some o := fun b hb => let ⟨o, e, _⟩ := ok.neut _ _ _ st₂ b hb; ⟨o, e⟩
  have B0 : LBase F s.heap h₂ it wr St ds any ρ := .of X g₂ ok st₂ hw
  have inX : ∀ b, b ∈ ((h₂.objs.size + 1) :: F.X (ρ.set i .unk)) ++ [h₂.objs.size, a] → b ∈ F.X ρ ∨ h₂.get? b = none := fun b q => by
    rcases List.mem_append.mp q with q | q
    · rcases List.mem_cons.mp q with q | q
      · exact .inr (q ▸ hfresh _ (Nat.le_succ _))
      · exact .inl (subX b q)
    · rcases List.mem_cons.mp q with q | q
      · exact .inr (q ▸ hfresh _ (Nat.le_refl _))
      · obtain rfl := List.mem_singleton.mp q; exact .inl (List.mem_append_right _ haO)
  let I : Nat → List Sl := fun k => cstT xs h₂.objs.size ((List.range k).map out) v a (.abs sup (P k))
  have B : LBase ((F.comp (ρ.set i .unk) scope (h₂.objs.size + 1) xs [] gl).addN nm) s.heap h it wr St ds any (I 0) := by
    refine ⟨X4, (g₂.kp.trans (.of_keep kp2)).but, fun b o e => let ⟨o', e'⟩ := g₂.kp.live e; ⟨o', kp2 _ _ e'⟩, ok, ?_, hw, B0.nb, B0.n0, fun b hb q => ?_⟩
    · refine ok.keep _ _ _ _ _ st₂ (fun b hb => ?_) (.of_kp (.of_keep kp2)) fun b hb => inX b (by rw [hX4] at hb; exact hb)
      obtain ⟨o, e⟩ := hwr b hb; rw [e]; exact kp2 _ _ e
    · rw [hX4] at q
      rcases inX b q with q | q
      · exact B0.nx b hb q
      · obtain ⟨o, e⟩ := hwr b hb
        rw [q] at e; cases e
  have loop := comp_loop (F := (F.comp (ρ.set i .unk) scope (h₂.objs.size + 1) xs [] gl).addN nm) (s := s) (tk₂ := tk₂) (I := I) (T := compEmit elt (.ref h₂.objs.size) ((F.comp (ρ.set i .unk) scope (h₂.objs.size + 1) xs [] gl).addN nm).env) (R := compPost (model F.G.prog F.G.w) F.A E Option.none Q (.ref h₂.objs.size) cenv.locals) (elt := elt) (gens := [⟨target, iter, [], 0⟩]) (scope := scope) (pos := pos) (acc := .ref h₂.objs.size) (depth := 0) (compTurn_1 ..) B ha (fun k d hd => ?_) fun h' tk' X' S' => by
    obtain ⟨m, hm, fo, hfo, hfc⟩ := X'.loc
    rw [hl]
    have hns := hm.ns
    obtain ⟨o1, es, ep, e1, hd1, hr1⟩ := hm
    have e1 : h'.get? (h₂.objs.size + 1) = some o1 := e1
    have nC : h₂.get? (h₂.objs.size + 1) = none := hfresh _ (Nat.le_succ _)
    have nBC : F.G.B.get? (h₂.objs.size + 1) = none := okF.locB
    have hownD := X'.ob (v := .ref h₂.objs.size) (a := h₂.objs.size) (o := .list ((List.range ds.length).map out)) (List.mem_append_left _ (List.mem_append_right _ List.mem_cons_self))
    have hownA := X'.ob (v := v) (a := a) (o := .abs sup (P ds.length)) (List.mem_append_right _ List.mem_cons_self)
    rw [hX4] at hownD hownA
    obtain ⟨⟨_, vs, L, R⟩, _⟩ := hownD
    refine ⟨m, hns, fun h'' sb => ?_⟩
    have stay : ∀ b, b ≠ h₂.objs.size + 1 → h''.get? b = h'.get? b := sb.2
    have cont : ∀ b o, h₂.get? b = some o → h''.get? b = h'.get? b := fun b o eb => stay b (old2 b o eb).2
    have live2 : ∀ b o, s.heap.get? b = some o → ∃ o', h₂.get? b = some o' := fun b o eb => g₂.kp.live eb
    have S2 : KpBut (· = a) s.heap h'' := fun b o hb eb => by
      obtain ⟨o', eb'⟩ := live2 b o eb
      rw [cont b o' eb']
      refine S'.kept b o (fun q => ?_) eb
      rcases q with q | q
      · exact vold b o' eb' (FC.addN_vol hown b q)
      · rw [cstT_owned] at q
        rcases List.mem_cons.mp q with q | q
        · exact (old2 b o' eb').1 q
        · exact hb (List.mem_singleton.mp q)
    have inn : In F.G h'' := X'.stays.letgo sb nBC e1 hd1
    have sm := Same.letgo sb (show (h₂.objs.size + 1) ∈ ((h₂.objs.size + 1) :: F.X (ρ.set i .unk)) ++ [h₂.objs.size, a] from List.mem_append_left _ (.head _)) e1 hd1
    have subX' : ∀ b, b ∈ F.X ρ → b ∈ ((h₂.objs.size + 1) :: F.X (ρ.set i .unk)) ++ [h₂.objs.size, a] := fun b hb => by
      rcases List.mem_append.mp hb with q | q
      · exact List.mem_append_left _ (.tail _ (List.mem_append_left _ q))
      · rcases (hsp b).mp q with q | q
        · exact List.mem_append_right _ (q ▸ by simp)
        · exact List.mem_append_left _ (.tail _ (List.mem_append_right _ q))
    have hob'' : ObAt (F.X ρ) h'' v a (.abs sup (P ds.length)) := hownA.1.frame sm subX' fun b hb => by
      obtain ⟨ob, eb, _⟩ := own2.1.there b hb
      exact cont b ob eb
    obtain ⟨Xf, Sf⟩ := X.own_kept hx e S2 inn hob'' rfl
    refine hq _ h'' tk' Xf Sf ?_
    rw [FC.X_set_own e]
    refine .list (fun q => ?_) (vs := vs) ?_ (R.same sm subX')
    · obtain ⟨o, eb⟩ := X2.dom _ q
      exact (old2 _ o eb).1 rfl
    · obtain ⟨nn, eL⟩ := L
      exact ⟨nn, (stay _ (Nat.ne_of_lt (Nat.lt_succ_self _))).trans eL⟩
  · exact codeAny_compStart_list loop (ok.self _ _ ds _ _ B.st loop)
  · obtain ⟨sl, hsl, ht, hv⟩ := hb (h₂.objs.size + 1) h₂.objs.size ((List.range k).map out) okF' k d hd
    have hk : k < ds.length := (List.getElem?_eq_some_iff.mp hd).1
    have e1 : csetT sl h₂.objs.size ((List.range k).map out) v a (.abs sup (P (k + 1))) = sl ++ [Sl.own (.ref h₂.objs.size) h₂.objs.size (.list ((List.range k).map out)), .own v a (.abs sup (P (k + 1)))] := by
      unfold csetT cset; simp
    refine ⟨_, ht, true, .nil, _, InT.emitT (i := xs.length) (x := "") (out := (List.range k).map out) (D := h₂.objs.size) ?_ ?_ hv ?_, ?_⟩
    · show ((xs ++ [] ++ [("" : Str)]) ++ [nm])[xs.length]? = some ("" : Str)
      simp
    · rw [e1, List.getElem?_append_right (by lia), hsl, Nat.sub_self]; rfl
    · rw [List.length_map, List.length_range, sizeLine_eq]; lia
    · rw [e1, List.set_append_right _ _ (by lia), hsl, Nat.sub_self]
      show Wk _ (cstT xs h₂.objs.size ((List.range (k + 1)).map out) v a (.abs sup (P (k + 1))))
      have e2 : cstT xs h₂.objs.size ((List.range (k + 1)).map out) v a (.abs sup (P (k + 1))) = List.replicate sl.length Sl.unk ++ [Sl.own (.ref h₂.objs.size) h₂.objs.size (.list ((List.range k).map out ++ [out k])), .own v a (.abs sup (P (k + 1)))] := by
        unfold cstT cst; rw [List.range_succ, List.map_append, hsl]; simp
      rw [e2]
      exact Wk.unks sl _
end
end Mine
end

section
open PySem PySem.Calls PyProof.Rows PySem.W
namespace Mine
/-- a contract for a caller that owns nothing -/
noncomputable def FnOK0 (G : GC) (n : Nat) (f : Value) (ds : List Dt) (d : Dt) : Prop := ∀ A : Around, A.handled = none → A.depth + n < recursionLimit → A.units + 8 * n < cLine →
  ∀ s vs, In G s.heap → FramesOK A G.B s.heap → RpL [] s.heap vs ds → Mine.Gives G A [] s (call f vs) d
theorem Fn.pl0 {G : GC} {f : Addr} {k n kk own : Nat} {pn names : List Str} {gls : List (Str × Value)} {ds : List Dt} {d : Dt} (D : DefIs G f k) (N : Names G (scopeOf (stAt k)) names own gls) (hlim : G.B.NoLimit)
    (hpn : names.take pn.length = pn) (hpl : pn.length = ds.length) (hpo : pn.length ≤ own) (hlen : ds.length + kk = names.length) (hs : plainScope (scopeOf (stAt k)) = true)
    (hbind : ∀ fd : FuncData, fd.params = paramsOf (stAt k) → fd.defaults = .none → fd.kwdefaults = .none → ∀ vs, vs.length = ds.length → bindArgs fd ⟨vs, []⟩ = pure (pn.zip vs))
    (hbody : ∀ (A : Around) (env : Env) (h0 : Heap), (FC.mk G A env names own gls (scopeOf (stAt k)) h0 [] []).Ok n → Ex (FC.mk G A env names own gls (scopeOf (stAt k)) h0 [] []) (start (ds.map .imm) kk) (Mine.bodyOf (stAt k)) fun fl _ => fl = .ret d) : FnOK0 G (n + 1) (.ref f) ds d := by
  intro A hA hd hu s vs st fr hv Q E hq
  obtain ⟨fd, F, ho, hc⟩ := D
  have eo : owned (ds.map Sl.imm) = [] := owned_imm ds
  refine wpAny_call (Fn.enter (R := fun r s' => match r with | .ok (.ret v) => Q v s' | .ok _ => False | .error e => E e s') (n := n) (k := kk) (own := own) (pn := pn) (names := names) (gls := gls) (ps := ds.map .imm) (qs := ds.map .imm) (X := []) (defAt_of F ho hc hs) (F.scope ▸ N) hlim hpn (by rw [hpl, List.length_map]) hpo rfl (by rw [List.length_map]; exact hlen)
    (.pure fun vs hv => hbind fd F.params F.defaults F.kwdefaults vs (by rw [hv, List.length_map])) hA hd hu st fr (by rw [eo]; nofun) (by rw [eo]; exact .nil) (by rw [eo]; nofun) (by rw [eo]; exact .of_rp hv) fun env h1 tk1 hok X1 _ _ => ?_)
  rw [eo, F.scope] at hok X1
  refine wpAny_mono (hbody (A.deeper env) env s.heap hok { s with heap := h1, toks := tk1 } X1 (fun fl s' => Q (match fl with | .ret v => v | _ => .none) s') (fun _ _ => False) ?_ fun _ _ _ _ _ q => q.elim) (fun _ _ q => q) fun _ _ q => q.elim
  intro fl h2 tk2 fl' ρ' hΦ X2 hfl S2
  subst hΦ
  cases fl <;> try exact hfl.elim
  exact hq _ h2 tk2 ⟨fun b o e => X2.kept b o nofun e, X2.stays⟩ (Rp.same (Y := []) (.of_kp (.refl _)) (fun a (ha : a ∈ ([] : List Addr)) => by cases ha) hfl)
section
variable {F : FC} {ρ : List Sl} {n : Nat} {Θ : String → List Sl → Prop}
theorem ev_call0 {j k : Nat} {f : Str} {fv : Value} {fp pos : Pos} {es : List PySem.Expr} {ds : List Dt} {d : Dt} (hF : F.Ok n) (hg : F.gls[j]? = some (f, fv)) (ha : EvL F ρ es ds) (hX : F.X ρ = []) (hc : FnOK0 F.G k fv ds d) (hk : k ≤ n)
    (hs : (starEach es F.env).any (·.1) = false := by rfl) (hq0 : F.hd = false := by rfl) : Ev F ρ (.Call (.Name f fp) es [] pos) d := by
  intro s h Q E hq
  refine wpAny_Call_NameR (name_glob hF hg h.stays ?_)
  refine callWith_of (P := fun h => In F.G h) ?_ (fun h st => (hF.gls _ (List.mem_of_getElem? hg)).2.2.1 _ h st) (evalArgs_any hs (ha s h pos _ _ fun vs h1 tk1 g1 r1 => ⟨g1.stays, ?_⟩))
  · have : (backTo pos (starEach es F.env)).any (·.1) = (starEach es F.env).any (·.1) := by unfold backTo; rw [List.any_map]; rfl
    rw [this, hs]; rfl
  · have A1 := h.grow g1
    rw [hX] at r1
    refine hc F.A (hF.hand hq0) (by have := hF.depth; lia) (by have := hF.units; lia) _ vs (by exact g1.stays) (by exact A1.frs) (by exact r1) _ _ fun v h2 tk2 g2 r2 => hq v h2 tk2 (g1.trans g2) ?_
    rw [hX]; exact r2
/-- a new object with what it stands on, that nothing else speaks of, is the frame's own -/
theorem Asr.own_putS {h : Heap} {i : Nat} {x : Str} {v : Value} {a : Addr} {o : Ob} (X : Asr (F.withX a) (ρ.set i .unk) h) (hx : F.names[i]? = some x) (hv : x = "" ∨ Has F h x v) (ho : ObAt ((F.withX a).X (ρ.set i .unk)) h v a o) (hs : ∀ b ∈ o.sup, ¬ F.vol0 b ∧ b ∉ F.X (ρ.set i .unk) ∧ b ≠ a) (hn : a ∉ F.X (ρ.set i .unk)) (nv : ¬ F.vol0 a) (nB : F.G.B.get? a = none) (n0 : F.h0.get? a = none ∨ a ∈ F.P) :
    Asr F (ρ.set i (.own v a o)) h := by
  have hi : i < ρ.length := by
    have := X.len
    rw [List.length_set] at this
    rw [this]; exact (List.getElem?_eq_some_iff.mp hx).1
  have pm := owned_put (v := v) (a := a) (o := o) hi
  have mem : ∀ b, b ∈ F.X (ρ.set i (.own v a o)) → b ∈ (F.withX a).X (ρ.set i .unk) := fun b hb => by
    rcases List.mem_append.mp hb with q | q
    · exact .tail _ (List.mem_append_left _ q)
    · rcases List.mem_cons.mp (pm.mem_iff.mp q) with q | q
      · exact q ▸ .head _
      · exact .tail _ (List.mem_append_right _ q)
  have sm : Same ((F.withX a).X (ρ.set i .unk)) h h := .of_kp (.refl h)
  refine ⟨X.stays, X.kept, X.frs, ?_, X.cells, pm.nodup_iff.mpr (List.nodup_cons.mpr ⟨fun q => hn (List.mem_append_right _ q), X.nodup⟩), fun b hb q => ?_, fun b hb => ?_, fun b hb => X.dom b (mem b hb), .of_get fun j y sl e1 e2 => ?_, by rw [List.length_set]; have := X.len; rw [List.length_set] at this; exact this⟩
  · obtain ⟨m, hm, fo, hfo, hc⟩ := X.loc
    refine ⟨m, hm, fo, hfo, hc.imp (fun q => ⟨q.1, fun q' => q.2 (.tail _ q')⟩) fun q => ⟨q.1, ?_⟩⟩
    exact (List.mem_cons.mp q.2).resolve_left fun q' => nv (.inl q'.symm)
  · rcases List.mem_cons.mp (pm.mem_iff.mp hb) with q' | q'
    · exact hn (List.mem_append_left _ (q' ▸ q))
    · exact X.apart b q' (.tail _ q)
  · rcases List.mem_cons.mp (pm.mem_iff.mp hb) with q | q
    · exact q ▸ ⟨nB, n0⟩
    · exact X.fresh b q
  · by_cases hj : i = j
    · subst hj
      rw [List.getElem?_set_self hi] at e2
      cases e2
      rw [hx] at e1; cases e1
      refine ⟨hv, ho.frame sm mem fun _ _ => rfl, fun b hb => ?_, fun b hb q => ?_⟩
      · rcases List.mem_cons.mp hb with rfl | hb
        · exact nv
        · exact (hs b hb).1
      · rcases List.mem_append.mp q with q | q
        · exact (hs b hb).2.1 (List.mem_append_left _ q)
        · rcases List.mem_cons.mp (pm.mem_iff.mp q) with q | q
          · exact (hs b hb).2.2 q
          · exact (hs b hb).2.1 (List.mem_append_right _ q)
    · rw [List.getElem?_set_ne hj] at e2
      have := X.sls.get e1 (by rw [List.getElem?_set_ne hj]; exact e2)
      cases sl with
      | unk => trivial
      | imm d => obtain ⟨u, q1, q2⟩ := this; exact ⟨u, q1, q2.same sm mem⟩
      | own v' a' o' => obtain ⟨q1, q2, q3, q4⟩ := this; exact ⟨q1, q2.frame sm mem fun _ _ => rfl, q3, fun b hb q => q4 b hb (mem b q)⟩
/-- the stream, under a name of a frame that owns nothing else -/
theorem ex1_stream {i j : Nat} {x f : Str} {np fp pos pos2 : Pos} {e : PySem.Expr} {ns : List Int} (W : Wd F.G) (Wx : StrmOK F.G) (hF : F.Ok n) (h5 : 5 ≤ n) (hg : F.gls[j]? = some (f, .ref 190)) (hx : F.names[i]? = some x) (hi : i < F.own) (hX : F.X ρ = []) (he : Ev F ρ e (.list (ns.map .int))) (hr : ∀ i ∈ ns, 0 ≤ i ∧ i < 256) (hl : ns.length ≤ 1000)
    (hsw : swapsWith (.Call (.Name f fp) [e] [] pos2) (some (.Name x np)) pos.line F.env = pure false := by rfl) (hse : starEach [e] F.env = [(false, eval e F.env)] := by rfl) (hq0 : F.hd = false := by rfl) :
    Ex1 F ρ (.Assign [.Name x np] (.Call (.Name f fp) [e] [] pos2) pos) (fun fl r => fl = .next ∧ ∃ xx dx fn c cc, r = ρ.set i (.own (.ref xx) dx (streamOb F.G xx dx fn c cc (toB ns)))) Θ := by
  intro s X Q E hq _
  have hs : (starEach [e] F.env).any (·.1) = false := by rw [hse]; rfl
  refine wpAny_Assign_Name (wpAny_Call_NameR (name_glob hF hg X.stays ?_)) hsw
  refine callWith_of (P := fun h => In F.G h) ?_ (fun h st => (hF.gls _ (List.mem_of_getElem? hg)).2.2.1 _ h st) (evalArgs_any hs (EvL.cons he .nil hse s X pos2 _ _ fun vs h1 tk1 g1 r1 => ⟨g1.stays, ?_⟩))
  · have : (backTo pos2 (starEach [e] F.env)).any (·.1) = (starEach [e] F.env).any (·.1) := by unfold backTo; rw [List.any_map]; rfl
    rw [this, hs]; rfl
  obtain ⟨v, rfl, r⟩ := r1.one
  have X1 := X.grow g1
  refine stream_run (X := []) (s := { s with heap := h1, toks := tk1 }) W Wx (hF.hand hq0) (by have := hF.depth; lia) (by have := hF.units; lia) g1.stays X1.frs nofun (by rw [hX] at r; exact r) hr hl fun xx dx fn c cc h2 tk2 g2 new S => ?_
  have nd := new dx (by simp)
  obtain ⟨t1, t2, nn, tb, ed⟩ := S.dict
  have X2 := X1.grow_new (C := dx) g2 nd ⟨_, ed⟩
  have nv : ∀ b, h1.get? b = none → ¬ F.vol0 b := fun b hb q => by
    rcases q with q | ⟨_, y, _, _, k, l⟩
    · obtain ⟨_, _, ⟨o, e, _⟩⟩ := X1.loc
      rw [← q, hb] at e; cases e
    · obtain ⟨_, o, e, _⟩ := X1.cells y _ k l
      rw [hb] at e; cases e
  have hXo : owned ρ = [] := (List.append_eq_nil_iff.mp hX).2
  have hX0 : F.X0 = [] := (List.append_eq_nil_iff.mp hX).1
  have hXs : owned (ρ.set i .unk) = [] := List.eq_nil_iff_forall_not_mem.mpr fun b hb => by
    have := (owned_setP (sl := .unk) rfl ρ i).subset hb
    rw [hXo] at this; cases this
  -- the code is no place that the frame writes
  have ccd : ∃ o vs, h2.get? cc = some o ∧ o.data = .fields vs := by
    obtain ⟨_, _, _, _, _, o, vs, _, e, ho, hd, _⟩ := S.fn
    cases e
    exact ⟨o, vs, ho, hd⟩
  have nvc : ¬ F.vol0 cc := fun q => by
    obtain ⟨o, vs, ho, hd⟩ := ccd
    rcases q with q | ⟨_, y, _, _, k, l⟩
    · obtain ⟨m, ⟨_, _, _, e, hd', _⟩, _⟩ := X2.loc
      rw [show (F.withX dx).env.locals = cc from q.symm, ho] at e; cases e
      rw [hd] at hd'; cases hd'
    · obtain ⟨_, o', e, hd'⟩ := X2.cells y _ k l
      rw [ho] at e; cases e
      rw [hd] at hd'; cases hd'
  have ne : ∀ b ∈ [xx, fn, c, cc], b ≠ dx := fun b hb q => by
    subst q
    rcases List.mem_cons.mp hb with rfl | hb
    · have := S.inst; rw [ed] at this; cases this
    rcases List.mem_cons.mp hb with rfl | hb
    · obtain ⟨_, _, _, e, _⟩ := S.fn
      exact absurd (congrArg Obj.cls (Option.some.inj (ed.symm.trans e))) (ty_ne (by decide))
    rcases List.mem_cons.mp hb with rfl | hb
    · obtain ⟨o, e, d⟩ := S.cell
      rw [ed] at e; cases e; cases d
    obtain rfl := List.mem_singleton.mp hb
    obtain ⟨o, vs, ho, hd⟩ := ccd
    rw [ed] at ho; cases ho; cases hd
  have nv4 : ∀ b ∈ [xx, fn, c, cc], ¬ F.vol0 b := fun b hb => by
    rcases List.mem_cons.mp hb with rfl | hb
    · exact nv _ (new _ (by simp))
    rcases List.mem_cons.mp hb with rfl | hb
    · exact nv _ (new _ (by simp))
    rcases List.mem_cons.mp hb with rfl | hb
    · exact nv _ (new _ (by simp))
    obtain rfl := List.mem_singleton.mp hb
    exact nvc
  refine store_unk (F := F.withX dx) (s := { s with heap := h2, toks := tk2 }) hF.withX X2 hx hi fun h3 tk3 X3 S3 has => ?_
  have hob := (S.ob (X := (F.withX dx).X ρ)).kept (Y := (F.withX dx).X (ρ.set i .unk)) (h' := h3) (S3.same X2) (fun b hb => by
    rcases List.mem_append.mp hb with q | q
    · exact List.mem_append_left _ q
    · rw [hXs] at q; cases q) fun b hb ob eb => S3.kept b ob (fun q => by
    rcases q with q | q
    · rcases List.mem_cons.mp hb with rfl | hb
      · exact nv _ nd q
      · exact nv4 b hb q
    · rw [hXo] at q; cases q) eb
  have nXe : ∀ b, b ∉ F.X (ρ.set i .unk) := fun b q => by
    unfold FC.X at q; rw [hX0, hXs] at q; cases q
  have X4 := Asr.own_putS (o := streamOb F.G xx dx fn c cc (toB ns)) X3 hx (.inr has) hob (fun b hb => ⟨nv4 b hb, nXe b, ne b hb⟩) (nXe dx) (nv dx nd) (by
    cases q : F.G.B.get? dx with
    | none => rfl
    | some o => have := X1.stays.stays _ o q; rw [nd] at this; cases this) (by
    by_cases hP : dx ∈ F.P
    · exact .inr hP
    · cases q : F.h0.get? dx with
      | none => exact .inl rfl
      | some o => obtain ⟨o', e'⟩ := X1.kept.live hP q; rw [nd] at e'; cases e')
  have hil : i < ρ.length := by rw [X.len]; exact (List.getElem?_eq_some_iff.mp hx).1
  refine hq .next h3 tk3 .next _ ⟨rfl, xx, dx, fn, c, cc, rfl⟩ X4 trivial ⟨fun b ob hb eb => ?_, fun b ob eb => ?_, fun b hb => ?_⟩
  · exact ((g1.trans g2).kp b ob eb).next fun p ep => S3.kept b p hb ep
  · obtain ⟨o', e'⟩ := (g1.trans g2).kp.live eb
    exact S3.live b o' e'
  · rcases List.mem_cons.mp ((owned_put hil).mem_iff.mp hb) with q | q
    · exact .inr (q ▸ g1.kp.none nd)
    · rw [hXs] at q; cases q
end
end Mine
namespace Mine
theorem Wd.glOK {G : GC} (W : Wd G) (is : List Nat) : ∀ p ∈ is.filterMap (wdNames[·]?), GlOK G p := fun p hp => by
  obtain ⟨a, b⟩ := W.gls is p hp
  refine ⟨a, b, ?_⟩
  obtain ⟨i, _, hi⟩ := List.mem_filterMap.mp hp
  have : (wdNames.all fun p => !(p.1 == ("__debug__" : Str))) = true := by decide +kernel
  simpa using List.all_eq_true.mp this p (List.mem_of_getElem? hi)
end Mine
end

section
open PySem PySem.Calls PyProof.Rows PySem.W
namespace Mine
noncomputable def nameB (f : Int) : List UInt8 := if f = 1 then [233] else if f = 2 then [233, 46] else if f = 3 then [101] else []
noncomputable def namesB (n : Int) : List (List UInt8) := ((figs n).filter fun f => decide (f > 0)).map nameB
theorem nameB_ok (f : Int) (h : f > 0) (h4 : f < 4) : latinS (nameB f) = nameOf f ∧ 0 < (nameB f).length ∧ (nameB f).length ≤ 2 ∧ Decodes (nameB f) := by
  have : f = 1 ∨ f = 2 ∨ f = 3 := by lia
  rcases this with rfl | rfl | rfl
  · exact ⟨by decide +kernel, by decide, by decide, latin_1⟩
  · exact ⟨by decide +kernel, by decide, by decide, latin_2⟩
  · exact ⟨by decide +kernel, by decide, by decide, latin_3⟩
theorem namesB_mem (n : Int) : ∀ l ∈ namesB n, ∃ f, f > 0 ∧ f < 4 ∧ l = nameB f := fun l hl => by
  obtain ⟨f, hf, rfl⟩ := List.mem_map.mp hl
  obtain ⟨h1, h2⟩ := List.mem_filter.mp hf
  exact ⟨f, of_decide_eq_true h2, (figs_range n f h1).2, rfl⟩
theorem namesB_names (n : Int) : (namesB n).map latinS = namesOf n := by
  unfold namesB namesOf
  rw [List.map_map]
  refine List.map_congr_left fun f hf => ?_
  obtain ⟨h1, h2⟩ := List.mem_filter.mp hf
  exact (nameB_ok f (of_decide_eq_true h2) (figs_range n f h1).2).1
theorem namesB_len (n : Int) : (namesB n).length ≤ 3 := by
  unfold namesB; rw [List.length_map]; exact List.length_filter_le _ _
/-- a text's octets, as numbers -/
noncomputable def octS (x : Str) : List Int := (x.length : Int) :: x.cps.toList.map fun c : Nat => (c : Int)
noncomputable def octN (n : Int) : List Int := (namesOf n ++ [("" : Str)]).flatMap octS
noncomputable def octA (ns : List Int) : List Int := ns.flatMap octN
theorem octS_latin (l : List UInt8) : toB (octS (latinS l)) = enc l := by
  unfold toB octS enc
  rw [List.map_cons]
  have h1 : ((latinS l).length : Int).toNat.toUInt8 = l.length.toUInt8 := by rw [latinS_len]; rfl
  have h2 : ((latinS l).cps.toList.map fun c : Nat => (c : Int)).map (fun n => n.toNat.toUInt8) = l := by
    unfold latinS
    rw [List.map_map]
    show (l.map UInt8.toNat).map _ = l
    rw [List.map_map]
    conv => rhs; rw [← List.map_id l]
    refine List.map_congr_left fun b _ => ?_
    show (b.toNat : Int).toNat.toUInt8 = b
    rw [Int.toNat_natCast]
    exact UInt8.ofNat_toNat
  rw [h1, h2]
theorem toB_append (a b : List Int) : toB (a ++ b) = toB a ++ toB b := List.map_append ..
theorem octN_toB (n : Int) : toB (octN n) = encs (namesB n) ++ [0] := by
  unfold octN
  rw [List.flatMap_append, toB_append, ← namesB_names]
  have h1 : toB ([("" : Str)].flatMap octS) = [0] := by decide +kernel
  rw [h1]
  congr 1
  unfold encs
  generalize namesB n = bs
  induction bs with
  | nil => rfl
  | cons l r ih => rw [List.map_cons, List.flatMap_cons, List.flatMap_cons, toB_append, ih, octS_latin]
theorem octA_cons (n : Int) (r : List Int) : toB (octA (n :: r)) = encs (namesB n) ++ 0 :: toB (octA r) := by
  unfold octA
  rw [List.flatMap_cons, toB_append, octN_toB, List.append_assoc]; rfl
theorem octS_len (x : Str) : (octS x).length = x.length + 1 := by unfold octS Str.length; simp
theorem octs_len : ∀ (l : List Str), (∀ x ∈ l, x.length ≤ 2) → (l.flatMap octS).length ≤ 3 * l.length
  | [], _ => Nat.le_refl _
  | x :: r, h => by
    rw [List.flatMap_cons, List.length_append, octS_len, List.length_cons]
    have := octs_len r fun y hy => h y (List.mem_cons_of_mem _ hy)
    have := h x List.mem_cons_self
    lia
theorem octN_len (n : Int) : (octN n).length ≤ 12 := by
  have h := namesOf_len n
  have := octs_len (namesOf n ++ [("" : Str)]) fun x hx => by
    rcases List.mem_append.mp hx with q | q
    · exact h.2 x q
    · rw [List.mem_singleton.mp q]; exact Nat.zero_le _
  rw [List.length_append] at this
  have h1 := h.1
  unfold octN
  simp at this ⊢
  lia
theorem octA_len : ∀ (ns : List Int), (octA ns).length ≤ 12 * ns.length
  | [] => Nat.le_refl _
  | n :: r => by
    unfold octA
    rw [List.flatMap_cons, List.length_append, List.length_cons]
    have := octA_len r
    have := octN_len n
    unfold octA at *
    lia
theorem octA_range (ns : List Int) : ∀ i ∈ octA ns, 0 ≤ i ∧ i < 256 := fun i hi => by
  obtain ⟨n, _, hi⟩ := List.mem_flatMap.mp hi
  obtain ⟨x, hx, hi⟩ := List.mem_flatMap.mp hi
  have key : ∀ l : List UInt8, l.length ≤ 2 → ∀ i ∈ octS (latinS l), 0 ≤ i ∧ i < 256 := fun l hl i hi => by
    unfold octS at hi
    rcases List.mem_cons.mp hi with rfl | hi
    · rw [latinS_len]; lia
    · obtain ⟨c, hc, rfl⟩ := List.mem_map.mp hi
      obtain ⟨b, _, rfl⟩ := List.mem_map.mp (show c ∈ l.map UInt8.toNat from hc)
      have := b.toNat_lt
      lia
  rcases List.mem_append.mp hx with q | q
  · rw [← namesB_names] at q
    obtain ⟨l, hl, rfl⟩ := List.mem_map.mp q
    obtain ⟨f, h1, h2, rfl⟩ := namesB_mem n l hl
    exact key _ (nameB_ok f h1 h2).2.2.1 i hi
  · rw [List.mem_singleton.mp q] at hi
    exact key [] (by decide) i hi
section
variable {F : FC} {ρ ρ' : List Sl} {n : Nat} {Φ : Fl → List Sl → Prop} {Θ : String → List Sl → Prop}
theorem ex_ret_t {e : PySem.Expr} {pos : Pos} {rest : List Stmt} {d : Dt} (he : EvT F ρ e d ρ') (h : Φ (.ret d) ρ') : Ex F ρ (.Return (some e) pos :: rest) Φ Θ := by
  intro s X Q E hq _
  refine wpAny_execs_cons (wpAny_Return_some (he s X _ _ fun v h' tk' X' S' r => ?_))
  exact hq (.ret v) h' tk' (.ret d) ρ' h X' r S'
end
section
variable {G : GC}
noncomputable def dInts (l : List Int) : Dt := .list (l.map .int)
theorem paths_ok (W : Wd G) (Wx : StrmOK G) (ns : List Int) (hn : ns.length ≤ 6) (hr : ∀ n ∈ ns, 0 ≤ n ∧ n < 1000000) : FnOK0 G 7 (.ref 207) [dInts ns] (.list (ns.map fun n => .str (pathOf (namesOf n)))) := by
  refine Fn.pl0 (k := 29) (n := 6) (kk := 4) (own := 5) (pn := ["numbers"]) (names := ["numbers", "octets", "number", "name", "stream"]) (gls := [("_law_names", .ref 195), ("len", .builtin "len"), ("_law_stream", .ref 190)]) (W.def (i := 13) rfl)
    (.of (by decide) (by decide) (by decide +kernel) (by decide +kernel) (W.gls [31, 5, 30])) W.nolimit rfl rfl (by decide) rfl (by decide +kernel) (bindK fun _ => all1 fun _ => by kernel_rfl) fun A env h0 hF => ?_
  refine Ex.own_new (i := 1) hF rfl (Nat.lt_of_sub_pos (by decide : 0 < 5 - 1)) fun a => ?_
  refine Ex.seq (ρ' := [.imm (dInts ns), .own (.ref a) a (.list ((octA ns).map .int)), .unk, .unk, .unk])
    (Ex1.for (I := fun m => [.imm (dInts ns), .own (.ref a) a (.list ((octA (ns.take m)).map .int)), .unk, .unk, .unk]) (EvIt.list hF (.name (i := 0) hF rfl rfl)) rfl (fun m d hd => ?_) (by rw [List.length_map, List.take_length]; exact ⟨rfl, rfl⟩)) ?_
  · rw [List.getElem?_map] at hd
    obtain ⟨x, hx, rfl⟩ := Option.map_eq_some_iff.mp hd
    have hxr := hr x (List.mem_of_getElem? hx)
    have hcur := octA_len (ns.take m)
    have hm : (ns.take m).length ≤ 6 := Nat.le_trans (List.length_take_le' _ _) hn
    obtain ⟨hn3, hn2⟩ := namesOf_len x
    have hds : (namesOf x).map Dt.str ++ [.str ""] = (namesOf x ++ [("" : Str)]).map Dt.str := by rw [List.map_append]; rfl
    refine ⟨_, .name (i := 2) hF rfl (Nat.lt_of_sub_pos (by decide : 0 < 5 - 2)), ?_⟩
    refine Ex.seq (ρ' := [.imm (dInts ns), .own (.ref a) a (.list ((octA (ns.take m) ++ octN x).map .int)), .imm (.int x), .unk, .unk])
      (Ex1.for (I := fun j => [.imm (dInts ns), .own (.ref a) a (.list ((octA (ns.take m) ++ ((namesOf x ++ [("" : Str)]).take j).flatMap octS).map .int)), .imm (.int x), .unk, .unk])
        (EvIt.list hF (Ev.bin (Ev.call (j := 0) hF rfl (.cons (.name (i := 2) hF rfl rfl) .nil) ((names_ok W x hxr.1 hxr.2).use hF (by decide))) (Ev.list (.cons .str .nil) (small_lt (show 1 ≤ 1000 by decide))) (bin_add_list ((namesOf x).map .str) [.str ""] (small_lt (by rw [List.length_map]; show _ + 1 ≤ 1000; lia))))) ?_ (fun j d hd => ?_) ?_) (Ex.nil ?_)
    · simp
    · rw [hds, List.getElem?_map] at hd
      obtain ⟨y, hy, rfl⟩ := Option.map_eq_some_iff.mp hd
      have hy2 : y.length ≤ 2 := by
        rcases List.mem_append.mp (List.mem_of_getElem? hy) with q | q
        · exact hn2 y q
        · rw [List.mem_singleton.mp q]; exact Nat.zero_le _
      refine ⟨_, .name (i := 3) hF rfl (Nat.lt_of_sub_pos (by decide : 0 < 5 - 3)), ?_⟩
      refine Ex.seq (Ex1.aug_own (i := 1) (es := (octS y).map .int) hF rfl (Nat.lt_of_sub_pos (by decide : 0 < 5 - 1)) (by decide) rfl
        (Ev.bin (Ev.list (.cons (Ev.call (j := 1) hF rfl (.cons (.name (i := 3) hF rfl rfl) .nil) (call_len_s y (small_lt (by lia)))) .nil) (small_lt (show 1 ≤ 1000 by decide)))
          (Ev.comp1 (y.cps.toList.map fun c : Nat => some (.int (c : Int))) ((y.cps.toList.map fun c : Nat => (c : Int)).map .int) ["sign"] [] [("ord", .builtin "ord")] hF (EvIt.str hF (.name (i := 3) hF rfl rfl)) (by show compOK (scopeOf (stAt 29)) _ _ _ _ = true; decide +kernel) .nil (W.glOK [9]) ?_ ?_ ?_ ?_)
          (bin_add_list [.int y.length] ((y.cps.toList.map fun c : Nat => (c : Int)).map .int) ?_)) ?_) (Ex.nil ?_)
      · unfold signs; rw [List.length_map, List.length_map]
      · unfold signs; rw [List.length_map, Array.length_toList]; have : y.cps.size = y.length := rfl; lia
      · rw [List.filterMap_map, List.map_map]
        exact congrFun (List.filterMap_eq_map (f := fun c : Nat => Dt.int (c : Int))) _
      · intro C D acc ok k d r hd hr
        unfold signs at hd
        rw [List.getElem?_map] at hd hr
        obtain ⟨c, hc, rfl⟩ := Option.map_eq_some_iff.mp hd
        rw [hc] at hr
        have hr2 : some (Dt.int (c : Int)) = r := Option.some.inj hr
        subst hr2
        exact ⟨[.imm (.str ⟨#[c]⟩)], rfl, .name (i := 0) ok rfl (Nat.lt_of_sub_pos (by decide : 0 < 1 - 0)), .nil, Ev.call (j := 0) ok rfl (.cons (.name (i := 0) ok rfl rfl) .nil) (call_ord c)⟩
      · refine small_lt ?_
        rw [List.length_map, List.length_map]
        have h1 : y.cps.toList.length = y.length := Array.length_toList
        have h2 : y.length ≤ 2 := hy2
        show 1 + _ ≤ 1000
        lia
      · rw [List.length_map, List.length_map, octS_len, List.length_append]
        have := octs_len ((namesOf x ++ [("" : Str)]).take j) fun z hz => by
          rcases List.mem_append.mp (List.mem_of_mem_take hz) with q | q
          · exact hn2 z q
          · rw [List.mem_singleton.mp q]; exact Nat.zero_le _
        have h2 : ((namesOf x ++ [("" : Str)]).take j).length ≤ 4 := by
          refine Nat.le_trans (List.length_take_le' _ _) ?_
          rw [List.length_append]; show _ + 1 ≤ 4; lia
        lia
      · have e : ((octA (ns.take m) ++ ((namesOf x ++ [("" : Str)]).take j).flatMap octS).map Dt.int) ++ (octS y).map .int = (octA (ns.take m) ++ ((namesOf x ++ [("" : Str)]).take (j + 1)).flatMap octS).map Dt.int := by
          rw [← List.map_append, List.append_assoc, List.take_add_one, hy, List.flatMap_append]
          simp
        rw [e]
        exact .keep (.keep (.keep (.drop (.drop .nil))))
    · rw [hds, List.length_map, List.take_length]
      exact ⟨rfl, rfl⟩
    · have e : octA (ns.take (m + 1)) = octA (ns.take m) ++ octN x := by
        unfold octA
        rw [List.take_add_one, hx, List.flatMap_append]
        simp
      rw [e]
      exact .keep (.keep (.drop (.drop (.drop .nil))))
  · refine Ex.freeze (i := 1) (x := "octets") rfl (by decide) rfl rfl ?_
    refine Ex.cons (ex1_stream (i := 4) (j := 2) (ns := octA ns) W Wx hF (by decide) rfl rfl (Nat.lt_of_sub_pos (by decide : 0 < 5 - 4)) rfl (.name (i := 1) hF rfl rfl) (octA_range ns) (by have := octA_len ns; lia)) fun fl r ⟨e, xx, dx, fn, c, cc, e'⟩ => ?_
    subst e e'
    refine ex_ret_t (evT_comp (i := 4) (nm := "stream") (xs := ["number"]) (gl := [("_law_path", .ref 202)]) (v := .ref xx) (a := dx) (sup := [xx, fn, c, cc]) (P := fun k => StreamAt G xx dx fn c cc (toB (octA (ns.drop k)))) (fun k => .str (pathOf (namesOf (ns.getD k 0)))) hF rfl rfl (EvIt.list hF (.name (i := 0) hF rfl rfl)) rfl
      (by show compOK (scopeOf (stAt 29)) _ _ _ _ = true; decide +kernel) rfl (by decide) (by decide) (by rw [List.length_map]; lia) (W.glOK [32]) fun C D acc ok k d hd => ?_) ?_
    · rw [List.getElem?_map] at hd
      obtain ⟨x, hx, rfl⟩ := Option.map_eq_some_iff.mp hd
      have hk := (List.getElem?_eq_some_iff.mp hx).1
      have e1 : ns.drop k = x :: ns.drop (k + 1) := by
        rw [List.drop_eq_getElem_cons hk]
        rw [List.getElem?_eq_getElem hk] at hx
        rw [Option.some.inj hx]
      have e2 : ns.getD k 0 = x := by simp [List.getD, hx]
      refine ⟨[.imm (.int x)], rfl, .name (i := 0) ok rfl (Nat.lt_of_sub_pos (by decide : 0 < 1 - 0)), ?_⟩
      have hc := path_ok (xx := xx) (dx := dx) (fn := fn) (c := c) (cc := cc) W Wx.ex (namesB x) (toB (octA (ns.drop (k + 1)))) (namesB_len x) (fun l hl => by
        obtain ⟨f, h1, h2, rfl⟩ := namesB_mem x l hl
        exact (nameB_ok f h1 h2).2) (by
        unfold toB; rw [List.length_map]
        have := octA_len (ns.drop (k + 1))
        rw [List.length_drop] at this
        lia)
      rw [namesB_names, ← octA_cons, ← e1] at hc
      show EvT _ _ _ (.str (pathOf (namesOf (ns.getD k 0)))) _
      rw [e2]
      exact evT_call1 (i := 2) (j := 0) ok rfl rfl (by decide) rfl hc (by decide) rfl
    · show Fl.ret _ = Fl.ret _
      congr 2
      refine List.ext_getElem (by simp) fun k h1 h2 => ?_
      have hk : k < ns.length := by simpa using h2
      simp [List.getD, hk]
end
end Mine
end

section
open PySem PySem.Calls PyProof.Rows PySem.W
open AutoSeq1 (wpAny_loadPart')
namespace Mine
/-! a map of a list, made a tuple -/
namespace FM
theorem owner_map : Manifest.owners.lookup (String.ofList ['p', 'a', 'm'].reverse) = some Manifest.sig_map := by kernel_rfl
theorem slot_map_init : Slot "map" "__init__" "object.__init__" :=
  .of (owner := "object") (n := "__init__") (by rw [typeLookup_type, builtinLookup_eq_fast]; kernel_rfl) (by decide +kernel) (by decide +kernel) (by decide +kernel)
    (by first | exact .inl (by decide +kernel) | exact .inr (by decide +kernel)) (by rw [isSubtype_type]; kernel_rfl)
theorem slot_map_iter : Slot "map" "__iter__" "map.__iter__" :=
  .of (owner := "map") (n := "__iter__") (by rw [typeLookup_type, builtinLookup_eq_fast]; kernel_rfl) (by decide +kernel) (by decide +kernel) (by decide +kernel)
    (by first | exact .inl (by decide +kernel) | exact .inr (by decide +kernel)) (by rw [isSubtype_type]; kernel_rfl)
theorem slot_map_next : Slot "map" "__next__" "map.__next__" :=
  .of (owner := "map") (n := "__next__") (by rw [typeLookup_type, builtinLookup_eq_fast]; kernel_rfl) (by decide +kernel) (by decide +kernel) (by decide +kernel)
    (by first | exact .inl (by decide +kernel) | exact .inr (by decide +kernel)) (by rw [isSubtype_type]; kernel_rfl)
theorem args_map_iter_1 (a : Value) : argsOk "map.__iter__" ⟨[a], []⟩ := by
  unfold argsOk; rw [signature?_of (id := "map.__iter__") (n := ['_', '_', 'r', 'e', 't', 'i', '_', '_']) (o := ['p', 'a', 'm']) (by kernel_rfl) owner_map]; kernel_rfl
theorem args_map_next_1 (a : Value) : argsOk "map.__next__" ⟨[a], []⟩ := by
  unfold argsOk; rw [signature?_of (id := "map.__next__") (n := ['_', '_', 't', 'x', 'e', 'n', '_', '_']) (o := ['p', 'a', 'm']) (by kernel_rfl) owner_map]; kernel_rfl
theorem entry_map_iter : entryFor table "map.__iter__" = some Builtin.«dict_keyiterator.__iter__» :=
  entryFor_alias (id' := "dict_keyiterator.__iter__") (by kernel_rfl) (by first | rfl | decide +kernel | (unfold String.splitOn; simp +decide [String.splitOnAux])) (by decide +kernel) (by kernel_rfl)
theorem entry_map_next : entryFor table "map.__next__" = some Builtin.«map.__next__» := entryFor_of_tree (by kernel_rfl)
theorem entry_map_new : entryFor table "map.__new__" = some Builtin.«map.__new__» := entryFor_of_tree (by kernel_rfl)
theorem mro_map : mroOf (.type "map") = pure [.type "map", .type "object"] := by rw [mroOf_type]; kernel_rfl
theorem lookup_map_new : typeLookup (.type "map") "__new__" = pure (some (.builtin "map.__new__")) := by rw [typeLookup_type, builtinLookup_eq_fast]; kernel_rfl
theorem called_map : TypeCalled "map" "map.__new__" "object.__init__" :=
  ⟨by decide +kernel, by decide +kernel, ⟨_, _, mro_map⟩, madeBy_type mro_map lookup_map_new (by decide +kernel), by decide +kernel, by rw [isSubtype_type]; kernel_rfl, slot_map_init⟩
theorem typeCall_map_2 (a b : Value) : checkTypeCall "map" ⟨[a, b], []⟩ = pure () := by kernel_rfl
theorem newCall_map_2 (a b : Value) : checkBuiltinCall "map.__new__" ⟨[.type "map", a, b], []⟩ = pure () := by kernel_rfl
theorem nolen_map : typeLookup (.type "map") "__len__" = pure none := by rw [typeLookup_type, builtinLookup_eq_fast]; kernel_rfl
theorem nohint_map : typeLookup (.type "map") "__length_hint__" = pure none := by rw [typeLookup_type, builtinLookup_eq_fast]; kernel_rfl
theorem sub_map : isSubtype (.type "map") (.type "map") = pure true := by rw [isSubtype_type]; kernel_rfl
end FM
noncomputable abbrev mapObj (tp : Addr) (f : Value) : Obj := { cls := .type "map", data := .fields #[.ref tp, f] }
noncomputable abbrev iterObj (l : Addr) (i : Int) : Obj := { cls := .type "list_iterator", data := .fields #[.ref l, .int i 0] }
theorem meets_map_new (f : Value) (l : Addr) (items : Array Value) :
    Meets (Builtin.«map.__new__» ⟨[.type "map", f, .ref l], []⟩) (fun _ R s => s.heap.IsList l items ∧
      R (.ok (.ret (.ref (s.heap.objs.size + 2)))) { s with heap := ((s.heap.push (iterObj l 0)).push (TO [.ref s.heap.objs.size] 0)).push (mapObj (s.heap.objs.size + 1) f) }) :=
  .of_wp fun prog w A R s h => by
    obtain ⟨hp, g, d, tk, os⟩ := s; obtain ⟨hL, h⟩ := h
    have hsub := FM.sub_map
    have hL : Heap.IsList (Shared.heap ⟨hp, g, d, tk, os⟩) l items := hL
    have z1 : (hp.push (iterObj l 0)).objs.size = hp.objs.size + 1 := Heap.size_push ..
    have z2 : ((hp.push (iterObj l 0)).push (TO [.ref hp.objs.size] 0)).objs.size = hp.objs.size + 2 := by rw [Heap.size_push, z1]
    dsimp only at h
    rw [← z1, ← z2] at h
    wp_walk using wpAny_pyIter_list hL
    all_goals first | exact ⟨_, rfl, h⟩ | exact h
end Mine
end

section
open PySem PySem.Calls PyProof.Rows PySem.W
namespace Mine
section
variable {prog : Program} {w : World} {A : Around} {E : Value → Shared → Prop} {s : Shared}
theorem call_map_list {f : Value} {l : Addr} {items : Array Value} {Q : Value → Shared → Prop} (hL : s.heap.IsList l items)
    (h : Q (.ref (s.heap.objs.size + 2)) { s with heap := ((s.heap.push (iterObj l 0)).push (TO [.ref s.heap.objs.size] 0)).push (mapObj (s.heap.objs.size + 1) f) }) : wpAny (model prog w) A (call (.type "map") [f, .ref l]) Q E s := by
  have z1 : (s.heap.push (iterObj l 0)).objs.size = s.heap.objs.size + 1 := Heap.size_push ..
  have z2 : ((s.heap.push (iterObj l 0)).push (TO [.ref s.heap.objs.size] 0)).objs.size = s.heap.objs.size + 2 := by rw [Heap.size_push, z1]
  have e := Heap.get?_push_size ((s.heap.push (iterObj l 0)).push (TO [.ref s.heap.objs.size] 0)) (o := mapObj (s.heap.objs.size + 1) f) rfl
  rw [z2] at e
  exact callType_new FM.called_map (by decide) (FM.typeCall_map_2 _ _) (FM.newCall_map_2 _ _) (fun obj => F.args_object_init_3 obj _ _) FM.entry_map_new (meets_map_new f l items) ⟨hL, ⟨_, e, rfl⟩, h⟩
theorem map_next_item {m it tp l : Addr} {f : Value} {i n : Nat} {items : Array Value} {x : Value} {Q : Option Value → Shared → Prop}
    (hm : s.heap.get? m = some (mapObj tp f)) (ht : s.heap.get? tp = some (TO [.ref it] n)) (hit : s.heap.IsListIter it l i) (hl : s.heap.IsList l items) (hx : items[i]? = some x) (nm : m ≠ it)
    (hc : ∀ h' (E' : Value → Shared → Prop), h'.IsListIter it l (i + 1) → Heap.SameBut it s.heap h' → wpAny (model prog w) A.in1 (call f [x]) (fun v s' => Q (some v) s') E' { s with heap := h' }) : wpAny (model prog w) A (pyNext (.ref m)) Q E s := by
  have hT : s.TypeIs (.ref m) "map" := ⟨_, hm, rfl⟩
  unfold pyNext
  refine wpAny_bind (wpAny_attempt (wpAny_callSpecial?_slot (name := Str.ofString "__next__") hT FM.slot_map_next
    (wpAny_call_entry FM.slot_map_next hT FM.entry_map_next ?_ (FM.args_map_next_1 _))))
  show wpAny _ _ (field (.ref m) 0 >>= _) _ _ _
  refine wpAny_bind (wpAny_field hm rfl (x := .ref tp) rfl ?_)
  show wpAny _ _ (seqItems? (.ref tp) >>= _) _ _ _
  refine wpAny_bind (wpAny_seqItems ht rfl ?_)
  refine wpAny_bind ?_
  rw [← Array.forIn_toList]
  show wpAny _ _ (forIn [Value.ref it] _ _) _ _ _
  rw [List.forIn_cons]
  refine wpAny_bind (wpAny_bind (wpAny_holding (wpAny_nextOf_list_item hit hl hx fun h' hit' hs => wpAny_pure ?_)))
  dsimp only
  rw [List.forIn_nil]
  refine wpAny_pure ?_
  have hm' : h'.get? m = some (mapObj tp f) := (hs.2 m nm).trans hm
  show wpAny _ _ (field (.ref m) 1 >>= _) _ _ _
  refine wpAny_bind (wpAny_field hm' rfl (x := f) rfl ?_)
  refine wpAny_bind (wpAny_holding ?_)
  refine wpAny_mono (hc h' _ hit' hs) (fun v s' q => ?_) fun _ _ q => q
  exact wpAny_bind (wpAny_letGo (wpAny_pure ⟨v, rfl, wpAny_pure q⟩))
theorem map_next_end {m it tp l : Addr} {f : Value} {i n : Nat} {items : Array Value} {Q : Option Value → Shared → Prop} (hh : A.handled = none)
    (hm : s.heap.get? m = some (mapObj tp f)) (ht : s.heap.get? tp = some (TO [.ref it] n)) (hit : s.heap.IsListIter it l i) (hl : s.heap.IsList l items) (hx : items[i]? = none)
    (hQ : ∀ h', Heap.ExtBut it s.heap h' → Q none { s with heap := h' }) : wpAny (model prog w) A (pyNext (.ref m)) Q E s := by
  have hT : s.TypeIs (.ref m) "map" := ⟨_, hm, rfl⟩
  unfold pyNext
  refine wpAny_bind (wpAny_attempt (wpAny_callSpecial?_slot (name := Str.ofString "__next__") hT FM.slot_map_next
    (wpAny_call_entry FM.slot_map_next hT FM.entry_map_next ?_ (FM.args_map_next_1 _))))
  show wpAny _ _ (field (.ref m) 0 >>= _) _ _ _
  refine wpAny_bind (wpAny_field hm rfl (x := .ref tp) rfl ?_)
  show wpAny _ _ (seqItems? (.ref tp) >>= _) _ _ _
  refine wpAny_bind (wpAny_seqItems ht rfl ?_)
  refine wpAny_bind ?_
  rw [← Array.forIn_toList]
  show wpAny _ _ (forIn [Value.ref it] _ _) _ _ _
  rw [List.forIn_cons]
  refine wpAny_bind (wpAny_bind (wpAny_holding (wpAny_nextOf_list_end hh hit hl hx fun h' x he hx' => ?_)))
  obtain ⟨o, ho, hc⟩ := hx'
  refine wpAny_bind (wpAny_isInstance (T := "StopIteration") (b := true) ⟨o, ho, hc⟩ isSubtype_stop ?_)
  exact wpAny_pure (hQ _ he)
/-- the items of an iterator put behind a list, one by one -/
theorem extend_inv {I S : Addr} {res : Value} {n : Nat} {R : Result → Shared → Prop} (Inv : Nat → List Value → Shared → Prop) (Fin : List Value → Shared → Prop) (hS : ∀ i acc s, Inv i acc s → acc.length ≤ 500)
    (item : ∀ i acc s, i < n → Inv i acc s → ∀ (Q : Option Value → Shared → Prop) (E : Value → Shared → Prop), (∀ v s', (∃ c, s'.heap.get? S = some (LO acc c)) → Inv (i + 1) (acc ++ [v]) { s' with heap := s'.heap.update S (Obj.mapSeq (·.push v)) } → Q (some v) s') → wpAny (model prog w) A.in1 (pyNext (.ref I)) Q E s)
    (done : ∀ acc s, Inv n acc s → ∀ (Q : Option Value → Shared → Prop) (E : Value → Shared → Prop), (∀ s', Fin acc s' → Q none s') → wpAny (model prog w) A.in1 (pyNext (.ref I)) Q E s)
    (hR : ∀ acc s', Fin acc s' → R (.ok (.ret res)) s') : ∀ (k i : Nat) (s : Shared) (acc : List Value), n - i = k → i ≤ n → Inv i acc s → codeAny (model prog w) A (.builtin "list.extend.loop" ⟨[.ref S, .ref I, res], []⟩) R s := by
  intro k
  induction k with
  | zero =>
    intro i s acc hk hi h
    obtain rfl : i = n := by lia
    refine codeAny_builtin F.entry_extend_loop ?_
    rw [Around.under_plainId F.plain_extend_loop _]
    show wpAny _ A.in1 (pyNext (.ref I) >>= _) _ _ s
    exact wpAny_bind (done acc s h _ _ fun s' hf => wpAny_pure (hR acc s' hf))
  | succ k ih =>
    intro i s acc hk hi h
    refine codeAny_builtin F.entry_extend_loop ?_
    rw [Around.under_plainId F.plain_extend_loop _]
    show wpAny _ A.in1 (pyNext (.ref I) >>= _) _ _ s
    refine wpAny_bind (item i acc s (by lia) h _ _ fun v s' ⟨c, eS⟩ h' => ?_)
    show wpAny _ A.in1 (updateSeq S (·.push v) >>= _) _ _ _
    have hl := hS _ _ _ h
    refine wpAny_bind (wpAny_updateSeq eS rfl (wpAny_pure ⟨plainId_quiet F.plain_extend_loop _, ih (i + 1) _ (acc ++ [v]) (by lia) (by lia) h'⟩) (by rw [sizeLine_eq]; simp; lia) (by rw [sizeLine_eq]; simp; lia))
end
end Mine
end

section
open PySem PySem.Calls PyProof.Rows PySem.W
open AutoSeq1 (wpAny_loadPart')
namespace Mine
/-- a map of a list on its way into another list -/
structure MapSt (G : GC) (h1 : Heap) (l it tp m S : Addr) (fv : Value) (xs : List Str) (s0 : Shared) (i : Nat) (acc : List Value) (s : Shared) : Prop where
  sh : ∃ h tk, s = { s0 with heap := h, toks := tk }
  kp : Kp h1 s.heap
  inn : In G s.heap
  hm : s.heap.get? m = some (mapObj tp fv)
  ht : s.heap.get? tp = some (TO [.ref it] 0)
  hit : s.heap.IsListIter it l i
  hS : ∃ c, s.heap.get? S = some (LO acc c)
  racc : StrsAre acc (xs.take i)
theorem strsAre_push {vs : List Value} {l : List Str} {x : Str} {t : Tok} (h : StrsAre vs l) : StrsAre (vs ++ [.str x t]) (l ++ [x]) := by
  have := (RpL.of_strsAre (X := []) (h := {}) h).append (.cons (.str x t) .nil)
  have e : l.map Dt.str ++ [.str x] = (l ++ [x]).map Dt.str := by rw [List.map_append]; rfl
  rw [e] at this
  exact this.strsAre
section
variable {G : GC} {A : Around} {E : Value → Shared → Prop} {s : Shared}
theorem map_step {X : List Addr} {h1 : Heap} {l it tp m S : Addr} {fv : Value} {xs : List Str} {ws : List Value} {s0 : Shared} {k : Nat} (hA : A.handled = none) (hd : A.depth + k < recursionLimit) (hu : A.units + 8 * k + 1 < cLine) (i1 : In G h1) (fr : FramesOK A G.B h1) (dm : Dom X h1)
    (L : LAt h1 l ws) (R : StrsAre ws xs) (hc : ∀ x ∈ xs, FnOK G k fv [.str x] (.str x)) (n1 : h1.get? it = none) (n2 : h1.get? S = none) (d1 : m ≠ it) (d2 : S ≠ it) (d3 : S ≠ m) (d4 : S ≠ tp) (d5 : tp ≠ it)
    {i : Nat} {acc : List Value} (st : MapSt G h1 l it tp m S fv xs s0 i acc s) (hi : i < xs.length) {Q : Option Value → Shared → Prop}
    (hq : ∀ v s', (∃ c, s'.heap.get? S = some (LO acc c)) → MapSt G h1 l it tp m S fv xs s0 (i + 1) (acc ++ [v]) { s' with heap := s'.heap.update S (Obj.mapSeq (·.push v)) } → Q (some v) s') : wpAny (model G.prog G.w) A (pyNext (.ref m)) Q E s := by
  have Lr : RpL [] h1 ws (xs.map .str) := .of_strsAre R
  obtain ⟨u, hu1, ru⟩ := Lr.get (k := i) (d := .str xs[i]) (by simp [hi])
  obtain ⟨t, rfl⟩ := ru.str'
  obtain ⟨⟨h, tk, rfl⟩, kp, inn, hm, ht, hit, ⟨c, hS⟩, racc⟩ := st
  have Ls := L.kp kp
  have nBase : ∀ b, h1.get? b = none → G.B.get? b = none := fun b hb => by
    cases q : G.B.get? b with
    | none => rfl
    | some o => have := i1.stays b o q; rw [hb] at this; cases this
  obtain ⟨io, ie, ic, idd⟩ := id hit
  refine map_next_item hm ht hit Ls.isList (by simpa using hu1) d1 fun h' E' hit' hs => ?_
  have hs : Heap.SameBut it h h' := hs
  have kp' : Kp h1 h' := fun b o e => (kp b o e).next fun p ep => .inl ((hs.2 b fun q => by rw [q, n1] at e; cases e).trans ep)
  have in' : In G h' := inn.but hs.2 (nBase it n1) fun o vs e d => by
    have ie : h.get? it = some io := ie
    rw [ie] at e; cases e
    rw [idd] at d; cases d
    exact ⟨(by rw [ic]; intro q; cases q), fun q t e => (by simp at e)⟩
  refine hc _ (List.getElem_mem hi) A.in1 hA hd (by show A.units + 1 + 8 * k < cLine; lia) X _ _ in' (fr.kp kp') (fun a ha => let ⟨o, e⟩ := dm a ha; kp'.live e) (.cons (.str _ _) .nil) _ _ fun v h2 tk2 g2 r2 => ?_
  obtain ⟨t2, rfl⟩ := r2.str'
  have S2 : h2.get? S = some (LO acc c) := g2.kp.same ((hs.2 S d2).trans hS) (plain_ty rfl)
  refine hq _ _ ⟨c, S2⟩ ?_
  have oth : ∀ b, b ≠ S → (h2.update S (Obj.mapSeq (·.push (.str xs[i] t2)))).get? b = h2.get? b := fun b hb => Heap.get?_update_other _ _ (Ne.symm hb)
  refine ⟨⟨_, _, rfl⟩, fun b o e => ((kp'.trans g2.kp) b o e).next fun p ep => .inl ((oth b fun q => by rw [q, n2] at e; cases e).trans ep), g2.stays.but oth (nBase S n2) fun o vs e d => ?_, ?_, ?_, ?_, ?_, ?_⟩
  · rw [S2] at e; cases e; cases d
  · exact (oth m (Ne.symm d3)).trans (g2.kp.same ((hs.2 m d1).trans hm) (plain_ty rfl))
  · exact (oth tp (Ne.symm d4)).trans (g2.kp.same ((hs.2 tp d5).trans ht) (plain_ty rfl))
  · obtain ⟨o, e, q1, q2⟩ := hit'
    exact ⟨o, (oth it (Ne.symm d2)).trans (g2.kp.same e (plain_ty q1)), q1, q2⟩
  · have := Heap.get?_update_self (Obj.mapSeq (·.push (Value.str xs[i] t2))) S2 rfl
    have e3 : (acc ++ [Value.str xs[i] t2]).toArray = acc.toArray.push (.str xs[i] t2) := by simp
    refine ⟨if (acc.toArray.push (Value.str xs[i] t2)).size == acc.toArray.size then c else c + 1, this.trans ?_⟩
    unfold LO
    rw [e3]; rfl
  · rw [List.take_add_one, List.getElem?_eq_getElem hi]
    exact strsAre_push racc
theorem map_end {h1 : Heap} {l it tp m S : Addr} {fv : Value} {xs : List Str} {ws : List Value} {s0 : Shared} (hA : A.handled = none) (i1 : In G h1)
    (L : LAt h1 l ws) (R : StrsAre ws xs) (n1 : h1.get? it = none) (d2 : S ≠ it)
    {acc : List Value} (st : MapSt G h1 l it tp m S fv xs s0 xs.length acc s) {Q : Option Value → Shared → Prop}
    (hq : ∀ h tk, Kp h1 h → In G h → (∃ c, h.get? S = some (LO acc c)) → StrsAre acc xs → Q none { s0 with heap := h, toks := tk }) : wpAny (model G.prog G.w) A (pyNext (.ref m)) Q E s := by
  have Lr : RpL [] h1 ws (xs.map .str) := .of_strsAre R
  have hlen : ws.length = xs.length := by rw [Lr.length, List.length_map]
  obtain ⟨⟨h, tk, rfl⟩, kp, inn, hm, ht, hit, ⟨c, hS⟩, racc⟩ := st
  have Ls := L.kp kp
  obtain ⟨io, ie, ic, idd⟩ := id hit
  refine map_next_end hA hm ht hit Ls.isList (by simp [hlen]) fun h' he => ?_
  have he : Heap.ExtBut it h h' := he
  rw [List.take_length] at racc
  have mv : Moves [it] h h' := ⟨fun b o hb e => he b o (fun q => hb (by simp [q])) e, fun b hb => by
    obtain rfl := List.mem_singleton.mp hb
    exact ⟨io, ie, "list_iterator", _, ic, by decide, idd, fun q t e => by simp at e⟩⟩
  refine hq h' tk (fun b o e => (kp b o e).next fun p ep => .inl (he b p (fun q => by rw [q, n1] at e; cases e) ep)) ⟨fun b o e => he b o (fun q => ?_) (inn.stays b o e), ?_⟩ ⟨c, he _ _ d2 hS⟩ racc
  · rw [q] at e
    have := i1.stays it o e; rw [n1] at this; cases this
  · obtain ⟨ps, a, b, cc⟩ := inn.tab
    refine ⟨ps, he _ _ (fun q => ?_) a, b, cc.imp id fun ⟨q, e, c2, o, vs, tq, e1, e2, e3, e4⟩ => ⟨q, e, c2, o, vs, tq, e1, he _ _ (fun q => ?_) e2, e3, e4⟩⟩
    · have ie : h.get? it = some io := ie
      rw [q, ie] at a; cases a
      cases ic
    · have ie : h.get? it = some io := ie
      rw [q, ie] at e2; cases e2
      rw [idd] at e3; cases e3
      simp at e4
end
end Mine
end

section
open PySem PySem.Calls PyProof.Rows PySem.W
open AutoSeq1 (wpAny_loadPart')
namespace Mine
section
variable {G : GC} {A : Around} {E : Value → Shared → Prop} {s : Shared}
theorem pyIter_map {prog : Program} {w : World} {m tp : Addr} {f : Value} {Q : Value → Shared → Prop} (hm : s.heap.get? m = some (mapObj tp f)) (h : Q (.ref m) s) : wpAny (model prog w) A (pyIter (.ref m)) Q E s := by
  have hT : s.TypeIs (.ref m) "map" := ⟨_, hm, rfl⟩
  refine wpAny_pyIter_slot hT FM.slot_map_iter (wpAny_call_entry FM.slot_map_iter hT FM.entry_map_iter ?_ (FM.args_map_iter_1 _))
  show wpAny _ _ (ret (.ref m)) _ _ s
  exact wpAny_pure ⟨_, rfl, "map", _, hT, FM.slot_map_next.lookup, h⟩
theorem collect_map {R' : Result → Shared → Prop} {X : List Addr} {h1 : Heap} {l it tp m : Addr} {fv : Value} {xs : List Str} {ws : List Value} {k : Nat} (hA : A.handled = none) (hd : A.depth + k < recursionLimit) (hu : A.units + 8 * k + 3 < cLine) (i1 : In G h1) (fr : FramesOK A G.B h1) (dm : Dom X h1)
    (L : LAt h1 l ws) (R : StrsAre ws xs) (hc : ∀ x ∈ xs, FnOK G k fv [.str x] (.str x)) (n1 : h1.get? it = none) (d1 : m ≠ it) (d5 : tp ≠ it) (hlen : xs.length ≤ 500)
    (kp : Kp h1 s.heap) (inn : In G s.heap) (hm : s.heap.get? m = some (mapObj tp fv)) (ht : s.heap.get? tp = some (TO [.ref it] 0)) (hit : s.heap.IsListIter it l 0)
    (hq : ∀ acc h tk c, Kp h1 h → In G h → StrsAre acc xs → h.get? s.heap.objs.size = some (LO acc c) → R' (.ok (.ret (.ref s.heap.objs.size))) { s with heap := h, toks := tk }) : codeAny (model G.prog G.w) A (.builtin "proto.collect" ⟨[.ref m], []⟩) R' s := by
  have sz : s.heap.get? s.heap.objs.size = none := Heap.get?_none_of_le (Nat.le_refl _)
  have n2 : h1.get? s.heap.objs.size = none := kp.none sz
  have d2 : s.heap.objs.size ≠ it := fun q => by obtain ⟨o, e, _⟩ := hit; rw [← q, sz] at e; cases e
  have d3 : s.heap.objs.size ≠ m := fun q => by rw [← q, sz] at hm; cases hm
  have d4 : s.heap.objs.size ≠ tp := fun q => by rw [← q, sz] at ht; cases ht
  refine codeAny_builtin F.entry_proto_collect ?_
  rw [Around.under_plainId F.plain_proto_collect _]
  show wpAny _ A.in1 (newList [] >>= fun l => again (.builtin "list.__iadd__" ⟨[l, .ref m], []⟩)) _ _ s
  refine wpAny_bind (wpAny_newObj_type ?_)
  refine wpAny_pure ⟨plainId_quiet F.plain_list_iadd _, codeAny_builtin F.entry_list_iadd ?_⟩
  rw [Around.under_plainId F.plain_list_iadd _]
  show wpAny _ A.in1 (Builtin.List.listExtendWith (.ref s.heap.objs.size) (.ref m) (.ref s.heap.objs.size)) _ _ _
  unfold Builtin.List.listExtendWith
  have hm1 : (s.heap.push { cls := .type "list", data := .seq ([] : List Value).toArray }).get? m = some (mapObj tp fv) := Heap.get?_push_of_some _ hm
  have hT : Shared.TypeIs { s with heap := s.heap.push { cls := .type "list", data := .seq ([] : List Value).toArray } } (.ref m) "map" := ⟨_, hm1, rfl⟩
  refine wpAny_bind (wpAny_typeOf hT ?_)
  have h1' : Builtin.List.listSameRef (.ref s.heap.objs.size) (.ref m) = false := by simp [Builtin.List.listSameRef, d3]
  have h2' : (Value.type "map" == Value.type "list") = false := by decide
  have h3' : (Value.type "map" == Value.type "tuple") = false := by decide
  simp only [h1', h2', h3', Bool.or_false, Bool.false_eq_true, if_false]
  refine wpAny_bind (pyIter_map (s := { s with heap := s.heap.push { cls := .type "list", data := .seq ([] : List Value).toArray } }) hm1 ?_)
  refine wpAny_bind (wpAny_holding ?_)
  unfold Builtin.List.listLengthHint
  refine wpAny_bind (wpAny_specialOf hT FM.nolen_map ?_)
  show wpAny _ A.in1 (specialOf (Value.ref m) (Str.ofString "__length_hint__") >>= _) _ _ _
  refine wpAny_bind (wpAny_specialOf hT FM.nohint_map ?_)
  refine wpAny_pure ?_
  show wpAny _ A.in1 (rule "list.extend.makes-room" >>= fun _ => Builtin.List.listTouch (.ref s.heap.objs.size) >>= fun _ =>
    again (.builtin "list.extend.loop" ⟨[.ref s.heap.objs.size, .ref m, .ref s.heap.objs.size], []⟩)) _ _ _
  refine wpAny_bind (wpAny_rule ?_)
  have hS₁ : (s.heap.push { cls := .type "list", data := .seq ([] : List Value).toArray }).get? s.heap.objs.size = some { cls := .type "list", data := .seq ([] : List Value).toArray } := Heap.get?_push_size _ rfl
  refine wpAny_bind ?_
  show wpAny _ A.in1 (updateSeq s.heap.objs.size (·.push .none) >>= fun _ => updateSeq s.heap.objs.size (·.pop)) _ _ _
  refine wpAny_bind (wpAny_updateSeq hS₁ rfl ?_)
  have hS₂ := Heap.get?_update_self (Obj.mapSeq (·.push Value.none)) hS₁ rfl
  refine wpAny_updateSeq hS₂ rfl ?_
  have hS₃ := Heap.get?_update_self (Obj.mapSeq (·.pop)) hS₂ rfl
  have oth : ∀ b o, s.heap.get? b = some o →
      (((s.heap.push { cls := .type "list", data := .seq ([] : List Value).toArray }).update s.heap.objs.size (Obj.mapSeq (·.push Value.none))).update s.heap.objs.size (Obj.mapSeq (·.pop))).get? b = some o := fun b o e => by
    have hb : s.heap.objs.size ≠ b := fun q => by rw [← q, sz] at e; cases e
    exact (Heap.get?_update_other _ _ hb).trans ((Heap.get?_update_other _ _ hb).trans (Heap.get?_push_of_some _ e))
  generalize (((s.heap.push { cls := .type "list", data := .seq ([] : List Value).toArray }).update s.heap.objs.size (Obj.mapSeq (·.push Value.none))).update s.heap.objs.size (Obj.mapSeq (·.pop))) = h3 at hS₃ oth ⊢
  obtain ⟨io, ie, ic, idd⟩ := hit
  refine wpAny_pure ⟨plainId_quiet F.plain_extend_loop _, ?_⟩
  refine extend_inv (A := A) (n := xs.length) (fun i acc s' => MapSt G h1 l it tp m s.heap.objs.size fv xs s i acc s')
    (fun acc s' => ∃ h tk, s' = { s with heap := h, toks := tk } ∧ Kp h1 h ∧ In G h ∧ (∃ c, h.get? s.heap.objs.size = some (LO acc c)) ∧ StrsAre acc xs) (fun i acc s' st => ?_)
    (fun i acc s' hi st Q' E' hq' => map_step (A := A.in1) hA hd (by show A.units + 1 + 8 * k + 1 < cLine; lia) i1 fr dm L R hc n1 n2 d1 d2 d3 d4 d5 st hi hq')
    (fun acc s' st Q' E' hq' => map_end (A := A.in1) hA i1 L R n1 d2 st fun h tk a b c d => hq' _ ⟨h, tk, rfl, a, b, c, d⟩) ?_ xs.length 0 _ [] (by lia) (Nat.zero_le _) ?_
  · have h1 := (RpL.of_strsAre (X := []) (h := {}) st.racc).length
    rw [List.length_map] at h1
    have := List.length_take_le' i xs
    lia
  · rintro acc s' ⟨h, tk, rfl, a, b, ⟨c, eS⟩, d⟩
    exact hq acc h tk c a b d eS
  · exact ⟨⟨h3, s.toks, rfl⟩, fun b o e => (kp b o e).next fun p ep => .inl (oth b p ep), inn.keep oth, oth _ _ hm, oth _ _ ht, ⟨io, oth _ _ ie, ic, idd⟩, ⟨_, hS₃⟩, .nil⟩
end
end Mine
end

section
open PySem PySem.Calls PyProof.Rows PySem.W
open AutoSeq1 (wpAny_loadPart')
namespace Mine
theorem meets_tuple_map {prog : Program} {w : World} (m tp : Addr) (f : Value) :
    MeetsIn prog w (Builtin.«tuple.__new__» ⟨[.type "tuple", .ref m], []⟩) (fun A R s => s.heap.get? m = some (mapObj tp f) ∧
      codeAny (model prog w) A.in1 (.builtin "proto.collect" ⟨[.ref m], []⟩) (fun r s' => ∃ S xs c, r = .ok (.ret (.ref S)) ∧ s'.heap.get? S = some (LO xs c) ∧ xs.length ≤ sizeLine ∧ R (.ok (.ret (.ref s'.heap.objs.size))) { s' with heap := s'.heap.push (TO xs 0) }) s) :=
  .of_wp fun A R s h => by
    obtain ⟨hp, g, d, tk, os⟩ := s; obtain ⟨hm, h⟩ := h
    have hsub := sub_tuple_self
    have hinit := init_tuple_lookup
    have hmh := madeHere_tuple
    have hT : Shared.TypeIs ⟨hp, g, d, tk, os⟩ (.ref m) "map" := ⟨_, hm, rfl⟩
    wp_walk using wpAny_typeOf hT
    refine codeAny_mono h fun r s' hr => ?_
    obtain ⟨S, xs, c, rfl, eS, hsz, hR⟩ := hr
    show wpAny _ _ (load S >>= _) _ _ _
    refine wpAny_bind (wpAny_load eS (wpAny_pure ?_))
    show wpAny _ _ (Builtin.Tuple.tupleExact xs.toArray.toList.toArray >>= fun v => ret v) _ _ _
    unfold Builtin.Tuple.tupleExact
    refine wpAny_bind (wpAny_newObj_type ?_ (by show xs.toArray.toList.toArray.size ≤ sizeLine; simpa using hsz))
    refine wpAny_pure ⟨_, rfl, ?_⟩
    exact hR
section
variable {F : FC} {ρ : List Sl} {n : Nat}
/-- a map of a def over a list of texts, made a tuple -/
theorem ev_tuple_map {j j2 j3 k : Nat} {tn mn fn : Str} {fv : Value} {tnp mnp fnp p1 p2 : Pos} {e : PySem.Expr} {xs : List Str} (hF : F.Ok n) (hg : F.gls[j]? = some (tn, .type "tuple")) (hg2 : F.gls[j2]? = some (mn, .type "map")) (hg3 : F.gls[j3]? = some (fn, fv)) (he : Ev F ρ e (strD xs)) (hc : ∀ x ∈ xs, FnOK F.G k fv [.str x] (.str x)) (hk : k + 1 ≤ n) (hlen : xs.length ≤ 500)
    (hs : (starEach [PySem.Expr.Call (.Name mn mnp) [.Name fn fnp, e] [] p1] F.env).any (·.1) = false := by rfl) (hb : backTo p2 (starEach [PySem.Expr.Call (.Name mn mnp) [.Name fn fnp, e] [] p1] F.env) = [(false, eval (.Call (.Name mn mnp) [.Name fn fnp, e] [] p1) F.env)] := by rfl)
    (hs' : (starEach [PySem.Expr.Name fn fnp, e] F.env).any (·.1) = false := by rfl) (hb' : backTo p1 (starEach [PySem.Expr.Name fn fnp, e] F.env) = [(false, eval (.Name fn fnp) F.env), (false, eval e F.env)] := by rfl) (hq0 : F.hd = false := by rfl) :
    Ev F ρ (.Call (.Name tn tnp) [.Call (.Name mn mnp) [.Name fn fnp, e] [] p1] [] p2) (.tup (xs.map .str)) := by
  intro s X Q E hq
  refine wpAny_Call_NameR (name_glob hF hg X.stays ?_)
  refine callWith_of (P := fun h => In F.G h) ?_ (fun h st => (hF.gls _ (List.mem_of_getElem? hg)).2.2.1 _ h st) (evalArgs_any hs ?_)
  · have : (backTo p2 (starEach [PySem.Expr.Call (.Name mn mnp) [.Name fn fnp, e] [] p1] F.env)).any (·.1) = (starEach [PySem.Expr.Call (.Name mn mnp) [.Name fn fnp, e] [] p1] F.env).any (·.1) := by unfold backTo; rw [List.any_map]; rfl
    rw [this, hs]; rfl
  rw [hb]
  refine Calls.spliced_cons (wpAny_Call_NameR (name_glob hF hg2 X.stays ?_))
  refine callWith_of (P := fun h => In F.G h) ?_ (fun h st => (hF.gls _ (List.mem_of_getElem? hg2)).2.2.1 _ h st) (evalArgs_any hs' ?_)
  · have : (backTo p1 (starEach [PySem.Expr.Name fn fnp, e] F.env)).any (·.1) = (starEach [PySem.Expr.Name fn fnp, e] F.env).any (·.1) := by unfold backTo; rw [List.any_map]; rfl
    rw [this, hs']; rfl
  rw [hb']
  refine Calls.spliced_cons (name_glob hF hg3 X.stays (Calls.spliced_cons (he s X _ _ fun v h1 tk1 g1 r1 => Calls.spliced_nil ⟨g1.stays, ?_⟩)))
  obtain ⟨l, ws, rfl, hlX, L, R⟩ := r1.list'
  refine call_map_list (s := { s with heap := h1, toks := tk1 }) L.isList ?_
  have z1 : (h1.push (iterObj l 0)).objs.size = h1.objs.size + 1 := Heap.size_push ..
  have z2 : ((h1.push (iterObj l 0)).push (TO [.ref h1.objs.size] 0)).objs.size = h1.objs.size + 2 := by rw [Heap.size_push, z1]
  have X1 := X.grow g1
  have G2 : Grow F.G h1 (((h1.push (iterObj l 0)).push (TO [.ref h1.objs.size] 0)).push (mapObj (h1.objs.size + 1) fv)) :=
    ((Grow.push g1.stays _).trans (.push (Grow.push g1.stays _).stays _)).trans (.push ((Grow.push g1.stays _).trans (.push (Grow.push g1.stays _).stays _)).stays _)
  have hm : (((h1.push (iterObj l 0)).push (TO [.ref h1.objs.size] 0)).push (mapObj (h1.objs.size + 1) fv)).get? (h1.objs.size + 2) = some (mapObj (h1.objs.size + 1) fv) := by
    have := Heap.get?_push_size ((h1.push (iterObj l 0)).push (TO [.ref h1.objs.size] 0)) (o := mapObj (h1.objs.size + 1) fv) rfl
    rwa [z2] at this
  have ht : (((h1.push (iterObj l 0)).push (TO [.ref h1.objs.size] 0)).push (mapObj (h1.objs.size + 1) fv)).get? (h1.objs.size + 1) = some (TO [.ref h1.objs.size] 0) := by
    have := Heap.get?_push_size (h1.push (iterObj l 0)) (o := TO [.ref h1.objs.size] 0) rfl
    rw [z1] at this
    exact Heap.get?_push_of_some _ this
  have hit : (((h1.push (iterObj l 0)).push (TO [.ref h1.objs.size] 0)).push (mapObj (h1.objs.size + 1) fv)).IsListIter h1.objs.size l 0 :=
    ⟨_, Heap.get?_push_of_some _ (Heap.get?_push_of_some _ (Heap.get?_push_size _ rfl)), rfl, rfl⟩
  refine Calls.spliced_nil ⟨G2.stays, ?_⟩
  refine callType_newIn PySem.F.called_tuple (by decide) (PySem.F.typeCall_tuple_1 _) (PySem.F.newCall_tuple_1 _) (fun obj => PySem.F.args_object_init_2 obj _) PySem.F.entry_tuple_new (meets_tuple_map (h1.objs.size + 2) (h1.objs.size + 1) fv) ⟨hm, ?_⟩
  have hdp := hF.depth
  have hun := hF.units
  refine collect_map (it := h1.objs.size) (tp := h1.objs.size + 1) (A := F.A.in1.in1) (s := { s with heap := _, toks := tk1 }) (X := F.X ρ) (k := k) (hF.hand hq0) (by show F.A.depth + k < recursionLimit; lia) (by show F.A.units + 1 + 1 + 8 * k + 3 < cLine; lia) g1.stays X1.frs X1.dom L R.strsAre hc (Heap.get?_none_of_le (Nat.le_refl _)) (show h1.objs.size + 2 ≠ h1.objs.size by lia) (show h1.objs.size + 1 ≠ h1.objs.size by lia) hlen G2.kp G2.stays hm ht hit fun acc h tk c kp inn sa eS => ?_
  have la := (RpL.of_strsAre (X := []) (h := {}) sa).length
  rw [List.length_map] at la
  refine ⟨_, acc, c, rfl, eS, by rw [sizeLine_eq]; lia, ⟨_, Heap.get?_push_size _ rfl, rfl⟩, ?_⟩
  have G3 : Grow F.G h1 h := ⟨kp, inn⟩
  have G4 : Grow F.G h (h.push (TO acc 0)) := .push inn _
  exact hq _ _ _ ((g1.trans G3).trans G4) (.tup ⟨0, Heap.get?_push_size _ rfl⟩ (.of_strsAre sa))
end
end Mine
end

section
open PySem PySem.Calls PyProof.Rows PySem.W
open AutoSeq1 (wpAny_loadPart')
open MeetsSeq MeetsSeq3
namespace Mine
/-- lists of texts, one less than another -/
noncomputable def ltL : List Str → List Str → Bool
  | [], [] => false
  | [], _ :: _ => true
  | _ :: _, [] => false
  | x :: xs, y :: ys => if x = y then ltL xs ys else decide (x.cps.toList < y.cps.toList)
theorem ltL_drop (xs ys : List Str) (i : Nat) (h1 : i < xs.length) (h2 : i < ys.length) : ltL (xs.drop i) (ys.drop i) = if xs[i] = ys[i] then ltL (xs.drop (i + 1)) (ys.drop (i + 1)) else decide (xs[i].cps.toList < ys[i].cps.toList) := by
  rw [List.drop_eq_getElem_cons h1, List.drop_eq_getElem_cons h2]; rfl
theorem ltL_end (xs ys : List Str) (i : Nat) (hi : i ≤ xs.length ∧ i ≤ ys.length) (h : ¬ (i < xs.length ∧ i < ys.length)) : ltL (xs.drop i) (ys.drop i) = decide (xs.length < ys.length) := by
  by_cases h1 : i < xs.length
  · have h2 : ys.length ≤ i := by lia
    rw [List.drop_eq_nil_of_le h2, List.drop_eq_getElem_cons h1]
    show false = _
    rw [decide_eq_false (by lia)]
  · rw [List.drop_eq_nil_of_le (Nat.not_lt.mp h1)]
    by_cases h2 : i < ys.length
    · rw [List.drop_eq_getElem_cons h2]
      show true = _
      rw [decide_eq_true (by lia)]
    · rw [List.drop_eq_nil_of_le (Nat.not_lt.mp h2)]
      show false = _
      rw [decide_eq_false (by lia)]
theorem lt_loop (l b : Addr) (vs ws : List Value) (n n2 : Nat) (xs ys : List Str) (hv : StrsAre vs xs) (hw : StrsAre ws ys) (k : Nat) :
    ∀ i : Nat, xs.length - i = k → i ≤ xs.length → i ≤ ys.length → Meets (Builtin.«list.__eq__.loop» ⟨[.ref l, .ref b, rawInt i, rawInt 0], []⟩)
      (fun _ R s => s.heap.get? l = some (LO vs n) ∧ s.heap.get? b = some (LO ws n2) ∧ R (.ok (.ret (.bool (ltL (xs.drop i) (ys.drop i))))) s) := by
  have lv : vs.length = xs.length := by have := (RpL.of_strsAre (X := []) (h := {}) hv).length; rwa [List.length_map] at this
  have lw : ws.length = ys.length := by have := (RpL.of_strsAre (X := []) (h := {}) hw).length; rwa [List.length_map] at this
  induction k with
  | zero =>
    intro i hk hix hiy prog w A R s h
    obtain ⟨hp, g, d, tk, os⟩ := s; obtain ⟨hl, hb, h⟩ := h
    wp_walk using wpAny_loadPart' hl, wpAny_loadPart' hb
    have hi1 : vs.toArray[((i : Nat) : Int).toNat]? = none := by simp; lia
    rw [ltL_end xs ys i ⟨hix, hiy⟩ (by lia)] at h
    rw [hi1]
    wp_walk using wpAny_loadPart' hl, wpAny_loadPart' hb
    show R (.ok (.ret (.bool (decide (vs.toArray.size < ws.toArray.size)))) ) _
    simpa [lv, lw] using h
  | succ k ih =>
    intro i hk hix hiy prog w A R s h
    obtain ⟨hp, g, d, tk, os⟩ := s; obtain ⟨hl, hb, h⟩ := h
    have h1 : i < xs.length := by lia
    wp_walk using wpAny_loadPart' hl, wpAny_loadPart' hb
    obtain ⟨u, hu, ru⟩ := (RpL.of_strsAre (X := []) (h := {}) hv).get (k := i) (d := .str xs[i]) (by simp [h1])
    obtain ⟨t, rfl⟩ := ru.str'
    have hi1 : vs.toArray[((i : Nat) : Int).toNat]? = some (.str xs[i] t) := by simpa using hu
    by_cases h2 : i < ys.length
    · obtain ⟨u2, hu2, ru2⟩ := (RpL.of_strsAre (X := []) (h := {}) hw).get (k := i) (d := .str ys[i]) (by simp [h2])
      obtain ⟨t2, rfl⟩ := ru2.str'
      have hi2 : ws.toArray[((i : Nat) : Int).toNat]? = some (.str ys[i] t2) := by simpa using hu2
      rw [hi1, hi2]
      have hc : ((i : Int) + 1) = ((i + 1 : Nat) : Int) := by push_cast; rfl
      refine wpAny_bind (wpAny_eqBool_str ?_)
      rw [ltL_drop xs ys i h1 h2] at h
      by_cases he : xs[i] = ys[i]
      · rw [if_pos he] at h
        rw [decide_eq_true he]
        wp_walk
        rw [hc]
        exact ⟨plainId_quiet plain_eq_loop _, codeAny_builtin entry_eq_loop (by
          rw [Around.under_plainId plain_eq_loop _]
          exact ih (i + 1) (by lia) h1 h2 prog w A R _ ⟨hl, hb, h⟩)⟩
      · rw [if_neg he] at h
        rw [decide_eq_false he]
        wp_walk using wpAny_loadPart' hl, wpAny_loadPart' hb
        rw [hi1, hi2]
        refine wpAny_bind (P.lt_str ?_)
        exact wpAny_pure h
    · have hi2 : ws.toArray[((i : Nat) : Int).toNat]? = none := by simp; lia
      rw [ltL_end xs ys i ⟨hix, hiy⟩ (by lia)] at h
      rw [hi1, hi2]
      wp_walk using wpAny_loadPart' hl, wpAny_loadPart' hb
      show R (.ok (.ret (.bool (decide (vs.toArray.size < ws.toArray.size)))) ) _
      simpa [lv, lw] using h
theorem lt_meets (l b : Addr) (vs ws : List Value) (n n2 : Nat) (xs ys : List Str) (hv : StrsAre vs xs) (hw : StrsAre ws ys) :
    Meets (Builtin.«list.__lt__» ⟨[.ref l, .ref b], []⟩) (fun _ R s => s.heap.get? l = some (LO vs n) ∧ s.heap.get? b = some (LO ws n2) ∧ R (.ok (.ret (.bool (ltL xs ys)))) s) := by
  intro prog w A R s h
  obtain ⟨hp, g, d, tk, os⟩ := s; obtain ⟨hl, hb, h⟩ := h
  have f3 := AutoSeq1.sub_list_list
  wp_walk using wpAny_loadPart' hl, wpAny_loadPart' hb
  exact ⟨plainId_quiet plain_eq_loop _, codeAny_builtin entry_eq_loop (by
    rw [Around.under_plainId plain_eq_loop _]
    exact lt_loop l b vs ws n n2 xs ys hv hw _ 0 rfl (Nat.zero_le _) (Nat.zero_le _) prog w A R _ ⟨hl, hb, h⟩)⟩
theorem lt_rich {prog : Program} {w : World} {A : Around} {E : Value → Shared → Prop} {s : Shared} {l b : Addr} {vs ws : List Value} {xs ys : List Str} (hl : LAt s.heap l vs) (hb : LAt s.heap b ws) (hv : StrsAre vs xs) (hw : StrsAre ws ys) (hu : A.units < cLine) {Q : Value → Shared → Prop} (hq : Q (.bool (ltL xs ys)) s) :
    wpAny (model prog w) A (richCompare .Lt (.ref l) (.ref b)) Q E s := by
  obtain ⟨n, el⟩ := hl
  obtain ⟨n2, eb⟩ := hb
  exact richCompare_meets_room ⟨_, el, rfl⟩ ⟨_, eb, rfl⟩ PySem.F.slot_list_lt PySem.F.entry_list_lt (PySem.F.args_list_lt_2 _ _) (lt_meets l b vs ws n n2 xs ys hv hw) ⟨el, eb, ⟨(by intro q; cases q), hq⟩⟩ hu
theorem gt_loop (l b : Addr) (vs ws : List Value) (n n2 : Nat) (xs ys : List Str) (hv : StrsAre vs xs) (hw : StrsAre ws ys) (k : Nat) :
    ∀ i : Nat, xs.length - i = k → i ≤ xs.length → i ≤ ys.length → Meets (Builtin.«list.__eq__.loop» ⟨[.ref l, .ref b, rawInt i, rawInt 4], []⟩)
      (fun _ R s => s.heap.get? l = some (LO vs n) ∧ s.heap.get? b = some (LO ws n2) ∧ R (.ok (.ret (.bool (ltL (ys.drop i) (xs.drop i))))) s) := by
  have lv : vs.length = xs.length := by have := (RpL.of_strsAre (X := []) (h := {}) hv).length; rwa [List.length_map] at this
  have lw : ws.length = ys.length := by have := (RpL.of_strsAre (X := []) (h := {}) hw).length; rwa [List.length_map] at this
  induction k with
  | zero =>
    intro i hk hix hiy prog w A R s h
    obtain ⟨hp, g, d, tk, os⟩ := s; obtain ⟨hl, hb, h⟩ := h
    wp_walk using wpAny_loadPart' hl, wpAny_loadPart' hb
    have hi1 : vs.toArray[((i : Nat) : Int).toNat]? = none := by simp; lia
    rw [ltL_end ys xs i ⟨hiy, hix⟩ (by lia)] at h
    rw [hi1]
    wp_walk using wpAny_loadPart' hl, wpAny_loadPart' hb
    show R (.ok (.ret (.bool (decide (ws.toArray.size < vs.toArray.size)))) ) _
    simpa [lv, lw] using h
  | succ k ih =>
    intro i hk hix hiy prog w A R s h
    obtain ⟨hp, g, d, tk, os⟩ := s; obtain ⟨hl, hb, h⟩ := h
    have h1 : i < xs.length := by lia
    wp_walk using wpAny_loadPart' hl, wpAny_loadPart' hb
    obtain ⟨u, hu, ru⟩ := (RpL.of_strsAre (X := []) (h := {}) hv).get (k := i) (d := .str xs[i]) (by simp [h1])
    obtain ⟨t, rfl⟩ := ru.str'
    have hi1 : vs.toArray[((i : Nat) : Int).toNat]? = some (.str xs[i] t) := by simpa using hu
    by_cases h2 : i < ys.length
    · obtain ⟨u2, hu2, ru2⟩ := (RpL.of_strsAre (X := []) (h := {}) hw).get (k := i) (d := .str ys[i]) (by simp [h2])
      obtain ⟨t2, rfl⟩ := ru2.str'
      have hi2 : ws.toArray[((i : Nat) : Int).toNat]? = some (.str ys[i] t2) := by simpa using hu2
      rw [hi1, hi2]
      have hc : ((i : Int) + 1) = ((i + 1 : Nat) : Int) := by push_cast; rfl
      refine wpAny_bind (wpAny_eqBool_str ?_)
      rw [ltL_drop ys xs i h2 h1] at h
      by_cases he : xs[i] = ys[i]
      · rw [if_pos he.symm] at h
        rw [decide_eq_true he]
        wp_walk
        rw [hc]
        exact ⟨plainId_quiet plain_eq_loop _, codeAny_builtin entry_eq_loop (by
          rw [Around.under_plainId plain_eq_loop _]
          exact ih (i + 1) (by lia) h1 h2 prog w A R _ ⟨hl, hb, h⟩)⟩
      · rw [if_neg (Ne.symm he)] at h
        rw [decide_eq_false he]
        wp_walk using wpAny_loadPart' hl, wpAny_loadPart' hb
        rw [hi1, hi2]
        refine wpAny_bind (P.gt_str ?_)
        exact wpAny_pure h
    · have hi2 : ws.toArray[((i : Nat) : Int).toNat]? = none := by simp; lia
      rw [ltL_end ys xs i ⟨hiy, hix⟩ (by lia)] at h
      rw [hi1, hi2]
      wp_walk using wpAny_loadPart' hl, wpAny_loadPart' hb
      show R (.ok (.ret (.bool (decide (ws.toArray.size < vs.toArray.size)))) ) _
      simpa [lv, lw] using h
theorem gt_meets (l b : Addr) (vs ws : List Value) (n n2 : Nat) (xs ys : List Str) (hv : StrsAre vs xs) (hw : StrsAre ws ys) :
    Meets (Builtin.«list.__gt__» ⟨[.ref l, .ref b], []⟩) (fun _ R s => s.heap.get? l = some (LO vs n) ∧ s.heap.get? b = some (LO ws n2) ∧ R (.ok (.ret (.bool (ltL ys xs)))) s) := by
  intro prog w A R s h
  obtain ⟨hp, g, d, tk, os⟩ := s; obtain ⟨hl, hb, h⟩ := h
  have f3 := AutoSeq1.sub_list_list
  wp_walk using wpAny_loadPart' hl, wpAny_loadPart' hb
  exact ⟨plainId_quiet plain_eq_loop _, codeAny_builtin entry_eq_loop (by
    rw [Around.under_plainId plain_eq_loop _]
    exact gt_loop l b vs ws n n2 xs ys hv hw _ 0 rfl (Nat.zero_le _) (Nat.zero_le _) prog w A R _ ⟨hl, hb, h⟩)⟩
theorem gt_rich {prog : Program} {w : World} {A : Around} {E : Value → Shared → Prop} {s : Shared} {l b : Addr} {vs ws : List Value} {xs ys : List Str} (hl : LAt s.heap l vs) (hb : LAt s.heap b ws) (hv : StrsAre vs xs) (hw : StrsAre ws ys) (hu : A.units < cLine) {Q : Value → Shared → Prop} (hq : Q (.bool (ltL ys xs)) s) :
    wpAny (model prog w) A (richCompare .Gt (.ref l) (.ref b)) Q E s := by
  obtain ⟨n, el⟩ := hl
  obtain ⟨n2, eb⟩ := hb
  exact richCompare_meets_room ⟨_, el, rfl⟩ ⟨_, eb, rfl⟩ PySem.F.slot_list_gt PySem.F.entry_list_gt (PySem.F.args_list_gt_2 _ _) (gt_meets l b vs ws n n2 xs ys hv hw) ⟨el, eb, ⟨(by intro q; cases q), hq⟩⟩ hu
end Mine
end

section
open PySem PySem.Calls PyProof.Rows PySem.W
namespace Mine
section
variable {prog : Program} {w : World} {A : Around} {E : Value → Shared → Prop} {s : Shared}
theorem call_min_lists {L a b : Addr} {va vb : List Value} {xs ys : List Str} (hh : A.handled = none) (hu : A.units + 3 < cLine) (hL : LAt s.heap L [.ref a, .ref b]) (ha : LAt s.heap a va) (hb : LAt s.heap b vb) (sa : StrsAre va xs) (sb : StrsAre vb ys) {Q : Value → Shared → Prop}
    (hq : ∀ h' tk, (∀ c o, s.heap.get? c = some o → h'.get? c = some o) → Q (if ltL ys xs then .ref b else .ref a) { s with heap := h', toks := tk }) : wpAny (model prog w) A (call (.builtin "min") [.ref L]) Q E s := by
  obtain ⟨hp, g, dr, tk, os⟩ := s
  have hL : LAt hp L [.ref a, .ref b] := hL
  have ha : LAt hp a va := ha
  have hb : LAt hp b vb := hb
  have hname : (toString "min" ++ toString ".loop" : String) = "min.loop" := by decide
  refine call_function_tree PySem.F.kind_min PySem.F.plain_min PySem.F.entry_min (PySem.F.args_min1 _) ?_
  show wpAny _ A.in1 (Builtin.Builtins.bindParams "min" ["key", "default"] 0 ⟨[], []⟩ >>= _) _ _ _
  refine wpAny_bind (wpAny_of_eq (show Builtin.Builtins.bindParams "min" ["key", "default"] 0 ⟨[], []⟩ = pure [none, none] from rfl) ?_)
  refine wpAny_bind (wpAny_pure ?_)
  refine wpAny_bind (wpAny_pyIter_list hL.isList ?_)
  refine wpAny_bind (wpAny_newObj_type ?_)
  have z1 : (hp.push { cls := .type "list_iterator", data := .fields #[.ref L, .int 0 0] }).objs.size = hp.objs.size + 1 := Heap.size_push ..
  have K1 : ∀ c o, hp.get? c = some o → ((hp.push { cls := .type "list_iterator", data := .fields #[.ref L, .int 0 0] }).push { cls := .type "list", data := .seq ([] : List Value).toArray }).get? c = some o := fun c o e => Heap.get?_push_of_some _ (Heap.get?_push_of_some _ e)
  have hit1 : ((hp.push { cls := .type "list_iterator", data := .fields #[.ref L, .int 0 0] }).push { cls := .type "list", data := .seq ([] : List Value).toArray }).IsListIter hp.objs.size L 0 := ⟨_, Heap.get?_push_of_some _ (Heap.get?_push_size _ rfl), rfl, rfl⟩
  have hS1 : ((hp.push { cls := .type "list_iterator", data := .fields #[.ref L, .int 0 0] }).push { cls := .type "list", data := .seq ([] : List Value).toArray }).get? (hp.objs.size + 1) = some (LO [] 0) := by
    have := Heap.get?_push_size (hp.push { cls := .type "list_iterator", data := .fields #[.ref L, .int 0 0] }) (o := ({ cls := .type "list", data := .seq ([] : List Value).toArray } : Obj)) rfl
    rwa [z1] at this
  show wpAny _ A.in1 (again _) _ _ _
  dsimp only
  rw [hname, z1]
  generalize ((hp.push { cls := .type "list_iterator", data := .fields #[.ref L, .int 0 0] }).push { cls := .type "list", data := .seq ([] : List Value).toArray }) = h1 at K1 hit1 hS1 ⊢
  clear z1
  have nIt : ∀ c o, hp.get? c = some o → c ≠ hp.objs.size := fun c o e => Nat.ne_of_lt (Heap.lt_size e)
  have nS : ∀ c o, hp.get? c = some o → c ≠ hp.objs.size + 1 := fun c o e => Nat.ne_of_lt (Nat.lt_succ_of_lt (Heap.lt_size e))
  have nSI : hp.objs.size + 1 ≠ hp.objs.size := Nat.succ_ne_self _
  generalize hp.objs.size = I at *
  -- the first one
  refine wpAny_pure ⟨plainId_quiet PySem.F.plain_min_loop _, codeAny_builtin PySem.F.entry_min_loop ?_⟩
  rw [Around.under_plainId PySem.F.plain_min_loop _]
  show wpAny _ A.in1 (seqItems? (.ref (I + 1)) >>= _) _ _ _
  refine wpAny_bind (wpAny_seqItems hS1 rfl ?_)
  show wpAny _ A.in1 (tryCatch (pyNext (.ref I)) _ >>= _) _ _ _
  have L1 : LAt h1 L [.ref a, .ref b] := let ⟨n, e⟩ := hL; ⟨n, K1 _ _ e⟩
  refine wpAny_bind (wpAny_tryCatch (wpAny_pyNext_list_item hit1 L1.isList (i := 0) (x := .ref a) (by simp) fun h2 hit2 s2 => ?_))
  have s2 : Heap.SameBut I h1 h2 := s2
  have K2 : ∀ c o, hp.get? c = some o → h2.get? c = some o := fun c o e => (s2.2 c (nIt c o e)).trans (K1 c o e)
  have hS2 : h2.get? (I + 1) = some (LO [] 0) := (s2.2 _ nSI).trans hS1
  show wpAny _ A.in1 (updateSeq (I + 1) (fun _ => #[.ref a, .ref a]) >>= _) _ _ _
  refine wpAny_bind (wpAny_updateSeq hS2 rfl ?_)
  have K3 : ∀ c o, hp.get? c = some o → (h2.update (I + 1) (Obj.mapSeq fun _ => #[.ref a, .ref a])).get? c = some o := fun c o e => (Heap.get?_update_other _ _ (Ne.symm (nS c o e))).trans (K2 c o e)
  have hit3 : (h2.update (I + 1) (Obj.mapSeq fun _ => #[Value.ref a, .ref a])).IsListIter I L 1 := let ⟨o, e, q⟩ := hit2; ⟨o, (Heap.get?_update_other _ _ nSI).trans e, q⟩
  have hS3 : (h2.update (I + 1) (Obj.mapSeq fun _ => #[Value.ref a, .ref a])).get? (I + 1) = some (LO [.ref a, .ref a] 1) := Heap.get?_update_self _ hS2 rfl
  dsimp only
  generalize h2.update (I + 1) (Obj.mapSeq fun _ => #[Value.ref a, .ref a]) = h3 at K3 hit3 hS3 ⊢
  clear hS2 K2 s2 hit2 L1 hS1 hit1 K1
  -- the second one
  rw [hname]
  refine wpAny_pure ⟨plainId_quiet PySem.F.plain_min_loop _, codeAny_builtin PySem.F.entry_min_loop ?_⟩
  rw [Around.under_plainId PySem.F.plain_min_loop _]
  show wpAny _ A.in1 (seqItems? (.ref (I + 1)) >>= _) _ _ _
  refine wpAny_bind (wpAny_seqItems hS3 rfl ?_)
  show wpAny _ A.in1 (tryCatch (pyNext (.ref I)) _ >>= _) _ _ _
  have L3 : LAt h3 L [.ref a, .ref b] := let ⟨n, e⟩ := hL; ⟨n, K3 _ _ e⟩
  refine wpAny_bind (wpAny_tryCatch (wpAny_pyNext_list_item hit3 L3.isList (i := 1) (x := .ref b) (by simp) fun h4 hit4 s4 => ?_))
  have s4 : Heap.SameBut I h3 h4 := s4
  have K4 : ∀ c o, hp.get? c = some o → h4.get? c = some o := fun c o e => (s4.2 c (nIt c o e)).trans (K3 c o e)
  have hS4 : h4.get? (I + 1) = some (LO [.ref a, .ref a] 1) := (s4.2 _ nSI).trans hS3
  have a4 : LAt h4 a va := let ⟨n, e⟩ := ha; ⟨n, K4 _ _ e⟩
  have b4 : LAt h4 b vb := let ⟨n, e⟩ := hb; ⟨n, K4 _ _ e⟩
  have L4 : LAt h4 L [.ref a, .ref b] := let ⟨n, e⟩ := hL; ⟨n, K4 _ _ e⟩
  show wpAny _ A.in1 (tryCatch (holding [.ref b, .ref b] (richCompare .Lt (.ref b) (.ref a) >>= _)) _ >>= _) _ _ _
  refine wpAny_bind (wpAny_tryCatch (wpAny_holding (wpAny_bind (lt_rich (s := ⟨h4, _, _, _, _⟩) b4 a4 sb sa (by show A.units + 1 < cLine; lia) ?_))))
  refine wpAny_bind (wpAny_holding (wpAny_truthy_bool ?_))
  refine wpAny_bind (wpAny_letGo (wpAny_pure ?_))
  -- the end
  have fin : ∀ (v : Value) (h5 : Heap) (n : Nat), (∀ c o, hp.get? c = some o → h5.get? c = some o) → h5.IsListIter I L 2 → h5.get? (I + 1) = some (LO [v, v] n) → v = (if ltL ys xs then .ref b else .ref a) →
      codeAny (model prog w) A (.builtin "min.loop" ⟨[.ref I, .none, .ref (I + 1)], []⟩) (fun r s' => match r with | .ok (.ret v) => Q v s' | .ok _ => False | .error e => E e s') ⟨h5, g, dr, tk, os⟩ := fun v h5 n K5 hit5 hS5 ev => by
    refine codeAny_builtin PySem.F.entry_min_loop ?_
    rw [Around.under_plainId PySem.F.plain_min_loop _]
    show wpAny _ A.in1 (seqItems? (.ref (I + 1)) >>= _) _ _ _
    refine wpAny_bind (wpAny_seqItems hS5 rfl ?_)
    show wpAny _ A.in1 (tryCatch (pyNext (.ref I)) _ >>= _) _ _ _
    have L5 : LAt h5 L [.ref a, .ref b] := let ⟨n, e⟩ := hL; ⟨n, K5 _ _ e⟩
    refine wpAny_bind (wpAny_tryCatch (wpAny_pyNext_list_end (s := ⟨h5, g, dr, tk, os⟩) hh hit5 L5.isList (by simp) fun h6 e6 => ?_))
    have e6 : Heap.ExtBut I h5 h6 := e6
    have hS6 := e6 _ _ nSI hS5
    show wpAny _ A.in1 (updateSeq (I + 1) (fun _ => #[]) >>= _) _ _ _
    refine wpAny_bind (wpAny_updateSeq hS6 rfl (wpAny_bind (wpAny_letGo (wpAny_pure ?_))))
    subst ev
    exact hq _ _ fun c o e => (Heap.get?_update_other _ _ (Ne.symm (nS c o e))).trans (e6 c o (nIt c o e) (K5 c o e))
  cases hc : ltL ys xs with
  | true =>
    simp only [if_true]
    refine wpAny_bind (wpAny_updateSeq (f := fun _ => #[Value.ref b, .ref b]) hS4 rfl (wpAny_bind (wpAny_letGo ?_)))
    rw [hname]
    refine wpAny_pure ⟨plainId_quiet PySem.F.plain_min_loop _, ?_⟩
    refine fin (.ref b) _ 1 (fun c o e => (Heap.get?_update_other _ _ (Ne.symm (nS c o e))).trans (K4 c o e)) (let ⟨o, e, q⟩ := hit4; ⟨o, (Heap.get?_update_other _ _ nSI).trans e, q⟩) (Heap.get?_update_self _ hS4 rfl) ?_
    rw [hc]; rfl
  | false =>
    simp only [Bool.false_eq_true, if_false]
    refine wpAny_bind (wpAny_letGo ?_)
    rw [hname]
    refine wpAny_pure ⟨plainId_quiet PySem.F.plain_min_loop _, ?_⟩
    refine fin (.ref a) _ 1 K4 hit4 hS4 ?_
    rw [hc]; rfl
theorem call_max_lists {L a b : Addr} {va vb : List Value} {xs ys : List Str} (hh : A.handled = none) (hu : A.units + 3 < cLine) (hL : LAt s.heap L [.ref a, .ref b]) (ha : LAt s.heap a va) (hb : LAt s.heap b vb) (sa : StrsAre va xs) (sb : StrsAre vb ys) {Q : Value → Shared → Prop}
    (hq : ∀ h' tk, (∀ c o, s.heap.get? c = some o → h'.get? c = some o) → Q (if ltL xs ys then .ref b else .ref a) { s with heap := h', toks := tk }) : wpAny (model prog w) A (call (.builtin "max") [.ref L]) Q E s := by
  obtain ⟨hp, g, dr, tk, os⟩ := s
  have hL : LAt hp L [.ref a, .ref b] := hL
  have ha : LAt hp a va := ha
  have hb : LAt hp b vb := hb
  have hname : (toString "max" ++ toString ".loop" : String) = "max.loop" := by decide
  refine call_function_tree PySem.F.kind_max PySem.F.plain_max PySem.F.entry_max (PySem.F.args_max1 _) ?_
  show wpAny _ A.in1 (Builtin.Builtins.bindParams "max" ["key", "default"] 0 ⟨[], []⟩ >>= _) _ _ _
  refine wpAny_bind (wpAny_of_eq (show Builtin.Builtins.bindParams "max" ["key", "default"] 0 ⟨[], []⟩ = pure [none, none] from rfl) ?_)
  refine wpAny_bind (wpAny_pure ?_)
  refine wpAny_bind (wpAny_pyIter_list hL.isList ?_)
  refine wpAny_bind (wpAny_newObj_type ?_)
  have z1 : (hp.push { cls := .type "list_iterator", data := .fields #[.ref L, .int 0 0] }).objs.size = hp.objs.size + 1 := Heap.size_push ..
  have K1 : ∀ c o, hp.get? c = some o → ((hp.push { cls := .type "list_iterator", data := .fields #[.ref L, .int 0 0] }).push { cls := .type "list", data := .seq ([] : List Value).toArray }).get? c = some o := fun c o e => Heap.get?_push_of_some _ (Heap.get?_push_of_some _ e)
  have hit1 : ((hp.push { cls := .type "list_iterator", data := .fields #[.ref L, .int 0 0] }).push { cls := .type "list", data := .seq ([] : List Value).toArray }).IsListIter hp.objs.size L 0 := ⟨_, Heap.get?_push_of_some _ (Heap.get?_push_size _ rfl), rfl, rfl⟩
  have hS1 : ((hp.push { cls := .type "list_iterator", data := .fields #[.ref L, .int 0 0] }).push { cls := .type "list", data := .seq ([] : List Value).toArray }).get? (hp.objs.size + 1) = some (LO [] 0) := by
    have := Heap.get?_push_size (hp.push { cls := .type "list_iterator", data := .fields #[.ref L, .int 0 0] }) (o := ({ cls := .type "list", data := .seq ([] : List Value).toArray } : Obj)) rfl
    rwa [z1] at this
  show wpAny _ A.in1 (again _) _ _ _
  dsimp only
  rw [hname, z1]
  generalize ((hp.push { cls := .type "list_iterator", data := .fields #[.ref L, .int 0 0] }).push { cls := .type "list", data := .seq ([] : List Value).toArray }) = h1 at K1 hit1 hS1 ⊢
  clear z1
  have nIt : ∀ c o, hp.get? c = some o → c ≠ hp.objs.size := fun c o e => Nat.ne_of_lt (Heap.lt_size e)
  have nS : ∀ c o, hp.get? c = some o → c ≠ hp.objs.size + 1 := fun c o e => Nat.ne_of_lt (Nat.lt_succ_of_lt (Heap.lt_size e))
  have nSI : hp.objs.size + 1 ≠ hp.objs.size := Nat.succ_ne_self _
  generalize hp.objs.size = I at *
  -- the first one
  refine wpAny_pure ⟨plainId_quiet PySem.F.plain_max_loop _, codeAny_builtin PySem.F.entry_max_loop ?_⟩
  rw [Around.under_plainId PySem.F.plain_max_loop _]
  show wpAny _ A.in1 (seqItems? (.ref (I + 1)) >>= _) _ _ _
  refine wpAny_bind (wpAny_seqItems hS1 rfl ?_)
  show wpAny _ A.in1 (tryCatch (pyNext (.ref I)) _ >>= _) _ _ _
  have L1 : LAt h1 L [.ref a, .ref b] := let ⟨n, e⟩ := hL; ⟨n, K1 _ _ e⟩
  refine wpAny_bind (wpAny_tryCatch (wpAny_pyNext_list_item hit1 L1.isList (i := 0) (x := .ref a) (by simp) fun h2 hit2 s2 => ?_))
  have s2 : Heap.SameBut I h1 h2 := s2
  have K2 : ∀ c o, hp.get? c = some o → h2.get? c = some o := fun c o e => (s2.2 c (nIt c o e)).trans (K1 c o e)
  have hS2 : h2.get? (I + 1) = some (LO [] 0) := (s2.2 _ nSI).trans hS1
  show wpAny _ A.in1 (updateSeq (I + 1) (fun _ => #[.ref a, .ref a]) >>= _) _ _ _
  refine wpAny_bind (wpAny_updateSeq hS2 rfl ?_)
  have K3 : ∀ c o, hp.get? c = some o → (h2.update (I + 1) (Obj.mapSeq fun _ => #[.ref a, .ref a])).get? c = some o := fun c o e => (Heap.get?_update_other _ _ (Ne.symm (nS c o e))).trans (K2 c o e)
  have hit3 : (h2.update (I + 1) (Obj.mapSeq fun _ => #[Value.ref a, .ref a])).IsListIter I L 1 := let ⟨o, e, q⟩ := hit2; ⟨o, (Heap.get?_update_other _ _ nSI).trans e, q⟩
  have hS3 : (h2.update (I + 1) (Obj.mapSeq fun _ => #[Value.ref a, .ref a])).get? (I + 1) = some (LO [.ref a, .ref a] 1) := Heap.get?_update_self _ hS2 rfl
  dsimp only
  generalize h2.update (I + 1) (Obj.mapSeq fun _ => #[Value.ref a, .ref a]) = h3 at K3 hit3 hS3 ⊢
  clear hS2 K2 s2 hit2 L1 hS1 hit1 K1
  -- the second one
  rw [hname]
  refine wpAny_pure ⟨plainId_quiet PySem.F.plain_max_loop _, codeAny_builtin PySem.F.entry_max_loop ?_⟩
  rw [Around.under_plainId PySem.F.plain_max_loop _]
  show wpAny _ A.in1 (seqItems? (.ref (I + 1)) >>= _) _ _ _
  refine wpAny_bind (wpAny_seqItems hS3 rfl ?_)
  show wpAny _ A.in1 (tryCatch (pyNext (.ref I)) _ >>= _) _ _ _
  have L3 : LAt h3 L [.ref a, .ref b] := let ⟨n, e⟩ := hL; ⟨n, K3 _ _ e⟩
  refine wpAny_bind (wpAny_tryCatch (wpAny_pyNext_list_item hit3 L3.isList (i := 1) (x := .ref b) (by simp) fun h4 hit4 s4 => ?_))
  have s4 : Heap.SameBut I h3 h4 := s4
  have K4 : ∀ c o, hp.get? c = some o → h4.get? c = some o := fun c o e => (s4.2 c (nIt c o e)).trans (K3 c o e)
  have hS4 : h4.get? (I + 1) = some (LO [.ref a, .ref a] 1) := (s4.2 _ nSI).trans hS3
  have a4 : LAt h4 a va := let ⟨n, e⟩ := ha; ⟨n, K4 _ _ e⟩
  have b4 : LAt h4 b vb := let ⟨n, e⟩ := hb; ⟨n, K4 _ _ e⟩
  have L4 : LAt h4 L [.ref a, .ref b] := let ⟨n, e⟩ := hL; ⟨n, K4 _ _ e⟩
  show wpAny _ A.in1 (tryCatch (holding [.ref b, .ref b] (richCompare .Gt (.ref b) (.ref a) >>= _)) _ >>= _) _ _ _
  refine wpAny_bind (wpAny_tryCatch (wpAny_holding (wpAny_bind (gt_rich (s := ⟨h4, _, _, _, _⟩) b4 a4 sb sa (by show A.units + 1 < cLine; lia) ?_))))
  refine wpAny_bind (wpAny_holding (wpAny_truthy_bool ?_))
  refine wpAny_bind (wpAny_letGo (wpAny_pure ?_))
  -- the end
  have fin : ∀ (v : Value) (h5 : Heap) (n : Nat), (∀ c o, hp.get? c = some o → h5.get? c = some o) → h5.IsListIter I L 2 → h5.get? (I + 1) = some (LO [v, v] n) → v = (if ltL xs ys then .ref b else .ref a) →
      codeAny (model prog w) A (.builtin "max.loop" ⟨[.ref I, .none, .ref (I + 1)], []⟩) (fun r s' => match r with | .ok (.ret v) => Q v s' | .ok _ => False | .error e => E e s') ⟨h5, g, dr, tk, os⟩ := fun v h5 n K5 hit5 hS5 ev => by
    refine codeAny_builtin PySem.F.entry_max_loop ?_
    rw [Around.under_plainId PySem.F.plain_max_loop _]
    show wpAny _ A.in1 (seqItems? (.ref (I + 1)) >>= _) _ _ _
    refine wpAny_bind (wpAny_seqItems hS5 rfl ?_)
    show wpAny _ A.in1 (tryCatch (pyNext (.ref I)) _ >>= _) _ _ _
    have L5 : LAt h5 L [.ref a, .ref b] := let ⟨n, e⟩ := hL; ⟨n, K5 _ _ e⟩
    refine wpAny_bind (wpAny_tryCatch (wpAny_pyNext_list_end (s := ⟨h5, g, dr, tk, os⟩) hh hit5 L5.isList (by simp) fun h6 e6 => ?_))
    have e6 : Heap.ExtBut I h5 h6 := e6
    have hS6 := e6 _ _ nSI hS5
    show wpAny _ A.in1 (updateSeq (I + 1) (fun _ => #[]) >>= _) _ _ _
    refine wpAny_bind (wpAny_updateSeq hS6 rfl (wpAny_bind (wpAny_letGo (wpAny_pure ?_))))
    subst ev
    exact hq _ _ fun c o e => (Heap.get?_update_other _ _ (Ne.symm (nS c o e))).trans (e6 c o (nIt c o e) (K5 c o e))
  cases hc : ltL xs ys with
  | true =>
    simp only [if_true]
    refine wpAny_bind (wpAny_updateSeq (f := fun _ => #[Value.ref b, .ref b]) hS4 rfl (wpAny_bind (wpAny_letGo ?_)))
    rw [hname]
    refine wpAny_pure ⟨plainId_quiet PySem.F.plain_max_loop _, ?_⟩
    refine fin (.ref b) _ 1 (fun c o e => (Heap.get?_update_other _ _ (Ne.symm (nS c o e))).trans (K4 c o e)) (let ⟨o, e, q⟩ := hit4; ⟨o, (Heap.get?_update_other _ _ nSI).trans e, q⟩) (Heap.get?_update_self _ hS4 rfl) ?_
    rw [hc]; rfl
  | false =>
    simp only [Bool.false_eq_true, if_false]
    refine wpAny_bind (wpAny_letGo ?_)
    rw [hname]
    refine wpAny_pure ⟨plainId_quiet PySem.F.plain_max_loop _, ?_⟩
    refine fin (.ref a) _ 1 K4 hit4 hS4 ?_
    rw [hc]; rfl
end
end Mine
end

section
open PySem PySem.Calls PyProof.Rows PySem.W
open AutoSeq1 (wpAny_loadPart')
namespace Mine
/-! the set of one truth value -/
noncomputable abbrev set0 (led : Bool) : Obj := { cls := .type "set", data := .set #[] 0 (.fresh 0 0 led) }
noncomputable abbrev tab1 (led : Bool) : SetTable := { mask := 7, place := #[1], dummies := #[], finger := 0, led := led, moves := 0, plain := true }
noncomputable abbrev set1 (led : Bool) : Obj := { cls := .type "set", data := .set #[(1, .bool true)] 1 (tab1 led) }
theorem lay1 (led : Bool) : layNew (SetTable.fresh 0 0 led) #[] 1 (.bool true) = (#[(1, .bool true)], { mask := 7, place := #[1], dummies := #[], finger := 0, led := led, moves := 0, plain := true }, false, false) := by
  cases led <;> decide +kernel
section
variable {prog : Program} {w : World} {A : Around} {E : Value → Shared → Prop} {s : Shared}
theorem pyHash_true {Q : Int → Shared → Prop} (h : Q 1 { s with toks := s.toks + 1 }) : wpAny (model prog w) A (pyHash (.bool true)) Q E s := by
  have hT : s.TypeIs (.bool true) "bool" := rfl
  have hv : [Value.bool true].any Value.onHeap = false := rfl
  unfold pyHash
  refine wpAny_bind ?_
  rw [cRoomFor, if_neg (by rw [hv]; exact Bool.false_ne_true)]; refine wpAny_pure ?_
  refine wpAny_bind (wpAny_specialOf hT PySem.F.slot_bool_hash.lookup ?_)
  show wpAny _ _ (if (some (Value.builtin "int.__hash__") == some Value.none) = true then _ else _) Q E s
  rw [if_neg (by rw [beq_builtin_none]; exact Bool.false_ne_true)]
  refine wpAny_bind (wpAny_specialOf hT PySem.F.slot_bool_hash.lookup ?_)
  show wpAny _ _ (callSpecialIfBoundUnlessNone? (.bool true) "__hash__" _ >>= _) Q E s
  refine wpAny_bind (wpAny_callSpecialIfBoundUnlessNone?_slot hT PySem.F.slot_bool_hash
    (wpAny_call_entry PySem.F.slot_bool_hash hT PySem.entry_int_hash
      (show wpAny _ _ (do ret (← mkInt 1)) _ _ s from wpAny_ret_mkInt ?_) (by unfold argsOk; kernel_rfl)))
  exact wpAny_pure h
theorem set_add_first {a : Addr} {led : Bool} {Q : Value → Shared → Prop} (ho : s.heap.get? a = some (set0 led))
    (h : ∀ h', Heap.SameBut a s.heap h' → h'.get? a = some (set1 led) → Q .none { s with heap := h', toks := s.toks + 1 }) :
    wpAny (model prog w) A (call (.builtin "set.add") [.ref a, .bool true]) Q E s := by
  have hT : s.TypeIs (.ref a) "set" := ⟨_, ho, rfl⟩
  refine wpAny_call_entry PySem.F.slot_set_add hT PySem.F.entry_set_add ?_ (PySem.F.args_set_add_2 _ _)
  unfold Builtin.«set.add» Builtin.Frozenset.oneOther
  simp only [List.isEmpty_nil, bind_assoc]
  unfold Builtin.Frozenset.addrOf setAdd
  refine wpAny_bind (wpAny_pure ?_)
  try dsimp only
  refine wpAny_bind (wpAny_pure ?_)
  try dsimp only
  refine wpAny_bind ?_
  refine wpAny_holding ?_
  refine wpAny_bind (pyHash_true ?_)
  unfold setAddHashed setAddHashedIn
  refine wpAny_holding (wpAny_bind (wpAny_setState_of (s := { s with toks := s.toks + 1 }) ho rfl (by cases led <;> decide) ?_))
  dsimp only
  rw [show byScan (.bool true) #[] = true from by kernel_rfl]
  simp only [↓reduceIte]
  unfold setAddByScan
  refine wpAny_bind (wpAny_bind (wpAny_rule ?_))
  refine wpAny_bind (m := setScan _ _ _ _ _) (wpAny_pure ?_)
  dsimp only
  rw [lay1]
  dsimp only
  refine wpAny_bind (wpAny_pure ?_)
  rw [if_pos rfl]
  refine wpAny_bind (wpAny_pure ?_)
  rw [if_pos rfl]
  refine wpAny_bind (wpAny_storeSet_of (s := { s with toks := s.toks + 1 }) ho rfl ?_ (by rw [sizeLine_eq]; decide))
  have e1 := Heap.get?_update_self (Obj.putSet #[((1 : Int), Value.bool true)] (tab1 led)) ho rfl
  rw [if_neg (by cases led <;> decide)]
  refine wpAny_pure (wpAny_pure ?_)
  exact wpAny_pure ⟨_, rfl, h _ (Heap.SameBut.update ..) e1⟩
theorem set_add_again {a : Addr} {led : Bool} {Q : Value → Shared → Prop} (ho : s.heap.get? a = some (set1 led)) (h : Q .none { s with toks := s.toks + 1 }) :
    wpAny (model prog w) A (call (.builtin "set.add") [.ref a, .bool true]) Q E s := by
  have hT : s.TypeIs (.ref a) "set" := ⟨_, ho, rfl⟩
  refine wpAny_call_entry PySem.F.slot_set_add hT PySem.F.entry_set_add ?_ (PySem.F.args_set_add_2 _ _)
  unfold Builtin.«set.add» Builtin.Frozenset.oneOther
  simp only [List.isEmpty_nil, bind_assoc]
  unfold Builtin.Frozenset.addrOf setAdd
  refine wpAny_bind (wpAny_pure ?_)
  try dsimp only
  refine wpAny_bind (wpAny_pure ?_)
  try dsimp only
  refine wpAny_bind ?_
  refine wpAny_holding ?_
  refine wpAny_bind (pyHash_true ?_)
  unfold setAddHashed setAddHashedIn
  have hf : (tab1 led).fits 1 = true := by cases led <;> decide
  refine wpAny_holding (wpAny_bind (wpAny_setState_of (s := { s with toks := s.toks + 1 }) ho rfl hf ?_))
  dsimp only
  rw [show byScan (.bool true) #[((1 : Int), Value.bool true)] = true from by kernel_rfl]
  simp only [↓reduceIte]
  unfold setAddByScan
  refine wpAny_bind (wpAny_bind (wpAny_rule ?_))
  refine wpAny_bind ?_
  show wpAny _ _ (setScanFrom a (.bool true) 1 true [((1 : Int), Value.bool true)] 0) _ _ _
  unfold setScanFrom
  rw [if_pos (by decide)]
  unfold setEpoch
  refine wpAny_bind (wpAny_bind (wpAny_setState_of (s := { s with toks := s.toks + 1 }) ho rfl hf (wpAny_pure ?_)))
  refine wpAny_bind (m := eqBool _ _) ?_
  · unfold eqBool
    refine wpAny_holding ?_
    rw [if_pos (by decide)]
    refine wpAny_bind (wpAny_rule (wpAny_pure ?_))
    rw [if_pos (by decide)]
    refine wpAny_pure ?_
    dsimp only
    exact wpAny_pure (wpAny_pure (wpAny_pure ⟨_, rfl, h⟩))
end
end Mine
end

section
open PySem PySem.Calls PyProof.Rows PySem.W
open AutoSeq1 (wpAny_loadPart')
namespace Mine
namespace FS
theorem owner_setiter : Manifest.owners.lookup (String.ofList ['r','o','t','a','r','e','t','i','_','t','e','s'].reverse) = some Manifest.sig_set_iterator := by kernel_rfl
theorem slot_setiter_next : Slot "set_iterator" "__next__" "set_iterator.__next__" :=
  .of (owner := "set_iterator") (n := "__next__") (by rw [typeLookup_type, builtinLookup_eq_fast]; kernel_rfl) (by decide +kernel) (by decide +kernel) (by decide +kernel)
    (by first | exact .inl (by decide +kernel) | exact .inr (by decide +kernel)) (by rw [isSubtype_type]; kernel_rfl)
theorem args_setiter_next_1 (a : Value) : argsOk "set_iterator.__next__" ⟨[a], []⟩ := by
  unfold argsOk; rw [signature?_of (id := "set_iterator.__next__") (n := ['_', '_', 't', 'x', 'e', 'n', '_', '_']) (o := ['r','o','t','a','r','e','t','i','_','t','e','s']) (by kernel_rfl) owner_setiter]; kernel_rfl
theorem entry_setiter_next : entryFor table "set_iterator.__next__" = some Builtin.«set_iterator.__next__» := entryFor_of_tree (by kernel_rfl)
theorem entry_set_iter : entryFor table "set.__iter__" = some Builtin.«frozenset.__iter__» :=
  entryFor_alias (id' := "frozenset.__iter__") (by kernel_rfl) rfl (by decide +kernel) (by kernel_rfl)
end FS
noncomputable abbrev sit (a : Addr) (p i : Int) : Obj := { cls := .type "set_iterator", data := .fields #[.int p 0, .int i 0, .ref a, .int 1 0, .int 1 0] }
section
variable {prog : Program} {w : World} {A : Around} {E : Value → Shared → Prop} {s : Shared}
theorem pyIter_set1 {a : Addr} {led : Bool} {Q : Value → Shared → Prop} (ho : s.heap.get? a = some (set1 led)) (h : Q (.ref s.heap.objs.size) { s with heap := s.heap.push (sit a 0 0) }) : wpAny (model prog w) A (pyIter (.ref a)) Q E s := by
  have hT : s.TypeIs (.ref a) "set" := ⟨_, ho, rfl⟩
  have hf : (tab1 led).fits 1 = true := by cases led <;> decide
  refine wpAny_pyIter_slot hT PySem.F.slot_set_iter (wpAny_call_entry PySem.F.slot_set_iter hT FS.entry_set_iter ?_ (PySem.F.args_set_iter_1 _))
  unfold Builtin.«frozenset.__iter__»
  refine wpAny_bind (m := Builtin.Frozenset.slot0 "__iter__" _) (wpAny_pure ?_)
  unfold Builtin.Frozenset.sizeOf setEntries
  refine wpAny_bind (wpAny_bind (wpAny_bind (wpAny_setState_of ho rfl hf (wpAny_pure (wpAny_pure ?_)))))
  unfold setDrawn
  refine wpAny_bind (wpAny_bind (wpAny_setState_of ho rfl hf ?_))
  unfold setsByText
  refine wpAny_bind (wpAny_bind (wpAny_askSetting (wpAny_pure (wpAny_pure ?_))))
  have hd : ∀ b : Bool, ((!b && (!(tab1 led).plain && decide ((#[((1 : Int), Value.bool true)] : Array (Int × Value)).size > 1))) : Bool) = false := fun b => by cases b <;> rfl
  rw [if_neg (by
    show ¬ (!(Params.followText w.params "set-order") && (!(tab1 led).plain && decide ((#[((1 : Int), Value.bool true)] : Array (Int × Value)).size > 1))) = true
    rw [hd]; exact Bool.false_ne_true)]
  refine wpAny_bind (wpAny_pure ?_)
  unfold setEpoch
  refine wpAny_bind (wpAny_bind (wpAny_setState_of ho rfl hf (wpAny_pure ?_)))
  show wpAny _ _ (newFields "set_iterator" [rawInt 0, rawInt 0, Value.ref a, rawInt 1, rawInt 1] >>= _) _ _ _
  unfold newFields
  refine wpAny_bind (wpAny_newObj_type ?_)
  exact wpAny_pure ⟨_, rfl, "set_iterator", _, ⟨_, Heap.get?_push_size _ rfl, rfl⟩, FS.slot_setiter_next.lookup, h⟩
theorem pick1 (f : Nat → Nat) (x : Int × Value) : pickOrder f #[x] = #[x] := by
  simp [pickOrder, pickOrder.go, Nat.mod_one]
theorem setWalk1 {a : Addr} {led : Bool} {Q : Array (Int × Value) → Shared → Prop} (hb : w.params.followText "set-order" = true) (ho : s.heap.get? a = some (set1 led)) (h : Q #[(1, .bool true)] s) : wpAny (model prog w) A (setWalk a) Q E s := by
  have hf : (tab1 led).fits 1 = true := by cases led <;> decide
  unfold setWalk
  refine wpAny_bind (wpAny_setState_of ho rfl hf ?_)
  unfold setsByText
  refine wpAny_bind (wpAny_bind (wpAny_askSetting (wpAny_pure ?_)))
  dsimp only
  rw [if_pos (show (model prog w).w.params.followText "set-order" = true from hb)]
  refine wpAny_bind (wpAny_askSetting (wpAny_pure ?_))
  rw [pick1]
  exact h
theorem pyNext_set1 {a it : Addr} {led : Bool} {Q : Option Value → Shared → Prop} (hl : led = !(w.params.followText "set-order")) (ho : s.heap.get? a = some (set1 led)) (hi : s.heap.get? it = some (sit a 0 0)) (hne : a ≠ it)
    (h : ∀ h' p, Heap.SameBut it s.heap h' → (w.params.followText "set-order" = false → p = 2) → h'.get? it = some (sit a p 1) → Q (some (.bool true)) { s with heap := h' }) : wpAny (model prog w) A (pyNext (.ref it)) Q E s := by
  have hT : s.TypeIs (.ref it) "set_iterator" := ⟨_, hi, rfl⟩
  have hf : (tab1 led).fits 1 = true := by cases led <;> decide
  unfold pyNext
  refine wpAny_bind (wpAny_attempt (wpAny_callSpecial?_slot (name := Str.ofString "__next__") hT FS.slot_setiter_next
    (wpAny_call_entry FS.slot_setiter_next hT FS.entry_setiter_next ?_ (FS.args_setiter_next_1 _))))
  unfold Builtin.«set_iterator.__next__»
  wp_walk using wpAny_loadPart' hi
  refine wpAny_askSetting (wpAny_pure ?_)
  dsimp only
  cases hb : w.params.followText "set-order" with
  | true =>
    rw [if_pos (show (model prog w).w.params.followText "set-order" = true from hb), if_neg (by decide)]
    show wpAny _ _ (setWalk a >>= _) _ _ _
    refine wpAny_bind (setWalk1 hb ho (wpAny_pure ?_))
    show wpAny _ _ (setField (Value.ref it) 0 (rawInt 0) >>= _) _ _ _
    refine wpAny_bind (wpAny_setField_rec hi (by simp) fun h2 hi2 s2 => ?_)
    refine wpAny_bind (wpAny_setField_rec hi2 (by simp) fun h3 hi3 s3 => ?_)
    exact wpAny_pure ⟨_, rfl, wpAny_pure (h h3 0 (Heap.SameBut.trans s2 s3) (fun q => by rw [hb] at q; cases q) hi3)⟩
  | false =>
    rw [if_neg (show ¬ (model prog w).w.params.followText "set-order" = true by rw [show (model prog w).w.params.followText "set-order" = false from hb]; exact Bool.false_ne_true)]
    have hled : led = true := by rw [hl, hb]; rfl
    subst hled
    rw [if_neg (by decide +kernel)]
    refine wpAny_bind (wpAny_pure ?_)
    refine wpAny_pure ?_
    show wpAny _ _ (setField (Value.ref it) 0 (rawInt 2) >>= _) _ _ _
    refine wpAny_bind (wpAny_setField_rec hi (by simp) fun h2 hi2 s2 => ?_)
    refine wpAny_bind (wpAny_setField_rec hi2 (by simp) fun h3 hi3 s3 => ?_)
    exact wpAny_pure ⟨_, rfl, wpAny_pure (h h3 2 (Heap.SameBut.trans s2 s3) (fun _ => rfl) hi3)⟩
end
end Mine
end

section
open PySem PySem.Calls PyProof.Rows PySem.W
open AutoSeq1 (wpAny_loadPart')
namespace Mine
section
variable {prog : Program} {w : World} {A : Around} {E : Value → Shared → Prop} {s : Shared}
theorem pyNext_set1_end {a it : Addr} {led : Bool} {p : Int} {Q : Option Value → Shared → Prop} (hh : A.handled = none) (hl : led = !(w.params.followText "set-order")) (hp : w.params.followText "set-order" = false → p = 2) (ho : s.heap.get? a = some (set1 led)) (hi : s.heap.get? it = some (sit a p 1)) (hne : a ≠ it)
    (h : ∀ h', Heap.ExtBut it s.heap h' → Q none { s with heap := h' }) : wpAny (model prog w) A (pyNext (.ref it)) Q E s := by
  have hT : s.TypeIs (.ref it) "set_iterator" := ⟨_, hi, rfl⟩
  have hf : (tab1 led).fits 1 = true := by cases led <;> decide
  unfold pyNext
  refine wpAny_bind (wpAny_attempt (wpAny_callSpecial?_slot (name := Str.ofString "__next__") hT FS.slot_setiter_next
    (wpAny_call_entry FS.slot_setiter_next hT FS.entry_setiter_next ?_ (FS.args_setiter_next_1 _))))
  have stop : wpAny (model prog w) A.in1 (do setField (Value.ref it) 2 Value.none; raiseNew (← newExc (Value.type "StopIteration") [])) (fun fin s' => ∃ v, fin = Fin.done (Flow.ret v) ∧ (fun v => wpAny (model prog w) A (match Except.ok (some v) with
        | .ok (some v) => pure (some v)
        | .ok none => unsupported "iter:the-iterator's-class-has-lost-its-__next__-amid-the-walk"
        | .error e => do if ← isInstance e (.type "StopIteration") then pure none else throw e) Q E) v s')
      (fun e s' => wpAny (model prog w) A (match (Except.error e : Except Value (Option Value)) with
        | .ok (some v) => pure (some v)
        | .ok none => unsupported "iter:the-iterator's-class-has-lost-its-__next__-amid-the-walk"
        | .error e => do if ← isInstance e (.type "StopIteration") then pure none else throw e) Q E s') s := by
    refine wpAny_bind (wpAny_setField_rec hi (by simp) fun h2 hi2 s2 => ?_)
    show wpAny _ _ (newExc (.type "StopIteration") [] >>= _) _ _ _
    refine wpAny_bind ?_
    simp only [newExc, newTuple]
    refine wpAny_bind (wpAny_newObj_type ?_ (by size_fits))
    refine wpAny_bind (m := firstArgMember _ _) (wpAny_of_eq (a := Value.none) (by first | rfl | (simp only [firstArgMember]; rfl)) ?_)
    refine wpAny_newObj_type ?_ (by size_fits)
    simp only [raiseNew]
    refine wpAny_bind (wpAny_handled ?_)
    rw [show A.in1.handled = none from hh]
    refine wpAny_bind (wpAny_pure (wpAny_throw ?_))
    refine wpAny_bind (wpAny_isInstance (T := "StopIteration") (b := true) ⟨_, Heap.get?_push_size _ rfl, rfl⟩ isSubtype_stop ?_)
    exact wpAny_pure (h _ ((s2.extBut.push _).push _))
  unfold Builtin.«set_iterator.__next__»
  wp_walk using wpAny_loadPart' hi
  refine wpAny_askSetting (wpAny_pure ?_)
  dsimp only
  cases hb : w.params.followText "set-order" with
  | true =>
    rw [if_pos (show (model prog w).w.params.followText "set-order" = true from hb), if_neg (by decide)]
    show wpAny _ _ (setWalk a >>= _) _ _ _
    refine wpAny_bind (setWalk1 hb ho (wpAny_pure ?_))
    exact stop
  | false =>
    rw [if_neg (show ¬ (model prog w).w.params.followText "set-order" = true by rw [show (model prog w).w.params.followText "set-order" = false from hb]; exact Bool.false_ne_true)]
    have hled : led = true := by rw [hl, hb]; rfl
    subst hled
    rw [if_neg (by decide +kernel)]
    obtain rfl := hp hb
    refine wpAny_bind (wpAny_pure ?_)
    refine wpAny_pure ?_
    exact stop
/-- a set of one truth value, into one name -/
theorem unpack_set1 {a : Addr} {led : Bool} {Q : List Value → Shared → Prop} (hh : A.handled = none) (hl : led = !(w.params.followText "set-order")) (ho : s.heap.get? a = some (set1 led)) 
    (h : ∀ h', (∀ b o, s.heap.get? b = some o → h'.get? b = some o) → Q [.bool true] { s with heap := h' }) : wpAny (model prog w) A (unpackItems (.ref a) 1 none) Q E s := by
  have hT : s.TypeIs (.ref a) "set" := ⟨_, ho, rfl⟩
  unfold unpackItems
  refine wpAny_bind (m := notIterableAtAll _) ?_
  unfold notIterableAtAll
  refine wpAny_bind (wpAny_specialOf hT PySem.F.slot_set_iter.lookup ?_)
  rw [if_pos (show (some (Value.builtin "set.__iter__")).isSome = true from rfl)]
  refine wpAny_pure ?_
  rw [if_neg Bool.false_ne_true]
  refine wpAny_bind (wpAny_holding (pyIter_set1 ho ?_))
  have lt := Heap.lt_size ho
  have hne : a ≠ s.heap.objs.size := Nat.ne_of_lt lt
  have K1 : ∀ b o, s.heap.get? b = some o → (s.heap.push (sit a 0 0)).get? b = some o := fun b o e => Heap.get?_push_of_some _ e
  have hi : (s.heap.push (sit a 0 0)).get? s.heap.objs.size = some (sit a 0 0) := Heap.get?_push_size _ rfl
  have old : ∀ b o, s.heap.get? b = some o → b ≠ s.heap.objs.size := fun b o e => Nat.ne_of_lt (Heap.lt_size e)
  dsimp only
  refine wpAny_bind (wpAny_holding ?_)
  unfold draw
  refine wpAny_bind (pyNext_set1 (s := { s with heap := s.heap.push (sit a 0 0) }) hl (K1 _ _ ho) hi hne fun h2 p s2 hp hi2 => ?_)
  have s2 : Heap.SameBut s.heap.objs.size (s.heap.push (sit a 0 0)) h2 := s2
  have K2 : ∀ b o, s.heap.get? b = some o → h2.get? b = some o := fun b o e => (s2.2 b (old b o e)).trans (K1 b o e)
  dsimp only
  refine wpAny_bind (wpAny_holding ?_)
  unfold draw
  refine wpAny_pure (wpAny_pure ?_)
  rw [if_neg (by decide)]
  refine wpAny_bind (wpAny_holding (pyNext_set1_end (s := { s with heap := h2 }) hh hl hp (K2 _ _ ho) hi2 hne fun h3 e3 => ?_))
  have e3 : Heap.ExtBut s.heap.objs.size h2 h3 := e3
  rw [if_neg (by decide)]
  exact wpAny_pure (h h3 fun b o e => e3 b o (old b o e) (K2 b o e))
end
end Mine
end

section
open PySem PySem.Calls PyProof.Rows PySem.W
namespace Mine
/-- the slots of a comprehension's frame that makes no list -/
noncomputable def cst0 (xs : List Str) (cs : List Dt) : List Sl := List.replicate xs.length Sl.unk ++ cs.map Sl.imm ++ [.unk]
theorem cst0_owned (xs : List Str) (cs : List Dt) : owned (cst0 xs cs) = [] := by
  unfold cst0; rw [owned_append, owned_append, owned_unk, owned_imm]; rfl
section
variable {F : FC} {ρ : List Sl} {n : Nat} {scope : Scope} {C : Addr} {xs caps : List Str} {gl : List (Str × Value)}
theorem comp_start0 {cs : List Dt} {h₂ h : Heap} (hF : F.Ok n) (K : CompOK F.sc scope xs caps gl) (X : Asr F ρ h₂) (hc : Caps F ρ caps cs)
    (kp : ∀ b o, h₂.get? b = some o → h.get? b = some o) (hC : C = h₂.objs.size) (eC : h.get? C = some { cls := .type "dict", data := .dict #[] })
    (hcell : ∀ x c, (x, c) ∈ cellsFrom (C + 1) scope.names [] → h.IsCell c none) : Asr (F.comp ρ scope C xs caps gl) (cst0 xs cs) h := by
  have fresh : ∀ b, h₂.objs.size ≤ b → h₂.get? b = none := fun b hb => Heap.get?_none_of_le hb
  have eX : (F.comp ρ scope C xs caps gl).X (cst0 xs cs) = C :: F.X ρ := by
    unfold FC.X; rw [cst0_owned, List.append_nil]; rfl
  refine ⟨X.stays.keep kp, (X.kept.trans (Kp.of_keep kp).but : KpBut (· ∈ F.P) F.h0 h), X.frs.kp (.of_keep kp), ⟨fun _ => none, .of_empty ⟨_, #[], 0, eC, rfl, by intro e he; simp at he, fun _ => rfl⟩, _, eC, .inr ⟨rfl, .head _⟩⟩, fun x c k l => ?_, by rw [cst0_owned]; exact .nil, fun a ha => (by rw [cst0_owned] at ha; cases ha), fun a ha => (by rw [cst0_owned] at ha; cases ha), fun a ha => ?_, ?_, ?_⟩
  · rcases comp_cell hF K l with ⟨_, q⟩ | ⟨_, q1, q2⟩
    · exact ⟨_, hcell x c q⟩
    · obtain ⟨v, q⟩ := X.cells x c q1 q2
      exact ⟨v, q.keeps kp⟩
  · rw [eX] at ha
    rcases List.mem_cons.mp ha with q | q
    · subst q; exact ⟨_, eC⟩
    · obtain ⟨o, e⟩ := X.dom a q; exact ⟨o, kp a o e⟩
  · rw [eX]
    refine .of_get fun i x sl hx hsl => ?_
    have hx : (xs ++ caps ++ [("" : Str)])[i]? = some x := hx
    unfold cst0 at hsl
    by_cases h1 : i < xs.length
    · rw [List.append_assoc, List.getElem?_append_left (by simpa using h1), List.getElem?_replicate, if_pos h1] at hsl
      cases hsl; trivial
    · have h1 : xs.length ≤ i := Nat.not_lt.mp h1
      rw [List.append_assoc, List.getElem?_append_right (by simpa using h1), List.length_replicate] at hsl
      rw [List.append_assoc, List.getElem?_append_right h1] at hx
      generalize i - xs.length = j at hx hsl
      by_cases h2 : j < cs.length
      · rw [List.getElem?_append_left (by simpa using h2), List.getElem?_map] at hsl
        obtain ⟨d, hd, rfl⟩ := Option.map_eq_some_iff.mp hsl
        rw [List.getElem?_append_left (by rw [hc.1]; exact h2)] at hx
        obtain ⟨i', e1, e2⟩ := hc.2 j x d hx hd
        obtain ⟨v, hv, hr⟩ := X.sls.get e1 e2
        refine ⟨v, .inr ?_, (hr.more fun a ha => ?_).kp (.of_keep kp)⟩
        · have hfree := mem_of_lookup_kind (K.ck x (List.mem_of_getElem? hx))
          obtain ⟨f1, f2⟩ := comp_free (ρ := ρ) (C := C) hF K hfree
          have hk : F.env.kindOf x = some .cell := (kind_eq hF x).trans (K.free x hfree)
          rcases hv with ⟨q, _⟩ | ⟨_, c, q1, q2⟩
          · rw [hk] at q; cases q
          · exact ⟨.inl f2, c, f1.trans q1, q2.keeps kp⟩
        · rcases List.mem_cons.mp ha with q | q
          · subst q; exact .inr (fresh _ (by rw [hC]; exact Nat.le_refl _))
          · exact .inl q
      · have h2 : cs.length ≤ j := Nat.not_lt.mp h2
        rw [List.getElem?_append_right (by simpa using h2), List.length_map] at hsl
        generalize j - cs.length = l at hsl
        cases l with
        | succ l => simp at hsl
        | zero =>
          simp only [List.getElem?_cons_zero, Option.some.injEq] at hsl
          subst hsl
          trivial
  · show (cst0 xs cs).length = (xs ++ caps ++ [("" : Str)]).length
    unfold cst0
    have := hc.1
    simp; lia
/-- a set that no frame speaks of turns -/
theorem Asr.elsewhere {h h' : Heap} {D : Addr} {o : Obj} {es : Array (Int × Value)} {ep : Nat} {t : SetTable} (X : Asr F ρ h) (ho : owned ρ = []) (sb : Heap.SameBut D h h') (e : h.get? D = some o) (hd : o.data = .set es ep t) (hc : o.cls = .type "set") (nB : F.G.B.get? D = none) (n0 : F.h0.get? D = none ∨ D ∈ F.P) (lv : ∃ o', h'.get? D = some o') : Asr F ρ h' := by
  have nl : D ≠ F.env.locals := fun q => by
    obtain ⟨m, ⟨lo, es', ep', le, ld, _⟩, _⟩ := X.loc
    rw [← q, e] at le; cases le
    rw [hd] at ld; cases ld
  have nb : ¬ Bears (F.X ρ) D o := fun q => by
    rcases q with ⟨_, _, q, _⟩ | ⟨_, _, _, _, q⟩ <;> rw [hd] at q <;> cases q
  have S := X.still (a := D) (fun b o' hb eb => .inl ((sb.2 b hb).trans eb)) lv e (plain_ty hc) (fun v q => by rw [hd] at q; cases q) nl n0 nb
  refine ⟨X.stays.but sb.2 nB (fun o' vs e' q => by rw [e] at e'; cases e'; rw [hd] at q; cases q), S.kept, S.frs, S.loc, S.cells, X.nodup, X.apart, X.fresh, fun a ha => let ⟨o, e⟩ := X.dom a ha; S.live a o e, .of_get fun i x sl e1 e2 => ?_, X.len⟩
  have := X.sls.get e1 e2
  cases sl with
  | unk => trivial
  | imm d => obtain ⟨u, q1, q2⟩ := this; exact ⟨u, S.has _ _ q1, q2.same S.same fun _ q => q⟩
  | own v' a' o'' => have := mem_owned e2; rw [ho] at this; cases this
end
end Mine
end

section
open PySem PySem.Calls PyProof.Rows PySem.W
namespace Mine
noncomputable def compAdd (elt : PySem.Expr) (acc : Value) (env : Env) (c : Code) : Sem PySem.Fin := do
  (do let v ← eval elt env; standAt elt.pos; let _ ← call (.builtin "set.add") [acc, v])
  again c
theorem compTurn_set (elt target iter : PySem.Expr) (ifs : List PySem.Expr) (scope : Scope) (pos : Pos) (it acc : Value) (env : Env) :
    compTurn (.SetComp elt [⟨target, iter, ifs, 0⟩] scope pos) 0 it acc env = compGo target ifs iter.pos it env (compAdd elt acc env (.compLoop (.SetComp elt [⟨target, iter, ifs, 0⟩] scope pos) 0 it acc env)) (.compLoop (.SetComp elt [⟨target, iter, ifs, 0⟩] scope pos) 0 it acc env) := by rfl
theorem compStart_set {prog : Program} {w : World} {A : Around} {R : Result → Shared → Prop} {s : Shared} {elt target iter : PySem.Expr} {ifs : List PySem.Expr} {rest : List Comprehension} {scope : Scope} {pos : Pos} {it acc : Value} {env : Env}
    (h0 : codeAny (model prog w) A (.compLoop (.SetComp elt (⟨target, iter, ifs, 0⟩ :: rest) scope pos) 0 it acc env) R s)
    (h : ∀ (Q : Value → Shared → Prop) (E : Value → Shared → Prop), Q it s → wpAny (model prog w) A (pyIter it) Q E s) :
    codeAny (model prog w) A (.compStart (.SetComp elt (⟨target, iter, ifs, 0⟩ :: rest) scope pos) 0 it acc env) R s := by
  refine codeAny_of_tree ?_
  show wpAny _ _ ((compStart (.SetComp elt (⟨target, iter, ifs, 0⟩ :: rest) scope pos) 0 it acc env).onRaise (fun x => do noteFrame x env; standAt theWindowsPlace)) _ _ s
  refine wpAny_notedAt ?_
  unfold compStart
  show wpAny _ _ (ask >>= _) _ _ s
  refine wpAny_bind (wpAny_askSetting (wpAny_ite ?_))
  split
  · first
      | exact wpAny_bind (wpAny_pure (wpAny_pure (And.intro rfl h0)))
      | exact wpAny_pure (And.intro rfl h0)
  · first
      | exact wpAny_bind (wpAny_rule (wpAny_bind (wpAny_standAt (wpAny_bind (h _ _ (wpAny_pure (And.intro rfl h0)))))))
      | (refine wpAny_bind (wpAny_rule ?_); show wpAny _ _ (standAt iter.pos >>= _) _ _ s; exact wpAny_bind (wpAny_standAt (wpAny_bind (h _ _ (wpAny_pure (And.intro rfl h0))))))
section
variable {F : FC} {ρ : List Sl} {n : Nat} {Θ : String → List Sl → Prop} {scope : Scope} {caps : List Str} {gl : List (Str × Value)}
/-- before the k-th turn of a set comprehension -/
structure SetI (F : FC) (σ : List Sl) (hs : Heap) (D : Addr) (led : Bool) (wr : List Addr) (St : List Addr → Heap → List Dt → Prop) (ds : List Dt) (k : Nat) (h : Heap) : Prop where
  le : k ≤ ds.length
  asr : Asr F σ h
  kp : Kp hs h
  st : St (F.X σ) h (ds.drop k)
  set : h.get? D = some (if k = 0 then set0 led else set1 led)
/-- a set of what is true of each item, into one name -/
theorem ex1_setcomp {i : Nat} {x y : Str} {np yp tp spos pos : Pos} {kk : Nat} {elt iter : PySem.Expr} {ds : List Dt} {cs : List Dt} (hF : F.Ok n) (hx : F.names[i]? = some x) (hi : i < F.own) (hit : EvIt F ρ iter ds true) (hne : ds ≠ []) (hK : compOK F.sc scope [y] caps gl = true) (hc : Caps F ρ caps cs) (hgl : ∀ p ∈ gl, GlOK F.G p)
    (hb : ∀ C d, (F.comp ρ scope C [y] caps gl).Ok n → d ∈ ds → Ev (F.comp ρ scope C [y] caps gl) ((cst0 [y] cs).set 0 (.imm d)) elt (.bool true))
    (hs : ∀ x, foldedSetIterable iter F.env x = pure x := by intro _; rfl) (hw : swapsWithSole [.Tuple [.Name x np] kk tp] (.SetComp elt [⟨.Name y yp, iter, [], 0⟩] scope spos) pos.line F.env = pure false := by rfl) (hw2 : swappedStores [.Tuple [.Name x np] kk tp] (.SetComp elt [⟨.Name y yp, iter, [], 0⟩] scope spos) F.env = pure none := by rfl) (hq0 : F.hd = false := by rfl) :
    Ex1 F ρ (.Assign [.Tuple [.Name x np] kk tp] (.SetComp elt [⟨.Name y yp, iter, [], 0⟩] scope spos) pos) (Puts ρ i (.bool true)) Θ := by
  intro s X Q E hq _
  have K := CompOK.of hK
  refine Assign_Tuple ?_ hw hw2
  rw [arm_eval_SetComp]
  refine wpAny_comprehension_free (use := Option.none) rfl hs (closureFor_eq fun x hx => hF.cs x ((kind_eq hF x).trans (K.free x hx))) K.kind (fun x hx hl => by
    obtain ⟨y, k⟩ := x
    have hl : k = .local := hl
    subst hl
    exact lookup_of_mem K.keys hx) (hit s X _ _ fun it h₂ tk₂ wr St g₂ ok st₂ hwr => ?_)
  show wpAny _ _ (do newObj (.type "set") (.set #[] 0 (.fresh 0 0 (!(← setsByText))))) _ _ _
  unfold setsByText
  refine wpAny_bind (wpAny_bind (wpAny_askSetting (wpAny_pure ?_)))
  generalize hled : (!(Params.followText (Setting.params ⟨(model F.G.prog F.G.w).prog, (model F.G.prog F.G.w).w.params⟩) "set-order")) = led
  have hled' : led = !(F.G.w.params.followText "set-order") := hled.symm
  refine wpAny_newObj_type (newCompEnv fun cenv h he hl kp eC hcell => ?_)
  have hsz : (h₂.push (set0 led)).objs.size = h₂.objs.size + 1 := Heap.size_push ..
  have he' : { cenv with scope := relabel scope F.env } = compEnv scope F.env (h₂.objs.size + 1) := he.trans (congrArg _ hsz)
  have hl : cenv.locals = h₂.objs.size + 1 := hl.trans hsz
  have kp3 : ∀ b o, (h₂.push (set0 led)).get? b = some o → h.get? b = some o := kp
  have kp2 : ∀ b o, h₂.get? b = some o → h.get? b = some o := fun b o e => kp3 b o (Heap.get?_push_of_some _ e)
  have eD : h.get? h₂.objs.size = some (set0 led) := kp3 _ _ (Heap.get?_push_size _ rfl)
  have eC : h.get? (h₂.objs.size + 1) = some { cls := .type "dict", data := .dict #[] } := hsz ▸ eC
  have hcell : ∀ x c, (x, c) ∈ cellsFrom (h₂.objs.size + 1 + 1) scope.names [] → h.IsCell c Option.none := fun x c hm => hcell x c (by
    rw [show ({ s with heap := h₂.push (set0 led), toks := tk₂ } : Shared).heap.objs.size = h₂.objs.size + 1 from hsz]; exact hm)
  rw [he']
  have X2 := X.grow g₂
  have g3 : Grow F.G h₂ (h₂.push (set0 led)) := .push X2.stays _
  have X3 := X2.grow g3
  have okF := comp_ok (ρ := ρ) (xs := [y]) (caps := caps) (gl := gl) (C := h₂.objs.size + 1) hF K X3 (Nat.le_of_eq hsz) hgl
  have X4 := comp_start0 (xs := [y]) (gl := gl) hF K X3 hc kp3 hsz.symm eC hcell
  have hX4 : ∀ σ, owned σ = [] → (F.comp ρ scope (h₂.objs.size + 1) [y] caps gl).X σ = (h₂.objs.size + 1) :: F.X ρ := fun σ h => by
    unfold FC.X; rw [h, List.append_nil]; rfl
  have hfresh : ∀ b, h₂.objs.size ≤ b → h₂.get? b = Option.none := fun b hb => Heap.get?_none_of_le hb
  have old2 : ∀ b o, h₂.get? b = some o → b ≠ h₂.objs.size ∧ b ≠ h₂.objs.size + 1 := fun b o e => ⟨fun q => (by rw [q, hfresh _ (Nat.le_refl _)] at e; cases e), fun q => (by rw [q, hfresh _ (Nat.le_succ _)] at e; cases e)⟩
  have hwl : ∀ b ∈ wr, ∃ o, h₂.get? b = some o ∧ Neut o := ok.neut _ _ _ st₂
  have B0 : LBase F s.heap h₂ it wr St ds true ρ := .of X g₂ ok st₂ hwr
  have vold : ∀ b, (b = h₂.objs.size ∨ ∃ o, h₂.get? b = some o) → ¬ (F.comp ρ scope (h₂.objs.size + 1) [y] caps gl).vol0 b := fun b hb q => by
    rcases q with q | ⟨j, z, hz, hj, hk, hl⟩
    · rcases hb with rfl | ⟨o, eb⟩
      · exact absurd q (Nat.ne_of_lt (Nat.lt_succ_self _))
      · exact (old2 b o eb).2 q
    · rcases comp_cell hF K hl with ⟨_, q⟩ | ⟨q, _⟩
      · have lo := cellsFrom_lo _ _ q
        rcases hb with rfl | ⟨o, eb⟩
        · lia
        · have hlt : b < h₂.objs.size := Heap.lt_size eb
          exact absurd (Nat.lt_of_lt_of_le (Nat.lt_of_lt_of_le hlt (Nat.le_of_lt (Nat.lt_succ_of_lt (Nat.lt_succ_self _)))) lo) (Nat.lt_irrefl _)
      · have hx' : z ∈ [y] := by
          have e : (F.comp ρ scope (h₂.objs.size + 1) [y] caps gl).names = [y] ++ (caps ++ [("" : Str)]) := List.append_assoc _ _ _
          rw [e, List.getElem?_append_left hj] at hz
          exact List.mem_of_getElem? hz
        have := lookup_of_mem K.keys q
        rcases K.xk z hx' with q' | q' <;> rw [this] at q' <;> cases q'
  have o0 : owned (cst0 [y] cs) = [] := cst0_owned _ _
  have ow1 : ∀ d, owned ((cst0 [y] cs).set 0 (.imm d)) = [] := fun d => by
    show owned (Sl.imm d :: (cs.map Sl.imm ++ [Sl.unk])) = []
    show owned (cs.map Sl.imm ++ [Sl.unk]) = []
    rw [owned_append, owned_imm]; rfl
  have DB : F.G.B.get? h₂.objs.size = none := by
    cases q : F.G.B.get? h₂.objs.size with
    | none => rfl
    | some o => have := X2.stays.stays _ o q; rw [hfresh _ (Nat.le_refl _)] at this; cases this
  have D0 : F.h0.get? h₂.objs.size = none ∨ h₂.objs.size ∈ F.P := by
    by_cases hP : h₂.objs.size ∈ F.P
    · exact .inr hP
    · cases q : F.h0.get? h₂.objs.size with
      | none => exact .inl rfl
      | some o => obtain ⟨o', e'⟩ := X2.kept.live hP q; rw [hfresh _ (Nat.le_refl _)] at e'; cases e'
  have DX : h₂.objs.size ∉ F.X ρ := fun q => by obtain ⟨o, e⟩ := X2.dom _ q; rw [hfresh _ (Nat.le_refl _)] at e; cases e
  have Dw : h₂.objs.size ∉ wr := fun q => by obtain ⟨o, e, _⟩ := hwl _ q; rw [hfresh _ (Nat.le_refl _)] at e; cases e
  have nxw : ∀ σ, owned σ = [] → ∀ b ∈ wr, b ∉ (F.comp ρ scope (h₂.objs.size + 1) [y] caps gl).X σ := fun σ hσ b hb q => by
    rw [hX4 σ hσ] at q
    obtain ⟨o, e, _⟩ := hwl b hb
    rcases List.mem_cons.mp q with q | q
    · exact (old2 b o e).2 q
    · exact B0.nx b hb q
  have oldS : ∀ b o, s.heap.get? b = some o → ∃ o', h₂.get? b = some o' := fun b o e => g₂.kp.live e
  have start : SetI (F.comp ρ scope (h₂.objs.size + 1) [y] caps gl) (cst0 [y] cs) s.heap h₂.objs.size led wr St ds 0 h := by
    refine ⟨Nat.zero_le _, X4, g₂.kp.trans (.of_keep kp2), ?_, eD⟩
    refine ok.keep _ _ _ _ _ st₂ (fun b hb => ?_) (.of_kp (.of_keep kp2)) fun a ha => ?_
    · obtain ⟨o, e, _⟩ := hwl b hb; rw [e]; exact kp2 _ _ e
    · rw [hX4 _ o0] at ha
      rcases List.mem_cons.mp ha with q | q
      · subst q; exact .inr (hfresh _ (Nat.le_succ _))
      · exact .inl q
  refine compStart_set (rest := []) ?_ fun Q' E' hq' => ok.self (F.X ρ) _ ds _ _ (ok.keep _ _ _ _ _ st₂ (fun b hb => by obtain ⟨o, e, _⟩ := hwl b hb; rw [e]; exact kp2 _ _ e) (.of_kp (.of_keep kp2)) fun a ha => .inl ha) hq'
  refine codeAny_loop rfl (fun m s' => ∃ k h tk, m = ds.length - k ∧ s' = { s with heap := h, toks := tk } ∧ SetI (F.comp ρ scope (h₂.objs.size + 1) [y] caps gl) (cst0 [y] cs) s.heap h₂.objs.size led wr St ds k h) (fun m s' hI => ?_) ds.length ⟨0, h, tk₂, by lia, rfl, start⟩
  obtain ⟨k, h4, tk4, rfl, rfl, I⟩ := hI
  show wpAny _ _ ((compTurn (.SetComp elt [⟨.Name y yp, iter, [], 0⟩] scope spos) 0 it (.ref h₂.objs.size) (compEnv scope F.env (h₂.objs.size + 1))).onRaise (fun x => do noteFrame x (compEnv scope F.env (h₂.objs.size + 1)); theTreesLotGoes x)) _ _ _
  refine wpAny_noted ?_
  rw [compTurn_set]
  unfold compGo
  refine wpAny_bind (wpAny_standAt (wpAny_bind ?_))
  by_cases hlt : k < ds.length
  · have st4 := I.st
    rw [List.drop_eq_getElem_cons hlt] at st4
    refine ok.item _ { s with heap := h4, toks := tk4 } _ _ _ _ I.asr.stays I.asr.dom st4 fun v s₁ hgo => ?_
    refine wpAny_bind (hgo (.Name y yp) _ _ rfl fun h5 tk5 rv st5 mv => ?_)
    have X5 := I.asr.moved mv B0.nb B0.n0 (nxw _ o0)
    have kp5 : Kp s.heap h5 := fun b o e => (I.kp b o e).next fun p ep => .inl (mv.others b p (fun q => by rw [hwr b q] at e; cases e) ep)
    have D5 := mv.others _ _ Dw I.set
    refine wpAny_bind (Tgt.name (i := 0) okF rfl (show 0 < 1 by decide) { s with heap := h5, toks := tk5 } v X5 rv _ _ fun h6 tk6 X6 S6 => ?_)
    have nv6 : ∀ b, (b = h₂.objs.size ∨ ∃ o, h₂.get? b = some o) → ¬ (F.comp ρ scope (h₂.objs.size + 1) [y] caps gl).vol (cst0 [y] cs) b := fun b hb q => q.elim (vold b hb) fun q => by rw [o0] at q; cases q
    have D6 : h6.get? h₂.objs.size = some (if k = 0 then set0 led else set1 led) := S6.kept.same (nv6 _ (.inl rfl)) D5 (by split <;> exact plain_ty rfl)
    have kp6 : Kp s.heap h6 := fun b o e => (kp5 b o e).next fun p ep => S6.kept b p (nv6 b (.inr (oldS b o e))) ep
    have st6 : St ((F.comp ρ scope (h₂.objs.size + 1) [y] caps gl).X (cst0 [y] cs)) h6 (ds.drop (k + 1)) := ok.keep _ _ _ _ _ st5 (fun b hb => by
      obtain ⟨o, eo, nn⟩ := ok.neut _ _ _ st5 b hb
      obtain ⟨o2, e2, _⟩ := hwl b hb
      rw [eo]
      refine S6.kept.same (nv6 b (.inr ⟨o2, e2⟩)) eo ?_
      obtain ⟨T, _, hc, hT, _⟩ := nn
      exact ⟨fun q => (by rw [hc] at q; injection q with q; subst q; cases hT), fun q => by rw [hc] at q; cases q⟩) (S6.same X5) fun a ha => .inl ha
    refine wpAny_bind (wpAny_tests_nil ?_)
    rw [if_pos rfl]
    unfold compAdd
    refine wpAny_bind (wpAny_bind (hb (h₂.objs.size + 1) _ okF (List.getElem_mem hlt) { s with heap := h6, toks := tk6 } X6 _ _ fun v2 h7 tk7 g7 r7 => ?_))
    obtain rfl := r7.bool'
    have X7 := X6.grow g7
    have D7 : h7.get? h₂.objs.size = some (if k = 0 then set0 led else set1 led) := g7.kp.same D6 (by split <;> exact plain_ty rfl)
    have st7 : St ((F.comp ρ scope (h₂.objs.size + 1) [y] caps gl).X (cst0 [y] cs)) h7 (ds.drop (k + 1)) := ok.keep _ _ _ _ _ st6 (fun b hb => by
      obtain ⟨o, eo, nn⟩ := ok.neut _ _ _ st6 b hb
      rw [eo]
      refine g7.kp.same eo ?_
      obtain ⟨T, _, hc, hT, _⟩ := nn
      exact ⟨fun q => (by rw [hc] at q; injection q with q; subst q; cases hT), fun q => by rw [hc] at q; cases q⟩) (.of_kp g7.kp) fun a ha => .inl ha
    have kp7 := kp6.trans g7.kp
    refine wpAny_bind (wpAny_standAt ?_)
    have wk : Wk ((cst0 [y] cs).set 0 (.imm ds[k])) (cst0 [y] cs) := .drop (.refl _)
    have fin : ∀ h8 tk8, Heap.SameBut h₂.objs.size h7 h8 → h8.get? h₂.objs.size = some (set1 led) → ∃ m, m < ds.length - k ∧ ∃ k' h tk, m = ds.length - k' ∧ ({ s with heap := h8, toks := tk8 } : Shared) = { s with heap := h, toks := tk } ∧ SetI (F.comp ρ scope (h₂.objs.size + 1) [y] caps gl) (cst0 [y] cs) s.heap h₂.objs.size led wr St ds k' h := fun h8 tk8 sb e8 => by
      have X8 : Asr (F.comp ρ scope (h₂.objs.size + 1) [y] caps gl) ((cst0 [y] cs).set 0 (.imm ds[k])) h8 := by
        by_cases hk0 : k = 0
        · rw [if_pos hk0] at D7
          exact X7.elsewhere (ow1 _) sb D7 rfl rfl DB D0 ⟨_, e8⟩
        · rw [if_neg hk0] at D7
          exact X7.elsewhere (ow1 _) sb D7 rfl rfl DB D0 ⟨_, e8⟩
      refine ⟨ds.length - (k + 1), by lia, k + 1, h8, tk8, rfl, rfl, hlt, X8.weak wk, fun b o e => (kp7 b o e).next fun p ep => .inl ((sb.2 b (old2 b _ (oldS b o e).choose_spec).1).trans ep), ?_, by rw [if_neg (Nat.succ_ne_zero k)]; exact e8⟩
      refine ok.keep _ _ _ _ _ st7 (fun b hb => sb.2 b fun q => Dw (q ▸ hb)) (fun a o ea hbr => ?_) fun a ha => .inl ha
      refine (sb.2 a fun q => ?_).trans ea
      subst q
      rw [D7] at ea
      have : ∃ es ep t, o.data = .set es ep t := by
        by_cases hk0 : k = 0
        · rw [if_pos hk0] at ea; cases ea; exact ⟨_, _, _, rfl⟩
        · rw [if_neg hk0] at ea; cases ea; exact ⟨_, _, _, rfl⟩
      obtain ⟨_, _, _, hd⟩ := this
      rcases hbr with ⟨_, _, q, _⟩ | ⟨_, _, _, _, q⟩ <;> rw [hd] at q <;> cases q
    by_cases hk0 : k = 0
    · rw [if_pos hk0] at D7
      refine wpAny_bind (set_add_first (s := { s with heap := h7, toks := tk7 }) D7 fun h8 sb e8 => ?_)
      exact wpAny_pure (wpAny_pure ⟨rfl, fin h8 _ sb e8⟩)
    · rw [if_neg hk0] at D7
      refine wpAny_bind (set_add_again (s := { s with heap := h7, toks := tk7 }) D7 ?_)
      exact wpAny_pure (wpAny_pure ⟨rfl, fin h7 _ (.refl _ _) D7⟩)
  · have hk : k = ds.length := by have := I.le; lia
    have st4 := I.st
    rw [hk, List.drop_length] at st4
    refine ok.done _ { s with heap := h4, toks := tk4 } _ _ I.asr.stays st4 fun h5 tk5 mv => wpAny_pure ?_
    have X5 := I.asr.moved mv B0.nb B0.n0 (nxw _ o0)
    have kp5 : Kp s.heap h5 := fun b o e => (I.kp b o e).next fun p ep => .inl (mv.others b p (fun q => by rw [hwr b q] at e; cases e) ep)
    have k0 : ¬ k = 0 := fun q => hne (List.length_eq_zero_iff.mp (hk.symm.trans q))
    have D5 := mv.others _ _ Dw I.set
    rw [if_neg k0] at D5
    show compPost _ _ _ _ _ _ cenv.locals _ _
    rw [hl]
    obtain ⟨m, hm, _⟩ := X5.loc
    have hns := hm.ns
    obtain ⟨o1, es, ep, e1, hd1, _⟩ := hm
    have e1 : h5.get? (h₂.objs.size + 1) = some o1 := e1
    refine ⟨m, hns, fun h6 sb => ?_⟩
    have sb : Heap.SameBut (h₂.objs.size + 1) h5 h6 := sb
    have In6 : In F.G h6 := X5.stays.letgo sb okF.locB e1 hd1
    have kp6 : Kp s.heap h6 := fun b o e => (kp5 b o e).next fun p ep => .inl ((sb.2 b (old2 b _ (oldS b o e).choose_spec).2).trans ep)
    have D6 : h6.get? h₂.objs.size = some (set1 led) := (sb.2 _ (Nat.ne_of_lt (Nat.lt_succ_self _))).trans D5
    have X6 := X.grow ⟨kp6, In6⟩
    show wpAny _ _ (assign (.Tuple [.Name x np] kk tp) F.env (.ref h₂.objs.size)) _ _ _
    rw [arm_assign_Tuple]
    refine wpAny_bind (wpAny_standAt ?_)
    show wpAny _ _ (unpack (.ref h₂.objs.size) [(false, assign (.Name x np) F.env)]) _ _ _
    unfold unpack
    refine wpAny_bind (wpAny_holding (unpack_set1 (s := { s with heap := h6, toks := tk5 }) (hF.hand hq0) hled' D6 fun h7 k7 => ?_))
    have g7 : Grow F.G h6 h7 := .of_keep In6 k7
    show wpAny _ _ (assignInOrder [assign (.Name x np) F.env] [.bool true]) _ _ _
    unfold assignInOrder
    refine wpAny_bind (wpAny_holding (wpAny_assign_Name (store_ok (s := { s with heap := h7, toks := tk5 }) hF (X6.grow g7) hx hi (.bool true) fun h8 tk8 X8 S8 => ?_)))
    unfold assignInOrder
    exact wpAny_pure (hq .next h8 tk8 .next _ ⟨rfl, rfl⟩ X8 trivial ((Stp.of_grow (Grow.trans ⟨kp6, In6⟩ g7)).trans S8))
end
end Mine
end

section
open PySem PySem.Calls PyProof.Rows PySem.W
namespace Mine
section
variable {G : GC} {A : Around}
theorem truth_tup (l : List Dt) (hs : l.length ≤ sizeLine) : TruthOK G A (.tup l) (!l.isEmpty) := fun _ s v st h1 _ _ hq => by
  obtain ⟨_, _, rfl, l1, r1⟩ := h1.tup'
  refine truthy_tuple l1.isTup (by rw [sizeLine_eq] at hs; simp only [List.size_toArray]; rw [r1.length]; lia) ?_
  cases r1 <;> exact hq s.heap _ (.refl st)
theorem call_minL (xs ys : List Str) (hh : A.handled = none) (hu : A.units + 3 < cLine) : CallOK G A (.builtin "min") [.list [strD xs, strD ys]] (if ltL ys xs then strD ys else strD xs) := fun X s vs st _ dm h1 _ _ hq => by
  obtain ⟨v, rfl, k1⟩ := h1.one
  obtain ⟨L, ws, rfl, _, hL, R⟩ := k1.list'
  obtain ⟨va, vb, rfl, ra, rb⟩ := R.two
  obtain ⟨a, wa, rfl, na, la, sa⟩ := ra.list'
  obtain ⟨b, wb, rfl, nb, lb, sb⟩ := rb.list'
  refine call_min_lists hh hu hL la lb sa.strsAre sb.strsAre fun h' tk k => hq _ h' tk (.of_keep st k) ?_
  have kp : Kp s.heap h' := .of_keep k
  cases ltL ys xs with
  | true => exact (rb.kp kp)
  | false => exact (ra.kp kp)
theorem call_maxL (xs ys : List Str) (hh : A.handled = none) (hu : A.units + 3 < cLine) : CallOK G A (.builtin "max") [.list [strD xs, strD ys]] (if ltL xs ys then strD ys else strD xs) := fun X s vs st _ dm h1 _ _ hq => by
  obtain ⟨v, rfl, k1⟩ := h1.one
  obtain ⟨L, ws, rfl, _, hL, R⟩ := k1.list'
  obtain ⟨va, vb, rfl, ra, rb⟩ := R.two
  obtain ⟨a, wa, rfl, na, la, sa⟩ := ra.list'
  obtain ⟨b, wb, rfl, nb, lb, sb⟩ := rb.list'
  refine call_max_lists hh hu hL la lb sa.strsAre sb.strsAre fun h' tk k => hq _ h' tk (.of_keep st k) ?_
  have kp : Kp s.heap h' := .of_keep k
  cases ltL xs ys with
  | true => exact (rb.kp kp)
  | false => exact (ra.kp kp)
end
section
variable {F : FC} {ρ : List Sl} {n : Nat} {Φ : Fl → List Sl → Prop} {Θ : String → List Sl → Prop}
/-- a for loop whose body may break at the turn m -/
theorem Ex1.for_brk {target iter : PySem.Expr} {body : List Stmt} {pos : Pos} {ds : List Dt} {any : Bool} {I : Nat → List Sl} {m : Nat} (hi : EvIt F ρ iter ds any) (h0 : I 0 = ρ)
    (hb : ∀ k d, ds[k]? = some d → k ≤ m → ∃ ρ', Tgt F target d (I k) ρ' ∧ Ex F ρ' body fun fl r => match fl with | .next => k < m ∧ Wk r (I (k + 1)) | .brk => Φ .next r | _ => False)
    (hm : m ≤ ds.length) (hend : m = ds.length → Φ .next (I ds.length)) (ha : (any || isTupE target) = true := by rfl) (hs : ∀ x, foldedSetIterable iter F.env x = pure x := by intro _; rfl) : Ex1 F ρ (.For target iter body [] pos) Φ Θ := by
  subst h0
  intro s X Q E hq _
  refine wpAny_For (hi s X _ _ fun it h₂ tk₂ wr St g₂ ok st₂ hw => ?_) hs
  have B : LBase F s.heap h₂ it wr St ds any (I 0) := .of X g₂ ok st₂ hw
  refine codeAny_forLoop_any (fun j s' => ∃ k h tk, j = ds.length - k ∧ k ≤ m ∧ s' = { s with heap := h, toks := tk } ∧ LInv F s.heap h₂ wr St ds I k h) (fun j s' hI => ?_) ds.length ⟨0, h₂, tk₂, by lia, Nat.zero_le _, rfl, B.start⟩
  obtain ⟨k, h, tk, rfl, hkm, rfl, L⟩ := hI
  refine B.turn (sh := { s with heap := h, toks := tk }) L (fun h' tk' e X' S' => wpAny_execs_nil ?_) fun d v s₁ hd hgo => hgo _ _ _ ha fun h3 tk3 X3 rv close => ?_
  · subst e; exact hq .next h' tk' .next _ (hend (by lia)) X' trivial S'
  · obtain ⟨ρ', ht, hbd⟩ := hb k d hd hkm
    have hkl : k < ds.length := (List.getElem?_eq_some_iff.mp hd).1
    refine ht { s with heap := h3, toks := tk3 } v X3 rv _ _ fun h4 tk4 X4 S4 => ?_
    refine hbd { s with heap := h4, toks := tk4 } X4 _ _ (fun f h5 tk5 fl ρ5 hΦ X5 hf S5 => ?_) fun _ _ _ _ _ q => q.elim
    obtain ⟨stp5, nx⟩ := close ρ5 h5 X5 (S4.trans S5)
    cases fl with
    | next =>
      cases f <;> try exact hf.elim
      exact ⟨ds.length - (k + 1), by lia, k + 1, h5, tk5, rfl, by lia, rfl, nx hΦ.2⟩
    | cont => exact hΦ.elim
    | brk =>
      cases f <;> try exact hf.elim
      exact hq .next h5 tk5 .next _ hΦ X5 trivial stp5
    | ret d => exact hΦ.elim
end
end Mine
end

section
open PySem PySem.Calls PyProof.Rows PySem.W
namespace Mine
/-! commonpath -/
theorem ltL_tri : ∀ {a b : List Str}, ltL a b = false → ltL b a = false → a = b
  | [], [], _, _ => rfl
  | [], _ :: _, h, _ => by cases h
  | _ :: _, [], _, h => by cases h
  | x :: xs, y :: ys, h1, h2 => by
    unfold ltL at h1 h2
    by_cases e : x = y
    · subst e
      rw [if_pos rfl] at h1 h2
      rw [ltL_tri h1 h2]
    · rw [if_neg e] at h1
      rw [if_neg (Ne.symm e)] at h2
      have := List.le_antisymm (List.not_lt.mp (of_decide_eq_false h2)) (List.not_lt.mp (of_decide_eq_false h1))
      exact absurd (by cases x; cases y; simp only [Str.mk.injEq]; exact Array.toList_inj.mp this) e
theorem ltL_asym : ∀ {a b : List Str}, ltL a b = true → ltL b a = false
  | [], [], h => by cases h
  | [], _ :: _, _ => rfl
  | _ :: _, [], h => by cases h
  | x :: xs, y :: ys, h1 => by
    unfold ltL at h1 ⊢
    by_cases e : x = y
    · subst e
      rw [if_pos rfl] at h1 ⊢
      exact ltL_asym h1
    · rw [if_neg e] at h1
      rw [if_neg (Ne.symm e)]
      exact decide_eq_false (List.lt_asymm (of_decide_eq_true h1))
noncomputable def comL : List Str → List Str → List Str
  | x :: xs, y :: ys => if x = y then x :: comL xs ys else []
  | _, _ => []
theorem comL_comm : ∀ a b : List Str, comL a b = comL b a
  | [], [] => rfl
  | [], _ :: _ => rfl
  | _ :: _, [] => rfl
  | x :: xs, y :: ys => by
    unfold comL
    by_cases e : x = y
    · subst e
      rw [if_pos rfl, if_pos rfl, comL_comm xs ys]
    · rw [if_neg e, if_neg (Ne.symm e)]
theorem comL_spec : ∀ (s1 s2 : List Str), ltL s2 s1 = false → comL s1 s2 = s1.take (comL s1 s2).length ∧ (comL s1 s2).length ≤ s1.length ∧ (∀ k, k < (comL s1 s2).length → s2[k]? = s1[k]?) ∧ ((comL s1 s2).length < s1.length → ∃ y, s2[(comL s1 s2).length]? = some y ∧ s1[(comL s1 s2).length]? ≠ some y)
  | [], [], _ => ⟨rfl, Nat.le_refl _, fun k h => absurd h (Nat.not_lt_zero _), fun h => absurd h (Nat.lt_irrefl _)⟩
  | [], _ :: _, _ => ⟨rfl, Nat.le_refl _, fun k h => absurd h (Nat.not_lt_zero _), fun h => absurd h (Nat.lt_irrefl _)⟩
  | _ :: _, [], h => by cases h
  | x :: xs, y :: ys, h => by
    unfold comL
    by_cases e : x = y
    · subst e
      rw [if_pos rfl]
      have h' : ltL ys xs = false := by unfold ltL at h; rw [if_pos rfl] at h; exact h
      obtain ⟨a, b, c, d⟩ := comL_spec xs ys h'
      refine ⟨?_, by rw [List.length_cons, List.length_cons]; lia, fun k hk => ?_, fun hk => ?_⟩
      · rw [List.length_cons, List.take_succ_cons, ← a]
      · cases k with
        | zero => rfl
        | succ k => rw [List.length_cons] at hk; simpa using c k (by lia)
      · rw [List.length_cons, List.length_cons] at hk
        obtain ⟨z, q1, q2⟩ := d (by lia)
        exact ⟨z, by simpa using q1, by simpa using q2⟩
    · rw [if_neg e]
      exact ⟨rfl, Nat.zero_le _, fun k h => absurd h (Nat.not_lt_zero _), fun _ => ⟨y, rfl, fun q => e (Option.some.inj q)⟩⟩
noncomputable def keepL (l : List Str) : List Str := l.filter fun c => (c.length : Int) != 0 && c != "."
noncomputable def commonS (p q : Str) : Str := "/" ++ Txt.join "/" (comL (keepL (Txt.split p "/")) (keepL (Txt.split q "/")))
/-- a path that commonpath can be asked of -/
structure PathOK (p : Str) : Prop where
  len : p.length ≤ 100
  st : Txt.startswith p "/" = true
  parts : (Builtin.Str.partsBetween p (Builtin.Str.occurrences p "/" 0 p.length (p.length + 1)) ("/" : Str).length).length ≤ 100
  sp : (Txt.split p "/").length ≤ 100
  el : ∀ c ∈ Txt.split p "/", c.length ≤ 100
theorem comL_mem {a b : List Str} {c : Str} (h : c ∈ comL a b) : c ∈ a := by
  induction a generalizing b with
  | nil => cases b <;> cases h
  | cons x xs ih =>
    cases b with
    | nil => cases h
    | cons y ys =>
      unfold comL at h
      split at h
      · rcases List.mem_cons.mp h with rfl | h
        · exact .head _
        · exact .tail _ (ih h)
      · cases h
theorem comL_le (a b : List Str) : (comL a b).length ≤ a.length := by
  induction a generalizing b with
  | nil => cases b <;> exact Nat.le_refl _
  | cons x xs ih =>
    cases b with
    | nil => exact Nat.zero_le _
    | cons y ys =>
      unfold comL
      split
      · rw [List.length_cons, List.length_cons]; have := ih ys; lia
      · exact Nat.zero_le _
end Mine
end

section
open PySem PySem.Calls PyProof.Rows PySem.W
namespace Mine
section
variable {G : GC}
theorem commonpath_ok (W : Wd G) (p q : Str) (hp : PathOK p) (hq : PathOK q) : FnOK G 3 (.ref 176) [strD [p, q]] (.str (commonS p q)) := by
  refine Fn.pl (k := 23) (n := 2) (kk := 10) (own := 11) (pn := ["paths"]) (names := ["paths", "sep", "curdir", "split_paths", "isabs", "s1", "s2", "common", "i", "c", "prefix"])
    (gls := [("tuple", .type "tuple"), ("map", .type "map"), ("fspath", .ref 143), ("isinstance", .builtin "isinstance"), ("bytes", .type "bytes"), ("min", .builtin "min"), ("max", .builtin "max"), ("enumerate", .type "enumerate")]) (W.def (i := 8) rfl)
    (.of (by decide) (by decide) (by decide +kernel) (by decide +kernel) (W.gls [15, 16, 19, 0, 4, 12, 13, 14])) W.nolimit rfl rfl (by decide) rfl (by decide +kernel) (bindK fun _ => all1 fun _ => by kernel_rfl) fun A env h0 X0 hF => ?_
  have own : ∀ i, i < 11 → i < 11 := fun i h => h
  refine Ex.seq (Ex1.assign (i := 0) hF rfl (Nat.lt_of_sub_pos (by decide : 0 < 11 - 0)) (ev_tuple_map (k := 1) (xs := [p, q]) (j := 0) (j2 := 1) (j3 := 2) hF rfl rfl rfl (.name (i := 0) hF rfl rfl) (fun x hx => fspath_ok W x) (by decide) (by show 2 ≤ 500; decide))) ?_
  refine Ex.if_false ((Tr.not (Tr.val (.name (i := 0) hF rfl rfl) (truth_tup [.str p, .str q] (small_lt (show 2 ≤ 1000 by decide))))).as rfl) (Ex.nil ?_)
  refine Ex.if_false (Tr.val (Ev.call (j := 3) hF rfl (.cons (Ev.item PySem.F.slot_tuple_getitem.lookup (.name (i := 0) hF rfl rfl) .int (item_tup [.str p, .str q] 0 (.str p) (by decide) (by decide) rfl)) (.cons (.typ (j := 4) hF rfl) .nil)) (call_isinstance_bytes p)) (truth_bool _)) ?_
  refine Ex.seq (Ex1.assign (i := 1) hF rfl (Nat.lt_of_sub_pos (by decide : 0 < 11 - 1)) .str) ?_
  refine Ex.seq (Ex1.assign (i := 2) hF rfl (Nat.lt_of_sub_pos (by decide : 0 < 11 - 2)) .str) (Ex.nil ?_)
  refine Ex.cons (Ex1.try_ok (Φ := fun fl _ => fl = .ret (.str (commonS p q))) ?_) fun fl r h => by subst h; rfl
  -- the parts
  refine Ex.seq (Ex1.assign_comp1 (i := 3) [some (strD (Txt.split p "/")), some (strD (Txt.split q "/"))] [strD (Txt.split p "/"), strD (Txt.split q "/")] ["path"] ["sep"] [] hF rfl (Nat.lt_of_sub_pos (by decide : 0 < 11 - 3))
      (swaps_yes hF (by show (scopeOf (stAt 23)).names.lookup _ = _; decide +kernel) (by decide +kernel)) (EvIt.tup hF (.name (i := 0) hF rfl rfl)) (by show compOK (scopeOf (stAt 23)) _ _ _ _ = true; decide +kernel) (Caps.cons (i := 1) rfl rfl .nil) (fun _ h => nomatch h) rfl (by show 2 ≤ 1000; decide) rfl ?_) ?_
  · intro C D acc ok k d r hd hr
    obtain ⟨z, hz, rfl, rfl⟩ : ∃ z, PathOK z ∧ d = .str z ∧ r = some (strD (Txt.split z "/")) := match k, hd, hr with
      | 0, hd, hr => ⟨p, hp, (Option.some.inj hd).symm, (Option.some.inj hr).symm⟩
      | 1, hd, hr => ⟨q, hq, (Option.some.inj hd).symm, (Option.some.inj hr).symm⟩
      | k + 2, hd, _ => by cases hd
    exact ⟨[.imm (.str z)], rfl, .name (i := 0) ok rfl (Nat.lt_of_sub_pos (by decide : 0 < 1 - 0)), .nil, Ev.meth PySem.F.plainAttrs_str PySem.F.slot_str_split PySem.F.type_str_split (.name (i := 0) ok rfl rfl) (.cons (.name (i := 1) ok rfl rfl) .nil) (call_split z "/" (by decide) (small_lt (by have := hz.len; lia)) (small_lt (by have := hz.parts; lia)))⟩
  -- all are absolute
  refine Ex.seq (Ex1.try_ok (Ex.seq (ex1_setcomp (i := 4) (caps := ["sep"]) (cs := [.str "/"]) (gl := []) (ds := [.str p, .str q]) hF rfl (Nat.lt_of_sub_pos (by decide : 0 < 11 - 4)) (EvIt.tup hF (.name (i := 0) hF rfl rfl)) (by simp) (by show compOK (scopeOf (stAt 23)) _ _ _ _ = true; decide +kernel) (Caps.cons (i := 1) rfl rfl .nil) (fun _ h => nomatch h) (fun C d ok hd => ?_)) (Ex.nil ⟨rfl, rfl⟩))) ?_
  · obtain ⟨z, hz, rfl⟩ : ∃ z, PathOK z ∧ d = .str z := by
      rcases List.mem_cons.mp hd with rfl | hd
      · exact ⟨p, hp, rfl⟩
      · obtain rfl := List.mem_singleton.mp hd
        exact ⟨q, hq, rfl⟩
    have hc : CallOK G A (.builtin "str.startswith") [.str z, .str "/"] (.bool true) := by
      have := call_startswith (G := G) (A := A) z "/"
      rw [hz.st] at this; exact this
    exact Ev.meth PySem.F.plainAttrs_str PySem.F.slot_str_startswith PySem.F.type_str_startswith (.name (i := 0) ok rfl rfl) (.cons (.name (i := 1) ok rfl rfl) .nil) hc
  -- empty parts are left out
  refine Ex.seq (Ex1.assign_comp1 (i := 3) [some (strD (keepL (Txt.split p "/"))), some (strD (keepL (Txt.split q "/")))] [strD (keepL (Txt.split p "/")), strD (keepL (Txt.split q "/"))] ["s"] ["curdir"] [] hF rfl (Nat.lt_of_sub_pos (by decide : 0 < 11 - 3))
      (swaps_yes hF (by show (scopeOf (stAt 23)).names.lookup _ = _; decide +kernel) (by decide +kernel)) (EvIt.list hF (.name (i := 3) hF rfl rfl)) (by show compOK (scopeOf (stAt 23)) _ _ _ _ = true; decide +kernel) (Caps.cons (i := 2) rfl rfl .nil) (fun _ h => nomatch h) rfl (by show 2 ≤ 1000; decide) rfl ?_) ?_
  · intro C D acc ok k d r hd hr
    obtain ⟨z, hz, rfl, rfl⟩ : ∃ z, PathOK z ∧ d = strD (Txt.split z "/") ∧ r = some (strD (keepL (Txt.split z "/"))) := match k, hd, hr with
      | 0, hd, hr => ⟨p, hp, (Option.some.inj hd).symm, (Option.some.inj hr).symm⟩
      | 1, hd, hr => ⟨q, hq, (Option.some.inj hd).symm, (Option.some.inj hr).symm⟩
      | k + 2, hd, _ => by cases hd
    refine ⟨[.imm (strD (Txt.split z "/"))], rfl, .name (i := 0) ok rfl (Nat.lt_of_sub_pos (by decide : 0 < 1 - 0)), .nil, ?_⟩
    refine Ev.comp1 ((Txt.split z "/").map fun c : Str => if ((c.length : Int) != 0 && c != ("." : Str)) = true then some (.str c) else none) ((keepL (Txt.split z "/")).map .str) ["c"] ["curdir"] [] ok (EvIt.list ok (.name (i := 0) ok rfl rfl)) (by show compOK (relS _ (scopeOf (stAt 23))) _ _ _ _ = true; decide +kernel) (Caps.cons (i := 1) rfl rfl .nil) (fun _ h => nomatch h) (by simp) (by rw [List.length_map]; have := hz.sp; lia) ?_ ?_
    · unfold keepL
      rw [List.filterMap_map]
      generalize Txt.split z "/" = l
      induction l with
      | nil => rfl
      | cons a r ih =>
        rw [List.filterMap_cons, List.filter_cons]
        by_cases ha : ((a.length : Int) != 0 && a != ("." : Str)) = true
        · simp only [Function.comp, ha, if_true, id, List.map_cons]
          exact congrArg (_ :: ·) ih
        · simp only [Function.comp, ha, if_false, id, Bool.false_eq_true]
          exact ih
    · intro C2 D2 acc2 ok2 k2 d2 r2 hd2 hr2
      rw [List.getElem?_map] at hd2 hr2
      obtain ⟨c, hc, rfl⟩ := Option.map_eq_some_iff.mp hd2
      rw [hc] at hr2
      have hr3 : (if ((c.length : Int) != 0 && c != ("." : Str)) = true then some (Dt.str c) else none) = r2 := Option.some.inj hr2
      subst hr3
      have hcl := hz.el c (List.mem_of_getElem? hc)
      refine ⟨[.imm (.str c)], rfl, .name (i := 0) ok2 rfl (Nat.lt_of_sub_pos (by decide : 0 < 1 - 0)), ?_⟩
      cases h1 : ((c.length : Int) != 0) with
      | false =>
        rw [Bool.false_and, if_neg Bool.false_ne_true]
        exact .one (Tr.and_false ((Tr.val (.name (i := 0) ok2 rfl rfl) (truth_str c (small_lt (by lia)))).as h1))
      | true =>
        rw [Bool.true_and]
        cases h2 : (c != ("." : Str)) with
        | false =>
          rw [if_neg Bool.false_ne_true]
          exact .one (Tr.and_true ((Tr.val (.name (i := 0) ok2 rfl rfl) (truth_str c (small_lt (by lia)))).as h1) (Tr.and_false ((Tr.cmp (.name (i := 0) ok2 rfl rfl) (.name (i := 1) ok2 rfl rfl) (cmp_ne_str c ".")).as h2)))
        | true =>
          rw [if_pos rfl]
          exact ⟨.one (Tr.and_true ((Tr.val (.name (i := 0) ok2 rfl rfl) (truth_str c (small_lt (by lia)))).as h1) (Tr.and_true ((Tr.cmp (.name (i := 0) ok2 rfl rfl) (.name (i := 1) ok2 rfl rfl) (cmp_ne_str c ".")).as h2) .and_nil)), .name (i := 0) ok2 rfl rfl⟩
  -- the least and the greatest
  have hle : ∀ z, PathOK z → (keepL (Txt.split z "/")).length ≤ 100 ∧ ∀ c ∈ keepL (Txt.split z "/"), c.length ≤ 100 := fun z hz => ⟨Nat.le_trans (List.length_filter_le _ _) hz.sp, fun c hc => hz.el c (List.mem_filter.mp hc).1⟩
  obtain ⟨s1, s2, e1, e2, hlt, hcm, hb1, hbc⟩ : ∃ s1 s2 : List Str, (if ltL (keepL (Txt.split q "/")) (keepL (Txt.split p "/")) then strD (keepL (Txt.split q "/")) else strD (keepL (Txt.split p "/"))) = strD s1 ∧ (if ltL (keepL (Txt.split p "/")) (keepL (Txt.split q "/")) then strD (keepL (Txt.split q "/")) else strD (keepL (Txt.split p "/"))) = strD s2 ∧ ltL s2 s1 = false ∧ comL s1 s2 = comL (keepL (Txt.split p "/")) (keepL (Txt.split q "/")) ∧ s1.length ≤ 100 ∧ ∀ c ∈ s1, c.length ≤ 100 := by
    obtain ⟨a1, a2⟩ := hle p hp
    obtain ⟨b1, b2⟩ := hle q hq
    generalize keepL (Txt.split p "/") = a at *
    generalize keepL (Txt.split q "/") = b at *
    cases h1 : ltL b a with
    | true =>
      have h2 := ltL_asym h1
      exact ⟨b, a, rfl, by rw [h2]; rfl, h2, comL_comm b a, b1, b2⟩
    | false =>
      cases h2 : ltL a b with
      | true => exact ⟨a, b, rfl, rfl, h1, rfl, a1, a2⟩
      | false =>
        have := ltL_tri h1 h2
        subst this
        exact ⟨_, _, rfl, rfl, h1, rfl, b1, b2⟩
  have hun := hF.units
  have hun' : A.units + 3 < cLine := by have : A.units + 8 * 2 < cLine := hun; lia
  refine Ex.seq (ρ' := [.imm (.tup [.str p, .str q]), .imm (.str "/"), .imm (.str "."), .imm (.list [strD (keepL (Txt.split p "/")), strD (keepL (Txt.split q "/"))]), .imm (.bool true), .imm (strD s1), .unk, .unk, .unk, .unk, .unk]) (Ex1.assign (i := 5) (d := strD s1) hF rfl (Nat.lt_of_sub_pos (by decide : 0 < 11 - 5)) (e1 ▸ Ev.call (j := 5) hF rfl (.cons (.name (i := 3) hF rfl rfl) .nil) (call_minL _ _ (hF.hand rfl) hun'))) ?_
  refine Ex.seq (ρ' := [.imm (.tup [.str p, .str q]), .imm (.str "/"), .imm (.str "."), .imm (.list [strD (keepL (Txt.split p "/")), strD (keepL (Txt.split q "/"))]), .imm (.bool true), .imm (strD s1), .imm (strD s2), .unk, .unk, .unk, .unk]) (Ex1.assign (i := 6) (d := strD s2) hF rfl (Nat.lt_of_sub_pos (by decide : 0 < 11 - 6)) (e2 ▸ Ev.call (j := 6) hF rfl (.cons (.name (i := 3) hF rfl rfl) .nil) (call_maxL _ _ (hF.hand rfl) hun'))) ?_
  refine Ex.seq (Ex1.assign (i := 7) hF rfl (Nat.lt_of_sub_pos (by decide : 0 < 11 - 7)) (.name (i := 5) hF rfl rfl)) ?_
  -- the common parts
  obtain ⟨t1, t2, t3, t4⟩ := comL_spec s1 s2 hlt
  have hend : (comL s1 s2).length = s1.length → comL s1 s2 = s1 := fun h => by rw [t1, h, List.take_length]
  refine Ex.cons (Φ := fun fl _ => fl = .ret (.str (commonS p q))) (Ex1.for_brk (Φ := fun fl r => fl = .next ∧ Wk r [.imm (.tup [.str p, .str q]), .imm (.str "/"), .imm (.str "."), .imm (.list [strD (keepL (Txt.split p "/")), strD (keepL (Txt.split q "/"))]), .imm (.bool true), .imm (strD s1), .imm (strD s2), .imm (strD (comL s1 s2)), .unk, .unk, .unk])
    (I := fun _ => [.imm (.tup [.str p, .str q]), .imm (.str "/"), .imm (.str "."), .imm (.list [strD (keepL (Txt.split p "/")), strD (keepL (Txt.split q "/"))]), .imm (.bool true), .imm (strD s1), .imm (strD s2), .imm (strD s1), .unk, .unk, .unk]) (m := (comL s1 s2).length)
    (EvIt.enum (j := 7) hF rfl (.name (i := 5) hF rfl rfl)) rfl (fun k d hd hk => ?_) (by rw [enumD_len, List.length_map]; exact t2) (fun h => ?_)) fun fl r ⟨e, w⟩ => ?_
  · obtain ⟨d', h1, rfl⟩ := enumD_get 0 _ k d hd
    rw [List.getElem?_map] at h1
    obtain ⟨x, hx, rfl⟩ := Option.map_eq_some_iff.mp h1
    have hkl : k < s1.length := (List.getElem?_eq_some_iff.mp hx).1
    have hit : ∀ y, s2[k]? = some y → ItemOK G A (strD s2) (.int ((0 + k : Nat) : Int)) (.str y) := fun y hy => item_list _ _ _ (by lia) (by have := hb1; lia) (by
      rw [Int.toNat_natCast, Nat.zero_add, List.getElem?_map, hy]; rfl)
    refine ⟨_, .tup hF (.cons (.name (i := 8) hF rfl (Nat.lt_of_sub_pos (by decide : 0 < 11 - 8))) (.cons (.name (i := 9) hF rfl (Nat.lt_of_sub_pos (by decide : 0 < 11 - 9))) .nil)), ?_⟩
    by_cases hlt' : k < (comL s1 s2).length
    · have hy := (t3 k hlt').trans hx
      exact Ex.if_false ((Tr.cmp (.name (i := 9) hF rfl rfl) (Ev.item list_getitem_lookup (.name (i := 6) hF rfl rfl) (.name (i := 8) hF rfl rfl) (hit x hy)) (cmp_ne_str x x)).as (bne_self_eq_false x)) (Ex.nil (Ex.nil ⟨hlt', .keep (.keep (.keep (.keep (.keep (.keep (.keep (.keep (.drop (.drop (.keep .nil))))))))))⟩))
    · have hkm : (comL s1 s2).length = k := by lia
      obtain ⟨y, hy, hne⟩ := t4 (by lia)
      rw [hkm] at hy hne
      rw [hx] at hne
      refine Ex.if_true ((Tr.cmp (.name (i := 9) hF rfl rfl) (Ev.item list_getitem_lookup (.name (i := 6) hF rfl rfl) (.name (i := 8) hF rfl rfl) (hit y hy)) (cmp_ne_str x y)).as (bne_iff_ne.mpr fun e => hne (congrArg _ e))) ?_
      refine Ex.seq (Ex1.assign (i := 7) (d := strD (comL s1 s2)) hF rfl (Nat.lt_of_sub_pos (by decide : 0 < 11 - 7)) (Ev.slice (.name (i := 5) hF rfl rfl) .none (.some (.name (i := 8) hF rfl rfl)) .none (by decide) (by rw [List.length_map]; exact small_lt (by lia)) ?_)) (Ex.brk ⟨rfl, .keep (.keep (.keep (.keep (.keep (.keep (.keep (.keep (.drop (.drop (.keep .nil))))))))))⟩)
      rw [Nat.zero_add, sliceD_upto, t1, hkm, List.map_take]
  · rw [enumD_len, List.length_map] at h
    exact ⟨rfl, by rw [hend h]; exact .refl _⟩
  · subst e
    refine Ex.weak w ?_
    refine Ex.seq (Ex1.assign (i := 10) hF rfl (Nat.lt_of_sub_pos (by decide : 0 < 11 - 10)) (Ev.ifexp_true (Tr.val (.name (i := 4) hF rfl rfl) (truth_bool true)) (.name (i := 1) hF rfl rfl))) ?_
    have hsum : ∀ (l : List Str), (∀ c ∈ l, c.length ≤ 100) → (l.map (·.length)).sum ≤ 100 * l.length := by
      intro l
      induction l with
      | nil => intro _; exact Nat.le_refl _
      | cons a r ih =>
        intro h
        rw [List.map_cons, List.sum_cons, List.length_cons]
        have := ih fun c hc => h c (List.mem_cons_of_mem _ hc)
        have := h a List.mem_cons_self
        lia
    have hcl := comL_le s1 s2
    have hs := hsum (comL s1 s2) fun c hc => hbc c (comL_mem hc)
    have hj : JoinOk "/" (comL s1 s2) = true := joinOk_of_weight (by lia) (by decide)
    have hjl := StrLaws.join_length_le "/" (comL s1 s2)
    have h1 : ("/" : Str).length = 1 := rfl
    rw [h1] at hjl
    have hjl : (Txt.join "/" (comL s1 s2)).length ≤ ((comL s1 s2).map (·.length)).sum + (comL s1 s2).length * 1 := Nat.le_trans (Nat.le_of_eq (congrArg Str.length (StrLaws.glued_eq_join "/" (comL s1 s2)))) hjl
    refine Ex.ret (Ev.bin (.name (i := 10) hF rfl rfl) (Ev.meth PySem.F.plainAttrs_str PySem.F.slot_str_join PySem.F.type_str_join (.name (i := 1) hF rfl rfl) (.cons (.name (i := 7) hF rfl rfl) .nil) (call_join "/" (comL s1 s2) hj)) (bin_add_str "/" _ (by rw [sizeLine_eq, h1]; lia))) ?_
    unfold commonS
    rw [hcm]
end
end Mine
end

section
open PySem PySem.Calls PyProof.Rows PySem.W
namespace Mine
section
variable {G : GC} {A : Around}
theorem numAt_eqA (xs : Array (Int × Tok)) (i : Nat) : numAt xs i = (xs.toList.map (·.1)).getD i 0 := by
  have := Mine.numAt_eq xs.toList i
  rw [Array.toArray_toList] at this
  rw [this, List.getD_eq_getElem?_getD]
theorem call_minI (ns : List Int) (M : Int) (hh : A.handled = none) (hM : M ∈ ns) (hle : ∀ a ∈ ns, M ≤ a) : CallOK G A (.builtin "min") [.list (ns.map .int)] (.int M) := fun X s vs st _ dm h1 _ _ hq => by
  obtain ⟨v, rfl, k1⟩ := h1.one
  obtain ⟨L, ws, rfl, _, hL, R⟩ := k1.list'
  have hi := R.intsAre
  obtain ⟨xs, e⟩ := hi.allInts.items
  have hns : ns = xs.toList.map (·.1) := by rw [← hi.numsOf, ← nums_intItems, ← e]
  have hsz : 0 < xs.size := by
    have := List.length_pos_of_mem hM
    rwa [hns, List.length_map, Array.length_toList] at this
  have hl := hL.isList
  rw [e] at hl
  refine min_intList hh hl hsz fun v h' tk hv hk => ?_
  obtain ⟨t, rfl⟩ := intItems_at hv
  obtain ⟨h1, h2⟩ := argBest_lt (numAt xs) (xs.size - 1)
  have hin : numAt xs (argBest (fun i j => decide (numAt xs i < numAt xs j)) (xs.size - 1)) ∈ ns := by
    rw [hns, numAt_eqA]; exact getD_mem (by rw [List.length_map, Array.length_toList]; lia)
  have hmin : ∀ a ∈ ns, numAt xs (argBest (fun i j => decide (numAt xs i < numAt xs j)) (xs.size - 1)) ≤ a := fun a ha => by
    rw [hns] at ha
    obtain ⟨j, hj, rfl⟩ := mem_getD ha
    rw [List.length_map, Array.length_toList] at hj
    rw [← numAt_eqA]; exact h2 j (by lia)
  have : numAt xs (argBest (fun i j => decide (numAt xs i < numAt xs j)) (xs.size - 1)) = M := Int.le_antisymm (hmin M hM) (hle _ hin)
  rw [this]
  exact hq _ h' tk (.of_keep st hk) (.int _ _)
theorem call_maxI (ns : List Int) (M : Int) (hh : A.handled = none) (hM : M ∈ ns) (hle : ∀ a ∈ ns, a ≤ M) : CallOK G A (.builtin "max") [.list (ns.map .int)] (.int M) := fun X s vs st _ dm h1 _ _ hq => by
  obtain ⟨v, rfl, k1⟩ := h1.one
  obtain ⟨L, ws, rfl, _, hL, R⟩ := k1.list'
  have hi := R.intsAre
  obtain ⟨xs, e⟩ := hi.allInts.items
  have hns : ns = xs.toList.map (·.1) := by rw [← hi.numsOf, ← nums_intItems, ← e]
  have hsz : 0 < xs.size := by
    have := List.length_pos_of_mem hM
    rwa [hns, List.length_map, Array.length_toList] at this
  have hl := hL.isList
  rw [e] at hl
  refine max_intList hh hl hsz fun v h' tk hv hk => ?_
  obtain ⟨t, rfl⟩ := intItems_at hv
  obtain ⟨h1, h2⟩ := argBest_gt (numAt xs) (xs.size - 1)
  have hin : numAt xs (argBest (fun i j => decide (numAt xs i > numAt xs j)) (xs.size - 1)) ∈ ns := by
    rw [hns, numAt_eqA]; exact getD_mem (by rw [List.length_map, Array.length_toList]; lia)
  have hmin : ∀ a ∈ ns, a ≤ numAt xs (argBest (fun i j => decide (numAt xs i > numAt xs j)) (xs.size - 1)) := fun a ha => by
    rw [hns] at ha
    obtain ⟨j, hj, rfl⟩ := mem_getD ha
    rw [List.length_map, Array.length_toList] at hj
    rw [← numAt_eqA]; exact h2 j (by lia)
  have : numAt xs (argBest (fun i j => decide (numAt xs i > numAt xs j)) (xs.size - 1)) = M := Int.le_antisymm (hle _ hin) (hmin M hM)
  rw [this]
  exact hq _ h' tk (.of_keep st hk) (.int _ _)
end
section
variable {F : FC} {ρ : List Sl} {n : Nat}
theorem ev_and2 {e1 e2 : PySem.Expr} {pos : Pos} {d : Dt} (h1 : Ev F ρ e1 (.bool true)) (h2 : Ev F ρ e2 d) : Ev F ρ (.BoolOp .And [e1, e2] pos) d := by
  intro s X Q E hq
  refine BoolOp_and (h1 s X _ _ fun v h' tk' g r => ?_)
  obtain rfl := r.bool'
  refine wpAny_truthy_bool ?_
  rw [if_pos rfl]
  exact BoolOp_one (h2 { s with heap := h', toks := tk' } (X.grow g) _ _ fun v2 h2' tk2 g2 r2 => hq v2 h2' tk2 (g.trans g2) r2)
/-- a comprehension's inner clause -/
theorem InT.inner {elt target iter target2 iter2 : PySem.Expr} {scope : Scope} {pos : Pos} {ds : List Dt} {any : Bool} {D : Addr} {J : Nat → List Sl} (hi : EvIt F (J 0) iter2 ds any) (ha : (any || isTupE target2) = true)
    (hb : ∀ j e, ds[j]? = some e → ∃ ρ', Tgt F target2 e (J j) ρ' ∧ ∃ r, InT F ρ' r (compEmit elt (.ref D) F.env) ∧ Wk r (J (j + 1))) (hs : ∀ x, foldedSetIterable iter2 F.env x = pure x := by intro _; rfl) :
    InT F (J 0) (J ds.length) (compIn (.ListComp elt [⟨target, iter, [], 0⟩, ⟨target2, iter2, [], 0⟩] scope pos) iter2 1 (.ref D) F.env) := by
  intro s X c Q E hq
  unfold compIn
  refine wpAny_bind (wpAny_mono (hi s X (fun it s2 => wpAny (model F.G.prog F.G.w) F.A (do let _ ← runOwn (.compStart (.ListComp elt [⟨target, iter, [], 0⟩, ⟨target2, iter2, [], 0⟩] scope pos) 1 it (.ref D) F.env) F.env; again c) Q E s2) E fun it h₂ tk₂ wr St g₂ ok st₂ hw => ?_) (fun x s₁ h => wpAny_bind (wpAny_standAt (wpAny_bind (wpAny_of_eq (hs x) (wpAny_bind (wpAny_holding h)))))) fun _ _ e => e)
  have B : LBase F s.heap h₂ it wr St ds any (J 0) := .of X g₂ ok st₂ hw
  refine wpAny_bind (wpAny_runOwn (compStart_in ?_ fun Q' E' hq' => ok.self (F.X (J 0)) _ ds _ _ st₂ hq'))
  refine comp_loop (s := s) (T := compEmit elt (.ref D) F.env) (compTurn_21 ..) B ha (fun k d hd => ?_) fun h' tk' X' S' => ?_
  · obtain ⟨ρ', ht, r, hin, w⟩ := hb k d hd
    exact ⟨ρ', ht, true, .nil, r, hin, w⟩
  · exact wpAny_pure (hq h' tk' X' S')
end
end Mine
end

section
set_option maxHeartbeats 4000000
open PySem PySem.Calls PyProof.Rows PySem.W
namespace Mine
/-! law -/
noncomputable def numsOf (script : List Int) : List Int := (((script.take 6).map fun c : Int => c.fmod 1000000) ++ [1, 5, 9, 2, 39, 7]).take 6
noncomputable def pathN (n : Int) : Str := pathOf (namesOf n)
/-- a file's folder and all above it -/
noncomputable def lineW (names : List Str) : List Str := (List.range names.length).map fun k => textOf "" (names.take (k + 1))
noncomputable def lineN (n : Int) : List Str := lineW (namesOf n)
/-- the ways to put six in pairs -/
noncomputable def pairsN : Nat → List Nat → List (List (Nat × Nat))
  | 0, _ => [[]]
  | k + 1, spots => if spots = [] then [[]] else spots.dropLast.flatMap fun low => (pairsN k (spots.dropLast.filter fun s => s != low)).map fun ps => (low, spots.getLastD 0) :: ps
noncomputable def rows15 : List (List (Nat × Nat)) := pairsN 3 [0, 1, 2, 3, 4, 5]
noncomputable def rowD (r : List (Nat × Nat)) : List Dt := r.map fun p => .tup [.int p.1, .int p.2]
theorem rows_eq : pairRows 3 [0, 1, 2, 3, 4, 5] = rows15.map rowD := by kernel_rfl
noncomputable def stepsR (ways : Nat → Nat → List Str) (r : List (Nat × Nat)) : List Str := r.flatMap fun p => (ways p.2 p.1).dropLast
noncomputable def meetsR (ways : Nat → Nat → List Str) (r : List (Nat × Nat)) : List Str := match r with
  | [a, b, c] => (ways a.2 a.1).filter fun x => (ways b.2 b.1).any (· == x) && (ways c.2 c.1).any (· == x)
  | _ => []
noncomputable def oddTexts (ns : List Int) : List Str := ((countsOf ns).filter fun p => decide (p.2.fmod 2 = 1)).map (·.1)
noncomputable def lesser (k : Int) : Int := if 6 - k < k then 6 - k else k
/-- what the plain law says -/
structure LawP (G : GC) (ns : List Int) (odd : List Str) (ways : Nat → Nat → List Str) (most : Int) : Prop where
  path : ∀ n ∈ ns, pathN n = "/" ++ Txt.join "/" (namesOf n) ∧ JoinOk "/" (namesOf n) = true ∧ (Txt.join "/" (namesOf n)).length ≤ 100 ∧ PathOK (pathN n) ∧ PyData.strOk (pathN n) = true
  line : ∀ n ∈ ns, FnOK G 3 (.ref 214) [.str (pathN n)] (strD (lineN n))
  folded : FnOK G 3 (.ref 242) [.list (ns.map fun n => strD (lineN n))] (strD odd)
  oddlen : odd.length ≤ 30
  oddok : ∀ x ∈ odd, PyData.strOk x = true
  sorted : (oddTexts ns).length < 64 ∧ ∀ l' : List Str, l'.Perm (oddTexts ns) → sortedS l' = true → l' = odd
  way : ∀ low high a b, low < high → ns[low]? = some a → ns[high]? = some b → FnOK G 9 (.ref 235) [strD (lineN a), strD (lineN b), .str (commonS (pathN a) (pathN b))] (strD (ways high low))
  wayne : ∀ low high, low < high → high < 6 → ways high low ≠ [] ∧ (ways high low).length ≤ 10 ∧ ∀ x ∈ ways high low, PyData.strOk x = true
  keys : ((countsOf ns).map (·.1)).Nodup
  mostv : ((countsOf ns).map fun p => lesser p.2).sum = most ∧ ∀ p ∈ countsOf ns, 0 ≤ lesser p.2 ∧ lesser p.2 ≤ 1000
  each : ∀ r ∈ rows15, (uld odd.reverse (stepsR ways r)).1 = [] ∧ (uld odd.reverse (stepsR ways r)).2 = overS (stepsR ways r) odd 0 (stepsR ways r) ∧ (overS (stepsR ways r) odd 0 (stepsR ways r)).length < 64 ∧ okS (overS (stepsR ways r) odd 0 (stepsR ways r)) ∧
    (∃ tw : List Str, (∀ l' : List Str, l'.Perm (overS (stepsR ways r) odd 0 (stepsR ways r)) → sortedS l' = true → l' = tw) ∧ tw.length ≤ 64 ∧ okS tw ∧ sliceD tw none none (some 2) = sliceD tw (some 1) none (some 2)) ∧ ((meetsR ways r = []) ↔ ¬ ((stepsR ways r).length : Int) = most)
  least : (odd.length : Int) ∈ rows15.map (fun r => ((stepsR ways r).length : Int)) ∧ ∀ r ∈ rows15, (odd.length : Int) ≤ (stepsR ways r).length
  greatest : most ∈ rows15.map (fun r => ((stepsR ways r).length : Int)) ∧ ∀ r ∈ rows15, ((stepsR ways r).length : Int) ≤ most
noncomputable abbrev lawNames : List Str := ["script", "numbers", "paths", "counts", "lines", "odd", "ways", "most", "totals", "pairs", "steps", "lacking", "over", "twice", "first", "second", "third", "meets"]
noncomputable abbrev lawGls : List (Str × Value) := [("_law_paths", .ref 207), ("_law_counts", .ref 221), ("_law_folded", .ref 242), ("sorted", .builtin "sorted"), ("range", .type "range"), ("sum", .builtin "sum"), ("_law_pairings", .ref 247), ("list", .type "list"), ("unorderable_list_difference", .ref 35), ("_law_over", .ref 252), ("len", .builtin "len"), ("min", .builtin "min"), ("max", .builtin "max")]
end Mine
end

section
open PySem PySem.Calls PyProof.Rows PySem.W
namespace Mine
section
variable {F : FC} {ρ : List Sl} {n : Nat} {scope : Scope} {xs caps : List Str} {gl : List (Str × Value)}
theorem cset_wk2 {sl2 sl : List Sl} (h : Wk sl2 sl) (cs : List Dt) (D : Addr) (out : List Dt) : Wk (cset sl2 cs D out) (cset sl cs D out) := by
  unfold cset; exact (h.append _).append _
/-- what a comprehension of two clauses does with an outer item -/
noncomputable def Comp2Body (F : FC) (xs : List Str) (cs : List Dt) (target target2 elt iter2 : PySem.Expr) (D : Addr) (d : Dt) (o : List Dt) : Prop :=
  ∃ (sl : List Sl) (es : List Dt) (any2 : Bool), sl.length = xs.length ∧ (∀ acc, Tgt F target d (cst xs cs D acc) (cset sl cs D acc)) ∧ (any2 || isTupE target2) = true ∧ es.length = o.length ∧ (∀ acc, EvIt F (cset sl cs D acc) iter2 es any2) ∧
    ∀ (j : Nat) (e v : Dt), es[j]? = some e → o[j]? = some v → ∃ sl2 : List Sl, sl2.length = xs.length ∧ Wk sl2 sl ∧ ∀ acc, Tgt F target2 e (cset sl cs D acc) (cset sl2 cs D acc) ∧ Ev F (cset sl2 cs D acc) elt v
theorem comp2_hb {elt target iter target2 iter2 : PySem.Expr} {pos : Pos} {ds : List Dt} {cs : List Dt} {outs : List (List Dt)} (hcl : caps.length = cs.length) (hlen : outs.length = ds.length) (hsz : outs.flatten.length ≤ 1000)
    (hb : ∀ C D, (F.comp ρ scope C xs caps gl).Ok n → ∀ (k : Nat) (d : Dt) (o : List Dt), ds[k]? = some d → outs[k]? = some o → Comp2Body (F.comp ρ scope C xs caps gl) xs cs target target2 elt iter2 D d o)
    (hs2 : ∀ (env : Env) x, foldedSetIterable iter2 env x = pure x) :
    ∀ C D, (F.comp ρ scope C xs caps gl).Ok n → ∀ k d, ds[k]? = some d → ∃ ρ', Tgt (F.comp ρ scope C xs caps gl) target d (cst xs cs D (outs.take k).flatten) ρ' ∧ ∃ b, TrAll (F.comp ρ scope C xs caps gl) ρ' [] b ∧
      if b then ∃ r, InT (F.comp ρ scope C xs caps gl) ρ' r (compIn (.ListComp elt [⟨target, iter, [], 0⟩, ⟨target2, iter2, [], 0⟩] scope pos) iter2 1 (.ref D) (F.comp ρ scope C xs caps gl).env) ∧ Wk r (cst xs cs D (outs.take (k + 1)).flatten) else Wk ρ' (cst xs cs D (outs.take (k + 1)).flatten) := by
  intro C D ok k d hd
  have hk : k < outs.length := by rw [hlen]; exact (List.getElem?_eq_some_iff.mp hd).1
  obtain ⟨sl, es, any2, hsl, ht, ha2, hel, hit, hbd⟩ := hb C D ok k d outs[k] hd (List.getElem?_eq_getElem hk)
  refine ⟨cset sl cs D (outs.take k).flatten, ht _, true, .nil, ?_⟩
  rw [if_pos rfl]
  refine ⟨cset sl cs D ((outs.take k).flatten ++ outs[k].take es.length), ?_, ?_⟩
  · have e0 : cset sl cs D (outs.take k).flatten = cset sl cs D ((outs.take k).flatten ++ outs[k].take 0) := by rw [List.take_zero, List.append_nil]
    rw [e0]
    refine InT.inner (J := fun j => cset sl cs D ((outs.take k).flatten ++ outs[k].take j)) (ds := es) (by simpa using hit _) ha2 (fun j e he => ?_) (hs2 _)
    have hj : j < outs[k].length := by rw [← hel]; exact (List.getElem?_eq_some_iff.mp he).1
    obtain ⟨sl2, hsl2, w, h2⟩ := hbd j e outs[k][j] he (List.getElem?_eq_getElem hj)
    obtain ⟨t2, hv⟩ := h2 ((outs.take k).flatten ++ outs[k].take j)
    refine ⟨_, t2, _, InT.emit (i := sl2.length + cs.length) (x := "") ?_ (cset_acc sl2 cs D _) hv ?_, ?_⟩
    · show (xs ++ caps ++ [("" : Str)])[sl2.length + cs.length]? = some ""
      have := hcl
      rw [List.getElem?_append_right (by simp [hsl2, this])]
      simp [hsl2, this]
    · have h1 : ((outs.take k).flatten ++ outs[k].take j).length ≤ outs.flatten.length := by
        have e : outs = outs.take k ++ (outs[k] :: outs.drop (k + 1)) := by rw [← List.drop_eq_getElem_cons hk, List.take_append_drop]
        have e2 : outs.flatten = (outs.take k).flatten ++ (outs[k] ++ (outs.drop (k + 1)).flatten) := by
          conv => lhs; rw [e]
          rw [List.flatten_append, List.flatten_cons]
        rw [e2, List.length_append, List.length_append, List.length_append, List.length_take]
        lia
      rw [sizeLine_eq]; lia
    · rw [cset_set]
      have e : ((outs.take k).flatten ++ outs[k].take j) ++ [outs[k][j]] = (outs.take k).flatten ++ outs[k].take (j + 1) := by
        rw [List.append_assoc, List.take_add_one, List.getElem?_eq_getElem hj]; rfl
      rw [e]
      exact cset_wk2 w cs D _
  · have e : (outs.take (k + 1)).flatten = (outs.take k).flatten ++ outs[k].take es.length := by
      rw [List.take_add_one, List.getElem?_eq_getElem hk, List.flatten_append, hel, List.take_length]; simp
    show Wk _ (cst xs cs D (outs.take (k + 1)).flatten)
    rw [e]
    exact cset_wk hsl cs D _
theorem ev_comp2 {elt target iter target2 iter2 : PySem.Expr} {pos : Pos} {ds : List Dt} {any : Bool} {cs : List Dt} (outs : List (List Dt)) (out : List Dt) (xs caps : List Str) (gl : List (Str × Value)) (hF : F.Ok n) (hi : EvIt F ρ iter ds any) (hK : compOK F.sc scope xs caps gl = true) (hc : Caps F ρ caps cs) (hgl : ∀ p ∈ gl, GlOK F.G p)
    (hlen : outs.length = ds.length) (hsz : outs.flatten.length ≤ 1000) (hout : outs.flatten = out)
    (hb : ∀ C D, (F.comp ρ scope C xs caps gl).Ok n → ∀ (k : Nat) (d : Dt) (o : List Dt), ds[k]? = some d → outs[k]? = some o → Comp2Body (F.comp ρ scope C xs caps gl) xs cs target target2 elt iter2 D d o)
    (ha : (any || isTupE target) = true := by rfl) (hs : ∀ x, foldedSetIterable iter F.env x = pure x := by intro _; rfl) (hs2 : ∀ (env : Env) x, foldedSetIterable iter2 env x = pure x := by intro _ _; rfl) :
    Ev F ρ (.ListComp elt [⟨target, iter, [], 0⟩, ⟨target2, iter2, [], 0⟩] scope pos) (.list out) := by
  subst hout
  exact Ev.comp (rest := [⟨target2, iter2, [], 0⟩]) (T := fun D env => compIn (.ListComp elt [⟨target, iter, [], 0⟩, ⟨target2, iter2, [], 0⟩] scope pos) iter2 1 (.ref D) env) (fun D k => cst xs cs D (outs.take k).flatten) hF hi ha hK hc hgl (fun it D env => compTurn_20 ..) (fun D => rfl) (fun D => by rw [← hlen, List.take_length]) (comp2_hb hc.1 hlen hsz hb hs2) hs
theorem ex1_assign_comp2 {Θ : String → List Sl → Prop} {i : Nat} {x : Str} {np spos : Pos} {elt target iter target2 iter2 : PySem.Expr} {pos : Pos} {ds : List Dt} {any : Bool} {cs : List Dt} (outs : List (List Dt)) (out : List Dt) (xs caps : List Str) (gl : List (Str × Value)) (hF : F.Ok n) (hx : F.names[i]? = some x) (hio : i < F.own)
    (hsw : swapsWith (.ListComp elt [⟨target, iter, [], 0⟩, ⟨target2, iter2, [], 0⟩] scope pos) (some (.Name x np)) spos.line F.env = pure true) (hi : EvIt F ρ iter ds any) (hK : compOK F.sc scope xs caps gl = true) (hc : Caps F ρ caps cs) (hgl : ∀ p ∈ gl, GlOK F.G p)
    (hlen : outs.length = ds.length) (hsz : outs.flatten.length ≤ 1000) (hout : outs.flatten = out)
    (hb : ∀ C D, (F.comp ρ scope C xs caps gl).Ok n → ∀ (k : Nat) (d : Dt) (o : List Dt), ds[k]? = some d → outs[k]? = some o → Comp2Body (F.comp ρ scope C xs caps gl) xs cs target target2 elt iter2 D d o)
    (ha : (any || isTupE target) = true := by rfl) (hs : ∀ x, foldedSetIterable iter F.env x = pure x := by intro _; rfl) (hs2 : ∀ (env : Env) x, foldedSetIterable iter2 env x = pure x := by intro _ _; rfl) :
    Ex1 F ρ (.Assign [.Name x np] (.ListComp elt [⟨target, iter, [], 0⟩, ⟨target2, iter2, [], 0⟩] scope pos) spos) (Puts ρ i (.list out)) Θ := by
  subst hout
  exact Ex1.assign_comp (rest := [⟨target2, iter2, [], 0⟩]) (T := fun D env => compIn (.ListComp elt [⟨target, iter, [], 0⟩, ⟨target2, iter2, [], 0⟩] scope pos) iter2 1 (.ref D) env) (fun D k => cst xs cs D (outs.take k).flatten) hF hx hio hsw hi ha hK hc hgl (fun it D env => compTurn_20 ..) (fun D => rfl) (fun D => by rw [← hlen, List.take_length]) (comp2_hb hc.1 hlen hsz hb hs2) hs
end
end Mine
end

section
set_option maxHeartbeats 4000000
open PySem PySem.Calls PyProof.Rows PySem.W
namespace Mine
theorem pure_rows : ∀ L : List (List Str), pureL (L.map strD) = true
  | [] => rfl
  | l :: r => by
    show (pureL (l.map .str) && pureL (r.map strD)) = true
    rw [pure_strs, pure_rows r]; rfl
theorem canLay_rows : ∀ {L : List (List Str)}, (∀ l ∈ L, okS l) → PyData.canLayAll0 (PDL (L.map strD)) = true
  | [], _ => rfl
  | l :: r, h => Bool.and_eq_true_iff.mpr ⟨canLay_strs (h l List.mem_cons_self), canLay_rows fun m hm => h m (List.mem_cons_of_mem _ hm)⟩
theorem any_nil : ∀ L : List (List Str), (PDL (L.map strD)).any (fun y => PyData.eqv y (PD (.list []))) = L.any fun l => l.isEmpty
  | [] => rfl
  | l :: r => by
    show (PyData.eqv (PD (strD l)) (PD (.list [])) || (PDL (r.map strD)).any (fun y => PyData.eqv y (PD (.list [])))) = (l.isEmpty || r.any fun l => l.isEmpty)
    rw [any_nil r]
    cases l <;> rfl
theorem cmp_in_nil {G : GC} {A : Around} (L : List (List Str)) (ho : ∀ l ∈ L, okS l) (hu : A.units + 64 < cLine) : CmpOK G A .In (.list []) (.list (L.map strD)) (L.any fun l => l.isEmpty) := fun X s v u st _ r1 r2 _ _ hq => by
  obtain ⟨as, ra⟩ := r1.reads (d := .list []) rfl
  obtain ⟨bs, rb⟩ := r2.reads (d := .list (L.map strD)) (pure_rows L)
  refine SeqAt.in_list_reads rb ra (canLay_rows ho) rfl ?_ ?_
  · have : min (PyData.depthAll (PDL (L.map strD))) (PyData.depth (PD (.list []))) ≤ PyData.depth (PD (.list [])) := Nat.min_le_right _ _
    have h1 : PyData.depth (PD (.list [])) = 1 := rfl
    lia
  · rw [any_nil]
    exact gives_here st (.bool _) hq
/-- law's statements -/
noncomputable def lawSt (k : Nat) : Stmt := ((Mine.bodyOf (stAt 37))[k]?).getD (.Pass ⟨0, 0, 0, 0⟩)
/-- the six rows of ways -/
noncomputable def waysD (ways : Nat → Nat → List Str) : Dt := .list ((List.range 6).map fun high => .list ((List.range high).map fun low => strD (ways high low)))
section
variable {G : GC} {A : Around} {env : Env} {h0 : Heap}
theorem law_ways (W : Wd G) (hF : (FC.mk G A env lawNames 18 lawGls (scopeOf (stAt 37)) h0 [] []).Ok 10) (ns : List Int) (odd : List Str) (ways : Nat → Nat → List Str) (most : Int) (hp : LawP G ns odd ways most) (hn6 : ns.length = 6) (hnr : ∀ n ∈ ns, 0 ≤ n ∧ n < 1000000) {ρ : List Sl} {Θ : String → List Sl → Prop} (hρ : ρ[2]? = some (.imm (.list (ns.map fun n => .str (pathN n))))) (hρ4 : ρ[4]? = some (.imm (.list (ns.map fun n => strD (lineN n))))) :
    Ex1 (FC.mk G A env lawNames 18 lawGls (scopeOf (stAt 37)) h0 [] []) ρ (lawSt 6) (Puts ρ 6 (waysD ways)) Θ := by
  refine Ex1.assign (i := 6) hF rfl (Nat.lt_of_sub_pos (by decide : 0 < 18 - 6)) (Ev.comp1 ((List.range 6).map fun high => some (.list ((List.range high).map fun low => strD (ways high low)))) ((List.range 6).map fun high => .list ((List.range high).map fun low => strD (ways high low))) ["high"] ["lines", "paths"] [("range", .type "range")] hF (EvIt.range (j := 4) (k := 6) hF rfl .int (by decide)) (by show compOK (scopeOf (stAt 37)) _ _ _ _ = true; decide +kernel) (Caps.cons (i := 4) rfl hρ4 (Caps.cons (i := 2) rfl hρ .nil)) (W.glOK [6]) rfl (by decide) rfl ?_) (hs := swaps_no hF (by show (scopeOf (stAt 37)).names.lookup _ = _; decide +kernel))
  intro C D acc ok high d r hd hr
  have hk : high < 6 := by
    have := (List.getElem?_eq_some_iff.mp hr).1
    simpa using this
  have hd' : d = .int (high : Int) := by
    unfold countD at hd
    rw [List.getElem?_map, List.getElem?_range hk] at hd
    exact (Option.some.inj hd).symm
  have hr' : r = some (.list ((List.range high).map fun low => strD (ways high low))) := by
    rw [List.getElem?_map, List.getElem?_range hk] at hr
    exact (Option.some.inj hr).symm
  subst hd' hr'
  refine ⟨[.imm (.int high)], rfl, .name (i := 0) ok rfl (Nat.lt_of_sub_pos (by decide : 0 < 1 - 0)), .nil, ?_⟩
  refine Ev.comp1 ((List.range high).map fun low => some (strD (ways high low))) ((List.range high).map fun low => strD (ways high low)) ["low"] ["lines", "high", "paths"] [("_law_way", .ref 235), ("commonpath", .ref 176)] ok (EvIt.range (j := 0) (k := high) ok rfl (.name (i := 0) ok rfl rfl) (by lia)) (by show compOK (relS _ (scopeOf (stAt 37))) _ _ _ _ = true; decide +kernel) (Caps.cons (i := 1) rfl rfl (Caps.cons (i := 0) rfl rfl (Caps.cons (i := 2) rfl rfl .nil))) (W.glOK [37, 23]) (by unfold countD; rw [List.length_map, List.length_map]) (by unfold countD; rw [List.length_map, List.length_range]; lia) ?_ ?_
  · rw [List.filterMap_map]
    exact congrFun (List.filterMap_eq_map (f := fun low : Nat => strD (ways high low))) _
  · intro C2 D2 acc2 ok2 low d2 r2 hd2 hr2
    have hlow : low < high := by
      have := (List.getElem?_eq_some_iff.mp hr2).1
      simpa using this
    have hd3 : d2 = .int (low : Int) := by
      unfold countD at hd2
      rw [List.getElem?_map, List.getElem?_range hlow] at hd2
      exact (Option.some.inj hd2).symm
    have hr3 : r2 = some (strD (ways high low)) := by
      rw [List.getElem?_map, List.getElem?_range hlow] at hr2
      exact (Option.some.inj hr2).symm
    subst hd3 hr3
    refine ⟨[.imm (.int low)], rfl, .name (i := 0) ok2 rfl (Nat.lt_of_sub_pos (by decide : 0 < 1 - 0)), .nil, ?_⟩
    obtain ⟨a, ha⟩ : ∃ a, ns[low]? = some a := ⟨_, List.getElem?_eq_getElem (by lia)⟩
    obtain ⟨b, hb⟩ : ∃ b, ns[high]? = some b := ⟨_, List.getElem?_eq_getElem (by lia)⟩
    have it : ∀ (f : Int → Dt) (k : Nat) (c : Int), k < 6 → ns[k]? = some c → ItemOK G A (.list (ns.map f)) (.int (k : Int)) (f c) := fun f k c h6 hc => item_list _ _ _ (by lia) (by lia) (by rw [Int.toNat_natCast, List.getElem?_map, hc]; rfl)
    have pa := hp.path a (List.mem_of_getElem? ha)
    have pb := hp.path b (List.mem_of_getElem? hb)
    exact Ev.call (j := 0) ok2 rfl (.cons (Ev.item list_getitem_lookup (.name (i := 1) ok2 rfl rfl) (.name (i := 0) ok2 rfl rfl) (it _ low a (by lia) ha)) (.cons (Ev.item list_getitem_lookup (.name (i := 1) ok2 rfl rfl) (.name (i := 2) ok2 rfl rfl) (it _ high b hk hb)) (.cons
      (Ev.call (j := 1) ok2 rfl (.cons (.list (.cons (Ev.item list_getitem_lookup (.name (i := 3) ok2 rfl rfl) (.name (i := 0) ok2 rfl rfl) (it _ low a (by lia) ha)) (.cons (Ev.item list_getitem_lookup (.name (i := 3) ok2 rfl rfl) (.name (i := 2) ok2 rfl rfl) (it _ high b hk hb)) .nil)) (small_lt (show 2 ≤ 1000 by decide))) .nil) ((commonpath_ok W (pathN a) (pathN b) pa.2.2.2.1 pb.2.2.2.1).use ok2 (by decide))) .nil)))
      ((hp.way low high a b hlow ha hb).use ok2 (by decide))
end
end Mine
end

section
open PySem PySem.Calls PyProof.Rows PySem.W
namespace Mine
theorem rpL_of_get {X : List Addr} {h : Heap} : ∀ {vs : List Value} {ds : List Dt}, vs.length = ds.length → (∀ (j : Nat) (v : Value) (d : Dt), vs[j]? = some v → ds[j]? = some d → Rp X h v d) → RpL X h vs ds
  | [], [], _, _ => .nil
  | v :: vs, d :: ds, hl, hg => .cons (hg 0 v d rfl rfl) (rpL_of_get (by simpa using hl) fun j v d a b => hg (j + 1) v d (by simpa using a) (by simpa using b))
section
variable {F : FC} {ρ : List Sl} {n : Nat}
theorem ev_list_range {j j2 k : Nat} {lf rf : Str} {lp rp p1 p2 : Pos} {e : PySem.Expr} (hF : F.Ok n) (hg : F.gls[j]? = some (lf, .type "list")) (hg2 : F.gls[j2]? = some (rf, .type "range")) (h1 : Ev F ρ e (.int k)) (hk : k ≤ 1000)
    (hs : (starEach [PySem.Expr.Call (.Name rf rp) [e] [] p1] F.env).any (·.1) = false := by rfl) (hb : backTo p2 (starEach [PySem.Expr.Call (.Name rf rp) [e] [] p1] F.env) = [(false, eval (.Call (.Name rf rp) [e] [] p1) F.env)] := by rfl)
    (hs1 : (starEach [e] F.env).any (·.1) = false := by rfl) (hse : starEach [e] F.env = (false, eval e F.env) :: starEach [] F.env := by rfl) (hq0 : F.hd = false := by rfl) :
    Ev F ρ (.Call (.Name lf lp) [.Call (.Name rf rp) [e] [] p1] [] p2) (.list (countD k)) := by
  intro s X Q E hq
  refine wpAny_Call_NameR (name_glob hF hg X.stays ?_)
  refine callWith_of (P := fun h => In F.G h) ?_ (fun h st => (hF.gls _ (List.mem_of_getElem? hg)).2.2.1 _ h st) (evalArgs_any hs ?_)
  · have : (backTo p2 (starEach [PySem.Expr.Call (.Name rf rp) [e] [] p1] F.env)).any (·.1) = (starEach [PySem.Expr.Call (.Name rf rp) [e] [] p1] F.env).any (·.1) := by unfold backTo; rw [List.any_map]; rfl
    rw [this, hs]; rfl
  rw [hb]
  refine Calls.spliced_cons (wpAny_Call_NameR (name_glob hF hg2 X.stays ?_))
  refine callWith_of (P := fun h => True) ?_ (fun h st => ⟨.machine, .inr (.inl rfl), .now⟩) (evalArgs_any hs1 ((EvL.cons h1 .nil hse) s X p1 _ _ fun vs h' tk' g r => ⟨trivial, ?_⟩))
  · have : (backTo p1 (starEach [e] F.env)).any (·.1) = (starEach [e] F.env).any (·.1) := by unfold backTo; rw [List.any_map]; rfl
    rw [this, hs1]; rfl
  obtain ⟨v, rfl, r1⟩ := r.one
  obtain ⟨t1, rfl⟩ := r1.int'
  have hsz : Builtin.Range.rangeSize 0 (k : Int) 1 = k := by
    unfold Builtin.Range.rangeSize
    simp
    lia
  show wpAny _ _ (call (.type "range") [.int (k : Int) t1]) _ _ _
  refine call_range_1 ?_
  have g2 := (g.trans (.push g.stays { cls := .type "range", data := .fields #[.int 0 tk', .int k t1, .int 1 (tk' + 1)] }))
  refine Calls.spliced_nil ⟨g2.stays, ?_⟩
  have X2 := X.grow g2
  refine call_list_range (s := { s with heap := h'.push { cls := .type "range", data := .fields #[.int 0 tk', .int k t1, .int 1 (tk' + 1)] }, toks := _ }) (hF.hand hq0) (IsRange.new ..) ?_ hsz (by lia) fun h2 tk2 acc c keep eL ⟨h3, h4⟩ => ?_
  · unfold Builtin.Range.small
    rw [hsz]
    have f1 : ∀ i : Int, -2000 ≤ i → i ≤ 2000 → Builtin.Range.rangeFitsLong i = true := fun i a b => by
      unfold Builtin.Range.rangeFitsLong
      simp; lia
    simp [f1 0 (by lia) (by lia), f1 1 (by lia) (by lia), f1 k (by lia) (by lia)]
  · have g3 : Grow F.G (h'.push { cls := .type "range", data := .fields #[.int 0 tk', .int k t1, .int 1 (tk' + 1)] }) h2 := .of_keep g2.stays keep
    refine hq _ h2 tk2 (g2.trans g3) (.list (vs := acc.toList) (Dom.fresh X2.dom) ⟨c, by rw [eL]⟩ (rpL_of_get ?_ fun j v d a b => ?_))
    · unfold countD; rw [List.length_map, List.length_range, Array.length_toList, h3]
    · unfold countD at b
      rw [List.getElem?_map] at b
      obtain ⟨i, hi, rfl⟩ := Option.map_eq_some_iff.mp b
      obtain ⟨hlt, rfl⟩ := List.getElem?_eq_some_iff.mp hi
      obtain ⟨t, rfl⟩ := h4 j v (by simpa using a)
      simp
      exact .int _ _
end
end Mine
end

section
set_option maxHeartbeats 4000000
open PySem PySem.Calls PyProof.Rows PySem.W
namespace Mine
noncomputable def allWays (ways : Nat → Nat → List Str) : List (List Str) := ((List.range 6).map fun h => (List.range h).map (ways h)).flatten
section
variable {G : GC} {A : Around} {env : Env} {h0 : Heap}
noncomputable abbrev LF (G : GC) (A : Around) (env : Env) (h0 : Heap) : FC := FC.mk G A env lawNames 18 lawGls (scopeOf (stAt 37)) h0 [] []
theorem allWays_ok {ns : List Int} {odd : List Str} {ways : Nat → Nat → List Str} {most : Int} (hp : LawP G ns odd ways most) : ∀ l ∈ allWays ways, l.isEmpty = false ∧ okS l := fun l hl => by
  unfold allWays at hl
  obtain ⟨r, hr, hl⟩ := List.mem_flatten.mp hl
  obtain ⟨h, hh, rfl⟩ := List.mem_map.mp hr
  obtain ⟨low, hlow, rfl⟩ := List.mem_map.mp hl
  obtain ⟨a, b, c⟩ := hp.wayne low h (List.mem_range.mp hlow) (List.mem_range.mp hh)
  exact ⟨by cases q : ways h low with
    | nil => exact absurd q a
    | cons _ _ => rfl, c⟩
/-- no way is empty -/
theorem law_none (hF : (LF G A env h0).Ok 10) {ns : List Int} {odd : List Str} {ways : Nat → Nat → List Str} {most : Int} (hp : LawP G ns odd ways most) {ρ : List Sl} {Φ : Fl → List Sl → Prop} (hρ : ρ[6]? = some (.imm (waysD ways))) (hΦ : Φ .next ρ) :
    Ex1 (LF G A env h0) ρ (lawSt 7) Φ := by
  have hany : (allWays ways).any (fun l => l.isEmpty) = false := by
    rw [List.any_eq_false]
    intro l hl
    rw [(allWays_ok hp l hl).1]; exact Bool.false_ne_true
  refine Ex1.if_false ((Tr.cmp (.list .nil (Nat.zero_le _)) (ev_comp2 ((List.range 6).map fun h => (List.range h).map fun low => strD (ways h low)) ((allWays ways).map strD) ["row", "way"] [] [] hF (EvIt.list hF (.name (i := 6) hF rfl hρ)) (by show compOK (scopeOf (stAt 37)) _ _ _ _ = true; decide +kernel) .nil (fun _ h => nomatch h) rfl (show 15 ≤ 1000 by decide) ?_ fun C D ok k d o hd ho => ?_) (cmp_in_nil (allWays ways) (fun l hl => (allWays_ok hp l hl).2) (hF.room (by decide)))).as hany) (Ex.nil hΦ)
  · unfold allWays
    rw [List.map_flatten, List.map_map]
    refine congrArg List.flatten (List.map_congr_left fun h _ => ?_)
    show _ = ((List.range h).map (ways h)).map strD
    rw [List.map_map]; rfl
  · have hk : k < 6 := by
      have := (List.getElem?_eq_some_iff.mp ho).1
      simpa using this
    rw [List.getElem?_map, List.getElem?_range hk] at hd ho
    obtain rfl := Option.some.inj hd
    obtain rfl := Option.some.inj ho
    refine ⟨[.imm (.list ((List.range k).map fun low => strD (ways k low))), .unk], _, true, rfl, fun acc => .name (i := 0) ok rfl (Nat.lt_of_sub_pos (by decide : 0 < 2 - 0)), rfl, rfl, fun acc => EvIt.list ok (.name (i := 0) ok rfl rfl), fun j e v he hv => ?_⟩
    rw [he] at hv
    obtain rfl := Option.some.inj hv
    exact ⟨[.imm (.list ((List.range k).map fun low => strD (ways k low))), .imm e], rfl, .keep (.drop .nil), fun acc => ⟨.name (i := 1) ok rfl (Nat.lt_of_sub_pos (by decide : 0 < 2 - 1)), .name (i := 1) ok rfl rfl⟩⟩
/-- the most, and an empty list -/
theorem law_most (hF : (LF G A env h0).Ok 10) (W : Wd G) {ns : List Int} {odd : List Str} {ways : Nat → Nat → List Str} {most : Int} (hp : LawP G ns odd ways most) (hn6 : ns.length = 6) {ρ : List Sl} {Θ : String → List Sl → Prop} (hρ : ρ[3]? = some (.imm (.dict G.prog G.w (countsOf ns)))) :
    Ex1 (LF G A env h0) ρ (lawSt 8) (fun fl r => fl = .next ∧ r = (ρ.set 8 (.imm (.list []))).set 7 (.imm (.int most))) Θ := by
  have hl := countsOf_len ns
  have hsum : CallOK G A (.builtin "sum") [.list (((countsOf ns).map fun p => lesser p.2).map .int)] (.int most) := by
    have := call_sum (G := G) (A := A) ((countsOf ns).map fun p => lesser p.2) (hF.hand rfl) (fun i hi => by obtain ⟨p, hp', rfl⟩ := List.mem_map.mp hi; exact hp.mostv.2 p hp') (by rw [List.length_map]; lia)
    rw [hp.mostv.1] at this; exact this
  refine Ex1.swap2 (i := 7) (j := 8) (x := "most") (y := "totals") hF rfl (Nat.lt_of_sub_pos (by decide : 0 < 18 - 7)) rfl (Nat.lt_of_sub_pos (by decide : 0 < 18 - 8)) (.of (Ev.call (j := 5) hF rfl (.cons (Ev.comp1 ((countsOf ns).map fun p => some (.int (lesser p.2))) (((countsOf ns).map fun p => lesser p.2).map .int) ["count"] [] [("min", .builtin "min")] hF (EvIt.values hF (.name (i := 3) hF rfl hρ)) (by show compOK (scopeOf (stAt 37)) _ _ _ _ = true; decide +kernel) .nil (W.glOK [12]) ?_ ?_ ?_ ?_) .nil) hsum)) (.of (.list .nil (Nat.zero_le _))) (hw := (swapped_scope (env' := envOf (scopeOf (stAt 37))) hF.scope).trans (by rfl))
  · unfold valuesD; rw [List.length_map, List.length_map]
  · unfold valuesD; rw [List.length_map]; lia
  · rw [List.filterMap_map, List.map_map]
    exact congrFun (List.filterMap_eq_map (f := fun p : Str × Int => Dt.int (lesser p.2))) _
  · intro C D acc ok k d r hd hr
    unfold valuesD at hd
    rw [List.getElem?_map] at hd hr
    obtain ⟨p, hn, rfl⟩ := Option.map_eq_some_iff.mp hd
    rw [hn] at hr
    have hr2 : some (Dt.int (lesser p.2)) = r := Option.some.inj hr
    subst hr2
    exact ⟨[.imm (.int p.2)], rfl, .name (i := 0) ok rfl (Nat.lt_of_sub_pos (by decide : 0 < 1 - 0)), .nil, Ev.call (j := 0) ok rfl (.cons (.name (i := 0) ok rfl rfl) (.cons (Ev.bin .int (.name (i := 0) ok rfl rfl) (bin_sub_int 6 p.2)) .nil)) (call_min2 p.2 (6 - p.2) (hF.hand rfl))⟩
end
end Mine
end

section
set_option maxHeartbeats 4000000
open PySem PySem.Calls PyProof.Rows PySem.W
namespace Mine
theorem sliceD_map {α β : Type} (f : α → β) (l : List α) (a b c : Option Int) : sliceD (l.map f) a b c = (sliceD l a b c).map f := by
  unfold sliceD
  rw [List.length_map, List.map_filterMap]
  refine congrFun (congrArg List.filterMap (funext fun k => ?_)) _
  rw [List.getElem?_map]
theorem rows15_ok : ∀ r ∈ rows15, r.length = 3 ∧ ∀ p ∈ r, p.1 < p.2 ∧ p.2 < 6 := by decide +kernel
noncomputable def totR (ways : Nat → Nat → List Str) (k : Nat) : List Int := (rows15.take k).map fun r => ((stepsR ways r).length : Int)
section
variable {G : GC} {A : Around} {env : Env} {h0 : Heap}
theorem way_at {ways : Nat → Nat → List Str} {low high : Nat} (h : low < high) (h6 : high < 6) : ItemOK G A (waysD ways) (.int (high : Int)) (.list ((List.range high).map fun low => strD (ways high low))) ∧ ItemOK G A (.list ((List.range high).map fun low => strD (ways high low))) (.int (low : Int)) (strD (ways high low)) :=
  ⟨item_list _ _ _ (by lia) (by lia) (by rw [Int.toNat_natCast, List.getElem?_map, List.getElem?_range h6]; rfl), item_list _ _ _ (by lia) (by lia) (by rw [Int.toNat_natCast, List.getElem?_map, List.getElem?_range h]; rfl)⟩
/-- the statements of law's loop -/
noncomputable def loopSt (k : Nat) : Stmt := match lawSt 9 with | .For _ _ b _ _ => (b[k]?).getD (.Pass ⟨0, 0, 0, 0⟩) | s => s
theorem steps_bound {ns : List Int} {odd : List Str} {ways : Nat → Nat → List Str} {most : Int} (hp : LawP G ns odd ways most) {r : List (Nat × Nat)} (hr : r ∈ rows15) : (stepsR ways r).length ≤ 30 := by
  obtain ⟨h3, hlt⟩ := rows15_ok r hr
  have key : ∀ r' : List (Nat × Nat), (∀ p ∈ r', p.1 < p.2 ∧ p.2 < 6) → (stepsR ways r').length ≤ 10 * r'.length := by
    intro r'
    induction r' with
    | nil => intro _; exact Nat.le_refl _
    | cons p q ih =>
      intro h
      obtain ⟨a, b⟩ := h p List.mem_cons_self
      have h1 := (hp.wayne p.1 p.2 a b).2.1
      have h2 := ih fun x hx => h x (List.mem_cons_of_mem _ hx)
      unfold stepsR at h2 ⊢
      rw [List.flatMap_cons, List.length_append, List.length_dropLast, List.length_cons]
      lia
  have := key r hlt
  lia
/-- the steps of a pairing -/
theorem law_steps (hF : (LF G A env h0).Ok 10) {ns : List Int} {odd : List Str} {ways : Nat → Nat → List Str} {most : Int} (hp : LawP G ns odd ways most) {r : List (Nat × Nat)} (hr : r ∈ rows15) {ρ : List Sl} {Θ : String → List Sl → Prop} (hρ : ρ[9]? = some (.imm (.list (rowD r)))) (hρ6 : ρ[6]? = some (.imm (waysD ways))) :
    Ex1 (LF G A env h0) ρ (loopSt 0) (Puts ρ 10 (strD (stepsR ways r))) Θ := by
  have hlt := (rows15_ok r hr).2
  have hout : (r.map fun p => ((ways p.2 p.1).dropLast).map Dt.str).flatten = (stepsR ways r).map Dt.str := by
    unfold stepsR
    rw [List.flatMap_def, List.map_flatten, List.map_map]; rfl
  refine ex1_assign_comp2 (i := 10) (r.map fun p => ((ways p.2 p.1).dropLast).map Dt.str) ((stepsR ways r).map .str) ["low", "high", "folder"] ["ways"] [] hF rfl (Nat.lt_of_sub_pos (by decide : 0 < 18 - 10)) (swaps_yes hF (by show (scopeOf (stAt 37)).names.lookup _ = _; decide +kernel) (by decide +kernel)) (EvIt.list hF (.name (i := 9) hF rfl hρ)) (by show compOK (scopeOf (stAt 37)) _ _ _ _ = true; decide +kernel) (Caps.cons (i := 6) rfl hρ6 .nil) (fun _ h => nomatch h) (by unfold rowD; rw [List.length_map, List.length_map]) (by rw [hout, List.length_map]; have := steps_bound hp hr; lia) hout fun C D ok k d o hd ho => ?_
  unfold rowD at hd
  rw [List.getElem?_map] at hd ho
  obtain ⟨p, hpk, rfl⟩ := Option.map_eq_some_iff.mp hd
  rw [hpk] at ho
  obtain rfl := Option.some.inj ho
  obtain ⟨h1, h2⟩ := hlt p (List.mem_of_getElem? hpk)
  obtain ⟨i1, i2⟩ := way_at (G := G) (A := A) (ways := ways) h1 h2
  refine ⟨[.imm (.int p.1), .imm (.int p.2), .unk], ((ways p.2 p.1).dropLast).map .str, true, rfl, fun acc => .tup ok (.cons (.name (i := 0) ok rfl (Nat.lt_of_sub_pos (by decide : 0 < 3 - 0))) (.cons (.name (i := 1) ok rfl (Nat.lt_of_sub_pos (by decide : 0 < 3 - 1))) .nil)), rfl, rfl, fun acc => EvIt.list ok (Ev.slice (Ev.item list_getitem_lookup (Ev.item list_getitem_lookup (.name (i := 3) ok rfl rfl) (.name (i := 1) ok rfl rfl) i1) (.name (i := 0) ok rfl rfl) i2) .none (.some (Ev.neg .int)) .none (by decide) (by rw [List.length_map]; have := (hp.wayne p.1 p.2 h1 h2).2.1; exact small_lt (by lia)) ?_), fun j e v he hv => ?_⟩
  · rw [sliceD_map]
    exact congrArg (List.map Dt.str) ((sliceD_butLast _).trans (List.dropLast_eq_take ..).symm)
  · rw [he] at hv
    obtain rfl := Option.some.inj hv
    exact ⟨[.imm (.int p.1), .imm (.int p.2), .imm e], rfl, .keep (.keep (.drop .nil)), fun acc => ⟨.name (i := 2) ok rfl (Nat.lt_of_sub_pos (by decide : 0 < 3 - 2)), .name (i := 2) ok rfl rfl⟩⟩
end
end Mine
end

section
set_option maxHeartbeats 4000000
open PySem PySem.Calls PyProof.Rows PySem.W
namespace Mine
noncomputable def loopBody : List Stmt := match lawSt 9 with | .For _ _ b _ _ => b | _ => []
/-- law's names before a turn of its loop -/
noncomputable def lawSl (G : GC) (script ns : List Int) (odd : List Str) (ways : Nat → Nat → List Str) (most : Int) (T : List Int) (rest : List Sl) : List Sl :=
  [.imm (dInts script), .imm (dInts ns), .imm (.list (ns.map fun n => .str (pathN n))), .imm (.dict G.prog G.w (countsOf ns)), .imm (.list (ns.map fun n => strD (lineN n))), .imm (strD odd), .imm (waysD ways), .imm (.int most), .imm (dInts T)] ++ rest
theorem filter_strs (P : Str → Bool) : ∀ l : List Str, (l.map fun x => if P x = true then some (Dt.str x) else none).filterMap id = (l.filter P).map .str
  | [] => rfl
  | x :: r => by
    rw [List.map_cons, List.filterMap_cons, List.filter_cons]
    by_cases h : P x = true
    · rw [if_pos h, if_pos h]; exact congrArg _ (filter_strs P r)
    · rw [if_neg h, if_neg h]; exact filter_strs P r
section
variable {G : GC} {A : Around} {env : Env} {h0 : Heap}
theorem meets_comp (hF : (LF G A env h0).Ok 10) {ρ : List Sl} {Θ : String → List Sl → Prop} {a b c : List Str} (hl : a.length ≤ 10) (h14 : ρ[14]? = some (.imm (strD a))) (h15 : ρ[15]? = some (.imm (strD b))) (h16 : ρ[16]? = some (.imm (strD c))) :
    Ex1 (LF G A env h0) ρ (loopSt 6) (Puts ρ 17 (strD (a.filter fun x => b.any (· == x) && c.any (· == x)))) Θ := by
  refine Ex1.assign_comp1 (i := 17) (a.map fun x => if (b.any (· == x) && c.any (· == x)) = true then some (.str x) else none) ((a.filter fun x => b.any (· == x) && c.any (· == x)).map .str) ["place"] ["second", "third"] [] hF rfl (Nat.lt_of_sub_pos (by decide : 0 < 18 - 17)) (swaps_yes hF (by show (scopeOf (stAt 37)).names.lookup _ = _; decide +kernel) (by decide +kernel)) (EvIt.list hF (.name (i := 14) hF rfl h14)) (by show compOK (scopeOf (stAt 37)) _ _ _ _ = true; decide +kernel) (Caps.cons (i := 15) rfl h15 (Caps.cons (i := 16) rfl h16 .nil)) (fun _ h => nomatch h) (by simp) (by rw [List.length_map]; lia) ?_ ?_
  · exact filter_strs _ a
  · intro C D acc ok k d r hd hr
    rw [List.getElem?_map] at hd hr
    obtain ⟨x, hn, rfl⟩ := Option.map_eq_some_iff.mp hd
    rw [hn] at hr
    have hr2 : (if (b.any (· == x) && c.any (· == x)) = true then some (Dt.str x) else none) = r := Option.some.inj hr
    subst hr2
    refine ⟨[.imm (.str x)], rfl, .name (i := 0) ok rfl (Nat.lt_of_sub_pos (by decide : 0 < 1 - 0)), ?_⟩
    cases h1 : b.any (· == x) with
    | false =>
      rw [Bool.false_and, if_neg Bool.false_ne_true]
      exact .one (Tr.and_false ((Tr.cmp (.name (i := 0) ok rfl rfl) (.name (i := 1) ok rfl rfl) (cmp_in_str x b)).as h1))
    | true =>
      rw [Bool.true_and]
      cases h2 : c.any (· == x) with
      | false =>
        rw [if_neg Bool.false_ne_true]
        exact .one (Tr.and_true ((Tr.cmp (.name (i := 0) ok rfl rfl) (.name (i := 1) ok rfl rfl) (cmp_in_str x b)).as h1) (Tr.and_false ((Tr.cmp (.name (i := 0) ok rfl rfl) (.name (i := 2) ok rfl rfl) (cmp_in_str x c)).as h2)))
      | true =>
        rw [if_pos rfl]
        exact ⟨.one (Tr.and_true ((Tr.cmp (.name (i := 0) ok rfl rfl) (.name (i := 1) ok rfl rfl) (cmp_in_str x b)).as h1) (Tr.and_true ((Tr.cmp (.name (i := 0) ok rfl rfl) (.name (i := 2) ok rfl rfl) (cmp_in_str x c)).as h2) .and_nil)), .name (i := 0) ok rfl rfl⟩
theorem law_turn (hF : (LF G A env h0).Ok 10) (W : Wd G) {script ns : List Int} {odd : List Str} {ways : Nat → Nat → List Str} {most : Int} (hp : LawP G ns odd ways most) {r : List (Nat × Nat)} (hr : r ∈ rows15) (T : List Int) (hT : T.length ≤ 20) :
    Ex (LF G A env h0) (lawSl G script ns odd ways most T [.imm (.list (rowD r)), .unk, .unk, .unk, .unk, .unk, .unk, .unk, .unk]) loopBody fun fl r' => fl = .next ∧ Wk r' (lawSl G script ns odd ways most (T ++ [((stepsR ways r).length : Int)]) [.unk, .unk, .unk, .unk, .unk, .unk, .unk, .unk, .unk]) := by
  have hsl := steps_bound hp hr
  obtain ⟨u1, u2, u3, u4, ⟨tw, s1, s2, s3, s4⟩, u5⟩ := hp.each r hr
  have hroom := hF.room (by decide)
  refine Ex.seq (law_steps hF hp hr rfl rfl) ?_
  refine Ex.seq (Ex1.unpack (ev_call_lists2 (k := 1) (l := odd) (m := stepsR ways r) (j := 8) (j2 := 7) hF rfl rfl (.name (i := 5) hF rfl rfl) (.name (i := 10) hF rfl rfl) (by have := hp.oddlen; lia) (by lia) (fun v1 v2 a1 a2 => by
      have := uld_ok (G := G) W (l := odd.reverse) (m := stepsR ways r) v1 v2 a1 a2 (by rw [List.length_reverse]; have := hp.oddlen; lia) (by lia)
      rw [List.reverse_reverse] at this
      exact this) (by decide)) (.tup hF (.cons (.name (i := 11) hF rfl (Nat.lt_of_sub_pos (by decide : 0 < 18 - 11))) (.cons (.name (i := 12) hF rfl (Nat.lt_of_sub_pos (by decide : 0 < 18 - 12))) .nil))) (hw := (swapped_scope (env' := envOf (scopeOf (stAt 37))) hF.scope).trans (by rfl))) ?_
  rw [u1, u2]
  have hcov : CmpOK G A .NotEq (strD (overS (stepsR ways r) odd 0 (stepsR ways r))) (strD (overS (stepsR ways r) odd 0 (stepsR ways r))) false := by
    have := cmp_ne_strs (G := G) (A := A) _ _ u4 u4 hroom
    rw [decide_eq_true rfl] at this; exact this
  refine Ex.if_false (Tr.or_false ((Tr.val (.name (i := 11) hF rfl rfl) (truth_list [] (Nat.zero_le _))).as rfl) (Tr.or_false (Tr.cmp (.name (i := 12) hF rfl rfl) (Ev.call (j := 9) hF rfl (.cons (.name (i := 10) hF rfl rfl) (.cons (.name (i := 5) hF rfl rfl) .nil)) ((over_ok W (stepsR ways r) odd (by lia)).use hF (by decide))) hcov) .or_nil)) (Ex.nil ?_)
  refine Ex.seq (Ex1.assign (i := 13) hF rfl (Nat.lt_of_sub_pos (by decide : 0 < 18 - 13)) (Ev.call (j := 3) hF rfl (.cons (.name (i := 12) hF rfl rfl) .nil) (call_sorted _ tw u3 s1))) ?_
  have ok1 : okS (sliceD tw none none (some 2)) := fun x hx => by
    unfold sliceD at hx
    obtain ⟨k, _, hk⟩ := List.mem_filterMap.mp hx
    exact s3 x (List.mem_of_getElem? hk)
  have htwc : CmpOK G A .NotEq (strD (sliceD tw none none (some 2))) (strD (sliceD tw none none (some 2))) false := by
    have := cmp_ne_strs (G := G) (A := A) _ _ ok1 ok1 hroom
    rw [decide_eq_true rfl] at this; exact this
  refine Ex.if_false (Tr.cmp (Ev.slice (r := (sliceD tw none none (some 2)).map .str) (.name (i := 13) hF rfl rfl) .none .none (.some .int) (by decide) (by rw [List.length_map]; exact small_lt (by lia)) (sliceD_map ..)) (Ev.slice (r := (sliceD tw none none (some 2)).map .str) (.name (i := 13) hF rfl rfl) (.some .int) .none (.some .int) (by decide) (by rw [List.length_map]; exact small_lt (by lia)) (by rw [sliceD_map, s4])) htwc) (Ex.nil ?_)
  obtain ⟨h3, hlt⟩ := rows15_ok r hr
  obtain ⟨a, b, c, rfl⟩ : ∃ a b c, r = [a, b, c] := match r, h3 with | [a, b, c], _ => ⟨a, b, c, rfl⟩
  obtain ⟨ha1, ha2⟩ := hlt a (by simp)
  obtain ⟨hb1, hb2⟩ := hlt b (by simp)
  obtain ⟨hc1, hc2⟩ := hlt c (by simp)
  refine Ex.seq (Ex1.unpack (d := .list [strD (ways a.2 a.1), strD (ways b.2 b.1), strD (ways c.2 c.1)]) (Ev.comp1 ([a, b, c].map fun p => some (strD (ways p.2 p.1))) [strD (ways a.2 a.1), strD (ways b.2 b.1), strD (ways c.2 c.1)] ["low", "high"] ["ways"] [] hF (EvIt.list hF (.name (i := 9) hF rfl rfl)) (by show compOK (scopeOf (stAt 37)) _ _ _ _ = true; decide +kernel) (Caps.cons (i := 6) rfl rfl .nil) (fun _ h => nomatch h) rfl (show 3 ≤ 1000 by decide) rfl ?_) (Tgt.list hF (.cons (.name (i := 14) hF rfl (Nat.lt_of_sub_pos (by decide : 0 < 18 - 14))) (.cons (.name (i := 15) hF rfl (Nat.lt_of_sub_pos (by decide : 0 < 18 - 15))) (.cons (.name (i := 16) hF rfl (Nat.lt_of_sub_pos (by decide : 0 < 18 - 16))) .nil)))) (hw := (swapped_scope (env' := envOf (scopeOf (stAt 37))) hF.scope).trans (by rfl))) ?_
  · intro C D acc ok k d r2 hd hr2
    unfold rowD at hd
    rw [List.getElem?_map] at hd hr2
    obtain ⟨p, hpk, rfl⟩ := Option.map_eq_some_iff.mp hd
    rw [hpk] at hr2
    obtain rfl := Option.some.inj hr2
    obtain ⟨h1, h2⟩ := hlt p (List.mem_of_getElem? hpk)
    obtain ⟨i1, i2⟩ := way_at (G := G) (A := A) (ways := ways) h1 h2
    exact ⟨[.imm (.int p.1), .imm (.int p.2)], rfl, .tup ok (.cons (.name (i := 0) ok rfl (Nat.lt_of_sub_pos (by decide : 0 < 2 - 0))) (.cons (.name (i := 1) ok rfl (Nat.lt_of_sub_pos (by decide : 0 < 2 - 1))) .nil)), .nil, Ev.item list_getitem_lookup (Ev.item list_getitem_lookup (.name (i := 2) ok rfl rfl) (.name (i := 1) ok rfl rfl) i1) (.name (i := 0) ok rfl rfl) i2⟩
  refine Ex.seq (meets_comp hF (hp.wayne a.1 a.2 ha1 ha2).2.1 rfl rfl rfl) ?_
  have okm : okS (meetsR ways [a, b, c]) := fun x hx => (hp.wayne a.1 a.2 ha1 ha2).2.2 x (List.mem_filter.mp hx).1
  have hcm : CmpOK G A .Eq (strD (meetsR ways [a, b, c])) (.list []) (decide (meetsR ways [a, b, c] = [])) := cmp_eq_strs (meetsR ways [a, b, c]) [] okm (fun x hx => nomatch hx) hroom
  refine Ex.if_false ((Tr.cmp (Ev.cmp (.name (i := 17) hF rfl rfl) (.list .nil (Nat.zero_le _)) hcm) (Ev.cmp (Ev.call (j := 10) hF rfl (.cons (.name (i := 10) hF rfl rfl) .nil) (call_len_l _ (by rw [List.length_map]; exact small_lt (by lia)))) (.name (i := 7) hF rfl rfl) (cmp_eq_int _ most)) (cmp_eq_bool _ _)).as ?_) (Ex.nil ?_)
  · rw [List.length_map]
    by_cases hm : meetsR ways [a, b, c] = []
    · rw [decide_eq_true hm, beq_eq_false_iff_ne.mpr (u5.mp hm)]; rfl
    · have : ((stepsR ways [a, b, c]).length : Int) = most := Classical.byContradiction fun q => hm (u5.mpr q)
      rw [decide_eq_false hm, beq_iff_eq.mpr this]; rfl
  refine Ex.seq (Ex1.assign (i := 8) (d := dInts (T ++ [((stepsR ways [a, b, c]).length : Int)])) hF rfl (Nat.lt_of_sub_pos (by decide : 0 < 18 - 8)) ?_) (Ex.nil ⟨rfl, ?_⟩)
  · have hlen : CallOK G A (.builtin "len") [strD (stepsR ways [a, b, c])] (.int ((stepsR ways [a, b, c]).length : Int)) := by
      have := call_len_l (G := G) (A := A) ((stepsR ways [a, b, c]).map .str) (by rw [List.length_map]; exact small_lt (by lia))
      rw [List.length_map] at this; exact this
    show Ev _ _ _ (.list ((T ++ [((stepsR ways [a, b, c]).length : Int)]).map .int))
    rw [List.map_append]
    exact Ev.bin (.name (i := 8) hF rfl rfl) (.list (.cons (Ev.call (j := 10) hF rfl (.cons (.name (i := 10) hF rfl rfl) .nil) hlen) .nil) (small_lt (show 1 ≤ 1000 by decide))) (bin_add_list (T.map .int) [.int ((stepsR ways [a, b, c]).length : Int)] (by rw [List.length_map]; exact small_lt (by show _ + 1 ≤ 1000; lia)))
  · exact .keep (.keep (.keep (.keep (.keep (.keep (.keep (.keep (.keep (.drop (.drop (.drop (.drop (.drop (.drop (.drop (.drop (.drop .nil)))))))))))))))))
end
end Mine
end

section
set_option maxHeartbeats 4000000
open PySem PySem.Calls PyProof.Rows PySem.W
namespace Mine
section
variable {G : GC} {A : Around} {env : Env} {h0 : Heap}
theorem law_tail (W : Wd G) (hF : (LF G A env h0).Ok 10) (script ns : List Int) (odd : List Str) (ways : Nat → Nat → List Str) (most : Int) (hp : LawP G ns odd ways most) (hn6 : ns.length = 6) (hnr : ∀ n ∈ ns, 0 ≤ n ∧ n < 1000000) :
    Ex (LF G A env h0) [.imm (dInts script), .imm (dInts ns), .imm (.list (ns.map fun n => .str (pathN n))), .imm (.dict G.prog G.w (countsOf ns)), .imm (.list (ns.map fun n => strD (lineN n))), .imm (strD odd), .unk, .unk, .unk, .unk, .unk, .unk, .unk, .unk, .unk, .unk, .unk, .unk] ((Mine.bodyOf (stAt 37)).drop 6) fun fl _ => fl = .ret (.bool true) := by
  have e : (Mine.bodyOf (stAt 37)).drop 6 = [lawSt 6, lawSt 7, lawSt 8, lawSt 9, lawSt 10] := by kernel_rfl
  rw [e]
  refine Ex.seq (law_ways W hF ns odd ways most hp hn6 hnr rfl rfl) ?_
  refine Ex.seq (law_none hF hp (Φ := fun fl r => fl = .next ∧ r = _) rfl ⟨rfl, rfl⟩) ?_
  refine Ex.seq (law_most hF W hp hn6 rfl) ?_
  have hpr : FnOK G 4 (.ref 247) [.list (countD 6)] (.list ((rows15.map rowD).map .list)) := by
    have := pairings_ok (G := G) W 3 [0, 1, 2, 3, 4, 5] (by decide) (by decide)
    rw [rows_eq] at this; exact this
  have hlen15 : rows15.length = 15 := by decide +kernel
  refine Ex.seq (ρ' := lawSl G script ns odd ways most (totR ways 15) [.unk, .unk, .unk, .unk, .unk, .unk, .unk, .unk, .unk]) (Ex1.for (I := fun k => lawSl G script ns odd ways most (totR ways k) [.unk, .unk, .unk, .unk, .unk, .unk, .unk, .unk, .unk]) (EvIt.list hF (Ev.call (j := 6) hF rfl (.cons (ev_list_range (j := 7) (j2 := 4) (k := 6) hF rfl rfl .int (by decide)) .nil) (hpr.use hF (by decide)))) rfl (fun k d hd => ?_) (by rw [List.length_map, List.length_map, hlen15]; exact ⟨rfl, rfl⟩)) ?_
  · rw [List.getElem?_map, List.getElem?_map] at hd
    obtain ⟨x, hx, rfl⟩ := Option.map_eq_some_iff.mp hd
    obtain ⟨r, hr, rfl⟩ := Option.map_eq_some_iff.mp hx
    refine ⟨_, .name (i := 9) hF rfl (Nat.lt_of_sub_pos (by decide : 0 < 18 - 9)), ?_⟩
    have hT : (totR ways k).length ≤ 20 := by
      unfold totR; rw [List.length_map]
      have := List.length_take_le' k rows15
      lia
    refine (law_turn hF W (script := script) hp (List.mem_of_getElem? hr) (totR ways k) hT).mono fun fl r' h => ?_
    obtain ⟨rfl, w⟩ := h
    have e2 : totR ways (k + 1) = totR ways k ++ [((stepsR ways r).length : Int)] := by
      unfold totR
      rw [List.take_add_one, hr, List.map_append]; rfl
    show Wk r' (lawSl G script ns odd ways most (totR ways (k + 1)) _)
    rw [e2]; exact w
  · have ht : totR ways 15 = rows15.map fun r => ((stepsR ways r).length : Int) := by unfold totR; rw [← hlen15, List.take_length]
    have hmin : CallOK G A (.builtin "min") [dInts (totR ways 15)] (.int (odd.length : Int)) := call_minI _ _ (hF.hand rfl) (ht ▸ hp.least.1) (fun a ha => by
      rw [ht] at ha
      obtain ⟨r, hr, rfl⟩ := List.mem_map.mp ha
      exact hp.least.2 r hr)
    have hmax : CallOK G A (.builtin "max") [dInts (totR ways 15)] (.int most) := call_maxI _ _ (hF.hand rfl) (ht ▸ hp.greatest.1) (fun a ha => by
      rw [ht] at ha
      obtain ⟨r, hr, rfl⟩ := List.mem_map.mp ha
      exact hp.greatest.2 r hr)
    have hlo : CallOK G A (.builtin "len") [strD odd] (.int (odd.length : Int)) := by
      have := call_len_l (G := G) (A := A) (odd.map .str) (by rw [List.length_map]; have := hp.oddlen; exact small_lt (by lia))
      rw [List.length_map] at this; exact this
    have c1 : CmpOK G A .Eq (.int (odd.length : Int)) (.int (odd.length : Int)) true := by
      have := cmp_eq_int (G := G) (A := A) (odd.length : Int) (odd.length : Int)
      rw [beq_self_eq_true] at this; exact this
    have c2 : CmpOK G A .Eq (.int most) (.int most) true := by
      have := cmp_eq_int (G := G) (A := A) most most
      rw [beq_self_eq_true] at this; exact this
    exact Ex.ret (ev_and2 (Ev.cmp (Ev.call (j := 11) hF rfl (.cons (.name (i := 8) hF rfl rfl) .nil) hmin) (Ev.call (j := 10) hF rfl (.cons (.name (i := 5) hF rfl rfl) .nil) hlo) c1) (Ev.cmp (Ev.call (j := 12) hF rfl (.cons (.name (i := 8) hF rfl rfl) .nil) hmax) (.name (i := 7) hF rfl rfl) c2)) rfl
end
end Mine
end

section
set_option maxHeartbeats 4000000
open PySem PySem.Calls PyProof.Rows PySem.W
namespace Mine
theorem pow_room : ((Builtin.Int.intBits 10 : Int)) * 6 ≤ 2 ^ 27 := by decide +kernel
theorem find_key {l : List (Str × Int)} (hn : (l.map (·.1)).Nodup) {p : Str × Int} (hp : p ∈ l) : (l.find? fun q => q.1 = p.1).map (·.2) = some p.2 := by
  induction l with
  | nil => cases hp
  | cons a r ih =>
    rw [List.map_cons, List.nodup_cons] at hn
    rw [List.find?_cons]
    rcases List.mem_cons.mp hp with rfl | h
    · simp
    · have : a.1 ≠ p.1 := fun e => hn.1 (e ▸ List.mem_map_of_mem (f := (·.1)) h)
      simp only [this, decide_false]
      exact ih hn.2 h
section
variable {G : GC}
theorem law_ok (W : Wd G) (Wx : StrmOK G) (script : List Int) (hs : script.length ≤ 63) (odd : List Str) (ways : Nat → Nat → List Str) (most : Int) (hp : LawP G (numsOf script) odd ways most) (hn6 : (numsOf script).length = 6) (hnr : ∀ n ∈ numsOf script, 0 ≤ n ∧ n < 1000000) :
    FnOK0 G 11 (.ref 257) [dInts script] (.bool true) := by
  refine Fn.pl0 (k := 37) (n := 10) (kk := 17) (own := 18) (pn := ["script"]) (names := lawNames) (gls := lawGls) (W.def (i := 21) rfl)
    (.of (by decide) (by decide) (by decide +kernel) (by decide +kernel) (W.gls [33, 35, 38, 10, 6, 11, 39, 7, 27, 40, 5, 12, 13])) W.nolimit rfl rfl (by decide) rfl (by decide +kernel) (bindK fun _ => all1 fun _ => by kernel_rfl) fun A env h0 hF => ?_
  refine Ex.seq (ρ' := start [.imm (dInts script), .imm (dInts (numsOf script))] 16) (Ex1.assign (i := 1) (d := dInts (numsOf script)) hF rfl (Nat.lt_of_sub_pos (by decide : 0 < 18 - 1)) ?_) ?_
  · refine Ev.slice (l := ((((script.take 6).map fun c : Int => c.fmod 1000000) ++ [1, 5, 9, 2, 39, 7]).map .int)) (b := some 6) ?_ .none (.some .int) .none (by decide) (by rw [List.length_map, List.length_append, List.length_map, List.length_take]; exact small_lt (by show _ + 6 ≤ 1000; lia)) ?_
    · refine List.map_append ▸ Ev.bin (Ev.comp1 (ds := (script.take 6).map .int) ((script.take 6).map fun c : Int => some (.int (c.fmod 1000000))) (((script.take 6).map fun c : Int => c.fmod 1000000).map .int) ["cell"] [] [("int", .type "int")] hF (EvIt.list hF (Ev.slice (.name (i := 0) hF rfl rfl) .none (.some .int) .none (by decide) (by rw [List.length_map]; exact small_lt (by lia)) ?_)) (by show compOK (scopeOf (stAt 37)) _ _ _ _ = true; decide +kernel) .nil (W.glOK [8]) (by simp) (by rw [List.length_map, List.length_take]; lia) ?_ ?_) (.list (.cons .int (.cons .int (.cons .int (.cons .int (.cons .int (.cons .int .nil)))))) (small_lt (show 6 ≤ 1000 by decide))) (bin_add_list _ _ ?_)
      · exact (sliceD_upto _ 6).trans List.map_take.symm
      · rw [List.filterMap_map, List.map_map]
        exact congrFun (List.filterMap_eq_map (f := fun c : Int => Dt.int (c.fmod 1000000))) _
      · intro C D acc ok k d r hd hr
        rw [List.getElem?_map] at hd hr
        obtain ⟨c, hc, rfl⟩ := Option.map_eq_some_iff.mp hd
        rw [hc] at hr
        have hr2 : some (Dt.int (c.fmod 1000000)) = r := Option.some.inj hr
        subst hr2
        refine ⟨[.imm (.int c)], rfl, .name (i := 0) ok rfl (Nat.lt_of_sub_pos (by decide : 0 < 1 - 0)), .nil, ?_⟩
        have hpw : CallOK G A (.type "int") [.int c] (.int c) := call_int_int c
        exact Ev.bin (Ev.call (j := 0) ok rfl (.cons (.name (i := 0) ok rfl rfl) .nil) hpw) (Ev.bin .int .int (bin_pow_int 10 6 (by decide) pow_room)) (bin_mod_int c 1000000 (by decide))
      · rw [List.length_map, List.length_map, List.length_take]
        exact small_lt (by show _ + 6 ≤ 1000; lia)
    · exact (sliceD_upto _ 6).trans (List.map_take.symm.trans rfl)
  generalize hns : numsOf script = ns at hp hn6 hnr ⊢
  have hroom := hF.room (by decide)
  -- paths, counts
  refine Ex.seq (ρ' := [.imm (dInts script), .imm (dInts ns), .imm (.list (ns.map fun n => .str (pathN n))), .imm (.dict G.prog G.w (countsOf ns)), .unk, .unk, .unk, .unk, .unk, .unk, .unk, .unk, .unk, .unk, .unk, .unk, .unk, .unk])
    (Ex1.unpack (Ev.tup (.cons (ev_call0 (j := 0) hF rfl (.cons (.name (i := 1) hF rfl rfl) .nil) rfl (paths_ok W Wx ns (by lia) hnr) (by decide)) (.cons (Ev.call (j := 1) hF rfl (.cons (.name (i := 1) hF rfl rfl) .nil) ((counts_ok W ns (by lia) hnr).use hF (by decide))) .nil)) (small_lt (show 2 ≤ 1000 by decide)))
      (.tup hF (.cons (.name (i := 2) hF rfl (Nat.lt_of_sub_pos (by decide : 0 < 18 - 2))) (.cons (.name (i := 3) hF rfl (Nat.lt_of_sub_pos (by decide : 0 < 18 - 3))) .nil))) (hw := (swapped_scope (env' := envOf (scopeOf (stAt 37))) hF.scope).trans (by rfl))) ?_
  have okP : okS (ns.map pathN) := fun x hx => by obtain ⟨n, hn, rfl⟩ := List.mem_map.mp hx; exact (hp.path n hn).2.2.2.2
  have eP : (Dt.list (ns.map fun n => .str (pathN n))) = strD (ns.map pathN) := by unfold strD; rw [List.map_map]; rfl
  have cmpP : CmpOK G A .NotEq (.list (ns.map fun n => .str (pathN n))) (.list (ns.map fun n => .str (pathN n))) false := by
    have := cmp_ne_strs (G := G) (A := A) (ns.map pathN) (ns.map pathN) okP okP hroom
    rw [decide_eq_true rfl] at this
    rw [eP]; exact this
  refine Ex.if_false (Tr.cmp (.name (i := 2) hF rfl rfl) (Ev.comp1 (ns.map fun n => some (.str (pathN n))) (ns.map fun n => .str (pathN n)) ["number"] [] [("_law_names", .ref 195)] hF (EvIt.list hF (.name (i := 1) hF rfl rfl)) (by show compOK (scopeOf (stAt 37)) _ _ _ _ = true; decide +kernel) .nil (W.glOK [31]) (by simp) (by rw [List.length_map]; lia) ?_ ?_) cmpP) (Ex.nil ?_)
  · rw [List.filterMap_map]
    exact congrFun (List.filterMap_eq_map (f := fun n : Int => Dt.str (pathN n))) _
  · intro C D acc ok k d r hd hr
    rw [List.getElem?_map] at hd hr
    obtain ⟨n, hn, rfl⟩ := Option.map_eq_some_iff.mp hd
    rw [hn] at hr
    have hr2 : some (Dt.str (pathN n)) = r := Option.some.inj hr
    subst hr2
    have hm := List.mem_of_getElem? hn
    obtain ⟨e, hj, hl, _, _⟩ := hp.path n hm
    refine ⟨[.imm (.int n)], rfl, .name (i := 0) ok rfl (Nat.lt_of_sub_pos (by decide : 0 < 1 - 0)), .nil, ?_⟩
    show Ev _ _ _ (.str (pathN n))
    rw [e]
    exact Ev.bin .str (Ev.meth PySem.F.plainAttrs_str PySem.F.slot_str_join PySem.F.type_str_join .str (.cons (Ev.call (j := 0) ok rfl (.cons (.name (i := 0) ok rfl rfl) .nil) ((names_ok W n (hnr n hm).1 (hnr n hm).2).use ok (by decide))) .nil) (call_join "/" (namesOf n) hj)) (bin_add_str "/" _ (by rw [sizeLine_eq]; show 1 + _ ≤ _; lia))
  -- lines
  refine Ex.seq (Ex1.assign (i := 4) hF rfl (Nat.lt_of_sub_pos (by decide : 0 < 18 - 4)) (Ev.comp1 (ns.map fun n => some (strD (lineN n))) (ns.map fun n => strD (lineN n)) ["path"] [] [("_law_line", .ref 214)] hF (EvIt.list hF (.name (i := 2) hF rfl rfl)) (by show compOK (scopeOf (stAt 37)) _ _ _ _ = true; decide +kernel) .nil (W.glOK [34]) (by simp) (by rw [List.length_map]; lia) ?_ ?_) (hs := swaps_no hF (by show (scopeOf (stAt 37)).names.lookup _ = _; decide +kernel))) ?_
  · rw [List.filterMap_map]
    exact congrFun (List.filterMap_eq_map (f := fun n : Int => strD (lineN n))) _
  · intro C D acc ok k d r hd hr
    rw [List.getElem?_map] at hd hr
    obtain ⟨n, hn, rfl⟩ := Option.map_eq_some_iff.mp hd
    rw [hn] at hr
    have hr2 : some (strD (lineN n)) = r := Option.some.inj hr
    subst hr2
    exact ⟨[.imm (.str (pathN n))], rfl, .name (i := 0) ok rfl (Nat.lt_of_sub_pos (by decide : 0 < 1 - 0)), .nil, Ev.call (j := 0) ok rfl (.cons (.name (i := 0) ok rfl rfl) .nil) ((hp.line n (List.mem_of_getElem? hn)).use ok (by decide))⟩
  -- odd
  refine Ex.seq (Ex1.assign (i := 5) hF rfl (Nat.lt_of_sub_pos (by decide : 0 < 18 - 5)) (Ev.call (j := 2) hF rfl (.cons (.name (i := 4) hF rfl rfl) .nil) (hp.folded.use hF (by decide)))) ?_
  have cmpO : CmpOK G A .NotEq (strD odd) (strD odd) false := by
    have := cmp_ne_strs (G := G) (A := A) odd odd hp.oddok hp.oddok hroom
    rw [decide_eq_true rfl] at this
    exact this
  refine Ex.if_false (Tr.cmp (.name (i := 5) hF rfl rfl) (Ev.call (j := 3) hF rfl (.cons (Ev.comp1 ((countsOf ns).map fun p => if p.2.fmod 2 = 1 then some (.str p.1) else none) ((oddTexts ns).map .str) ["text"] ["counts"] [] hF (EvIt.keys hF (.name (i := 3) hF rfl rfl)) (by show compOK (scopeOf (stAt 37)) _ _ _ _ = true; decide +kernel) (Caps.cons (i := 3) rfl rfl .nil) (fun _ h => nomatch h) ?_ ?_ ?_ ?_) .nil) (call_sorted (oddTexts ns) odd hp.sorted.1 hp.sorted.2)) cmpO) (Ex.nil ?_)
  · unfold keysD; rw [List.length_map, List.length_map]
  · unfold keysD; rw [List.length_map]; have := countsOf_len ns; lia
  · unfold oddTexts
    rw [List.filterMap_map]
    generalize countsOf ns = l
    induction l with
    | nil => rfl
    | cons a r ih =>
      rw [List.filterMap_cons, List.filter_cons]
      by_cases ha : a.2.fmod 2 = 1
      · simp only [Function.comp, ha, if_true, id, decide_true, List.map_cons]
        exact congrArg (_ :: ·) ih
      · simp only [Function.comp, ha, if_false, id, decide_false, Bool.false_eq_true]
        exact ih
  · intro C D acc ok k d r hd hr
    unfold keysD at hd
    rw [List.getElem?_map] at hd hr
    obtain ⟨p, hn, rfl⟩ := Option.map_eq_some_iff.mp hd
    rw [hn] at hr
    have hr2 : (if p.2.fmod 2 = 1 then some (Dt.str p.1) else none) = r := Option.some.inj hr
    subst hr2
    refine ⟨[.imm (.str p.1)], rfl, .name (i := 0) ok rfl (Nat.lt_of_sub_pos (by decide : 0 < 1 - 0)), ?_⟩
    have hf : ((countsOf ns).find? fun q => q.1 = p.1).map (·.2) = some p.2 := find_key hp.keys (List.mem_of_getElem? hn)
    by_cases h : p.2.fmod 2 = 1
    · rw [if_pos h]
      refine ⟨.one ((Tr.cmp (Ev.bin (Ev.item PySem.F.slot_dict_getitem.lookup (.name (i := 1) ok rfl rfl) (.name (i := 0) ok rfl rfl) (item_dict hf)) .int (bin_mod_int p.2 2 (by decide))) .int (cmp_eq_int _ 1)).as (beq_iff_eq.mpr h)), .name (i := 0) ok rfl rfl⟩
    · rw [if_neg h]
      exact .one ((Tr.cmp (Ev.bin (Ev.item PySem.F.slot_dict_getitem.lookup (.name (i := 1) ok rfl rfl) (.name (i := 0) ok rfl rfl) (item_dict hf)) .int (bin_mod_int p.2 2 (by decide))) .int (cmp_eq_int _ 1)).as (beq_eq_false_iff_ne.mpr h))
  -- ways
  exact law_tail W hF script ns odd ways most hp hn6 hnr
end
end Mine
end

section
open PySem PySem.Calls PyProof.Rows PySem.W
namespace Mine
noncomputable abbrev pw := PySem.Challenge.pw_ik0190_01
noncomputable abbrev rw0 := PySem.Challenge.rw_ik0190_01
noncomputable def keepQ : PySem.Stmt → Bool
  | .FunctionDef .. => true
  | .ClassDef .. => true
  | _ => false
noncomputable def viewQ : Program := { pw with main := { pw.main with body := pw.main.body.filter keepQ } }
noncomputable def hdFrag (h : Heap) : Frag := [63, 65, 66, 189].filterMap fun a => (h.get? a).map fun o => (a, o)
noncomputable def nameAt (h : Heap) (x : Str) : Option Value := match h.nsMap mainGlobals x with | some v => some v | none => h.nsMap builtinsNs x
noncomputable def clsChk (K : Frag) : Bool :=
  makesIn K 66 && (findIn K (.ref 66) "__init__" == some (some (.ref 63))) && (typeIn K (.ref 63) == some (.type "function")) && plainOver K 66 && (findIn K (.ref 66) "value" == some none) && (findIn K (.ref 66) "read" == some none) &&
    (clsIn K 66).any (·.hasDict) && (findIn K (.ref 66) "__setattr__" == some (some (.builtin "object.__setattr__"))) && (findIn K (.ref 66) "__getattribute__" == some (some (.builtin "object.__getattribute__"))) && (findIn K (.ref 66) "__getattr__" == some none)
noncomputable abbrev See := FuncBody × Scope × Arguments × List (Str × Addr) × Addr × Addr × Value × Value
noncomputable def refOf : Value → Option Addr
  | .ref a => some a
  | _ => none
noncomputable def txtOf : Value → Option Str
  | .str x _ => some x
  | _ => none
noncomputable def funcOf (o : Obj) : Option FuncData := match o.data with
  | .func fd => some fd
  | _ => none
noncomputable def fldsOf (o : Obj) : Option (Array Value) := match o.data with
  | .fields vs => some vs
  | _ => none
noncomputable def isCls (o : Obj) : Bool := match o.data with
  | .cls _ => true
  | _ => false
noncomputable def fdOf (h : Heap) (f : Addr) : Option FuncData := (h.get? f).bind funcOf
noncomputable def fdSee (h : Heap) (f : Addr) : Option See := (fdOf h f).map fun fd => (fd.body, fd.scope, fd.params, fd.closure, fd.globals, fd.builtins, fd.defaults, fd.kwdefaults)
noncomputable def stSee (st : Option Stmt) : See := (.stmts (Mine.bodyOf st), scopeOf st, paramsOf st, [], mainGlobals, builtinsNs, .none, .none)
noncomputable def codeRecB (h : Heap) (c : Value) (q : Str) : Bool := (refOf c).any fun a => (h.get? a).any fun o => (fldsOf o).any fun vs => (vs[1]?).any fun v => txtOf v == some q
noncomputable def codeChk (h : Heap) (f : Addr) : Bool := (fdOf h f).any fun fd => codeRecB h fd.code fd.qualname
noncomputable def tabChk (h : Heap) (a : Addr) : Bool := (h.get? a).any fun o => o.cls == .none && (o.dict == none && (o.slots.isEmpty && (fldsOf o).any (·.isEmpty)))
noncomputable def clsTop (h : Heap) (a : Addr) : Bool := (h.get? a).any fun o => isCls o && o.cls == .type "type"
noncomputable def strmChk (h : Heap) : Bool := (fdOf h 190).any fun fd => fd.code == .ref 189 && fd.qualname == ("_law_stream" : Str)
noncomputable def hdChk (h : Heap) : Bool := h.isNs mainGlobals && h.isNs builtinsNs && wdNames.all (fun p => nameAt h p.1 == some p.2) && clsChk (hdFrag h) && (wdDefs.map Prod.fst ++ [(63 : Addr)]).all (codeChk h) && codeHdIn (hdFrag h) 189 185 && tabChk h 185 && strmChk h && clsTop h 66 && (h.nsMap mainGlobals "law" == some (Value.ref 257))
noncomputable def hdObs (s : Shared) : Bool × List (Option See) := (hdChk s.heap, (wdDefs.map Prod.fst ++ [(63 : Addr)]).map (fdSee s.heap))
noncomputable def hdVal (_ : World) : Bool × List (Option See) := (true, (wdDefs.map fun p => some (stSee (stAt p.2))) ++ [some (stSee initSt)])
theorem openEnds_quick : @openEnds = fun tb p w N => ((PySem.W.Fast.tw10274390034422433532 tb (opening p) w N (PySem.W.Fast.tw1435165496053646825 (opening p)).1 (PySem.W.Fast.tw1435165496053646825 (opening p)).2).bind (PySem.W.Fast.tw14289696077712309145 p)).bind (topFrom tb p w N) := by
  delta openEnds fencedOpening
  rw [PySem.W.Fast.te10274390034422433532, PySem.W.Fast.te1435165496053646825, PySem.W.Fast.te14289696077712309145]
/-- the run of the top, twice: what the library looks at, and what this proof does -/
theorem left2a (w : World) : (openEnds treeTable pw w 3338).map (openSeen viewQ [] (importedModules pw.main.body) (fun s => xlAt viewQ [] s && recOk (RowW.records rw0.row.toRowW) s) true) = some (openGood viewQ []) := by
  rw [openEnds_quick]
  delta topFrom
  rw [PySem.W.Fast.te14364793385576792824, PySem.W.Fast.te14082659384304107361, PySem.W.Fast.te4187177175401517315]
  kernel_rfl
theorem left2b (w : World) : (openEnds treeTable pw w 3338).map hdObs = some (hdVal w) := by
  rw [openEnds_quick]
  delta topFrom
  rw [PySem.W.Fast.te14364793385576792824, PySem.W.Fast.te14082659384304107361]
  kernel_rfl
theorem map_both {α β γ : Type} {x : Option α} {f : α → β} {g : α → γ} {b : β} {c : γ} (h : x.map f = some b) (k : x.map g = some c) : x.map (fun s => (f s, g s)) = some (b, c) := by
  cases x with
  | none => cases h
  | some s => cases h; cases k; rfl
theorem left2 : LeftO pw viewQ [] (fun s => xlAt viewQ [] s && recOk (RowW.records rw0.row.toRowW) s) hdObs hdVal 3338 := fun w => map_both (left2a w) (left2b w)
end Mine
end

section
open PySem PySem.Calls PyProof.Rows PySem.W
namespace Mine
noncomputable def DefFact (h : Heap) (f : Addr) (st : Option Stmt) : Prop := ∃ fd, FdIs fd st ∧ (∃ o, h.get? f = some o ∧ o.data = .func fd) ∧ h.CodeRec fd.code fd.qualname
/-- what the run has laid before law is called -/
structure HdF (h : Heap) : Prop where
  names : ∃ mg mb, h.Ns mainGlobals mg ∧ h.Ns builtinsNs mb ∧ ∀ p ∈ wdNames, mg p.1 = some p.2 ∨ (mg p.1 = none ∧ mb p.1 = some p.2)
  cls : ∃ K : Frag, K.In h ∧ ClsOK K 66 63 ∧ ∀ a o, K.lookup a = some o → a ≠ 185
  defs : ∀ p ∈ wdDefs, DefFact h p.1 (stAt p.2)
  init : DefFact h 63 initSt
  strm : ∃ fd o, h.get? 190 = some o ∧ o.data = .func fd ∧ fd.code = .ref 189 ∧ fd.qualname = ("_law_stream" : Str)
  head : CodeHd h 189 185
  tab : h.get? 185 = some (tabObj #[])
  top : ∃ o c, h.get? 66 = some o ∧ o.data = .cls c ∧ o.cls = .type "type"
  law : ∃ mg, h.Ns mainGlobals mg ∧ mg "law" = some (.ref 257)
theorem refOf_some {v : Value} {a : Addr} (e : refOf v = some a) : v = .ref a := by
  cases v <;> cases e
  rfl
theorem txtOf_some {v : Value} {x : Str} (e : txtOf v = some x) : ∃ t, v = .str x t := by
  cases v <;> cases e
  exact ⟨_, rfl⟩
theorem funcOf_some {o : Obj} {fd : FuncData} (e : funcOf o = some fd) : o.data = .func fd := by
  unfold funcOf at e
  split at e
  · cases e; assumption
  · cases e
theorem fldsOf_some {o : Obj} {vs : Array Value} (e : fldsOf o = some vs) : o.data = .fields vs := by
  unfold fldsOf at e
  split at e
  · cases e; assumption
  · cases e
theorem isCls_some {o : Obj} (e : isCls o = true) : ∃ c, o.data = .cls c := by
  unfold isCls at e
  split at e
  · exact ⟨_, by assumption⟩
  · cases e
theorem fdOf_some {h : Heap} {f : Addr} {fd : FuncData} (e : fdOf h f = some fd) : ∃ o, h.get? f = some o ∧ o.data = .func fd := by
  obtain ⟨o, a, b⟩ := Option.bind_eq_some_iff.mp e
  exact ⟨o, a, funcOf_some b⟩
theorem codeRec_of {h : Heap} {c : Value} {q : Str} (e : codeRecB h c q = true) : h.CodeRec c q := by
  obtain ⟨a, ea, e⟩ := (Option.any_eq_true ..).mp e
  obtain ⟨o, eo, e⟩ := (Option.any_eq_true ..).mp e
  obtain ⟨vs, es, e⟩ := (Option.any_eq_true ..).mp e
  obtain ⟨v, ev, e⟩ := (Option.any_eq_true ..).mp e
  obtain ⟨t, rfl⟩ := txtOf_some (beq_iff_eq.mp e)
  exact ⟨a, o, vs, t, refOf_some ea, eo, fldsOf_some es, ev⟩
theorem defFact_of {h : Heap} {f : Addr} {st : Option Stmt} (e1 : fdSee h f = some (stSee st)) (e2 : codeChk h f = true) : DefFact h f st := by
  obtain ⟨fd, e, q⟩ := Option.map_eq_some_iff.mp e1
  obtain ⟨fd', e', r⟩ := (Option.any_eq_true ..).mp e2
  rw [e] at e'
  cases e'
  obtain ⟨a, q⟩ := Prod.mk.inj q
  obtain ⟨b, q⟩ := Prod.mk.inj q
  obtain ⟨c, q⟩ := Prod.mk.inj q
  obtain ⟨d, q⟩ := Prod.mk.inj q
  obtain ⟨g, q⟩ := Prod.mk.inj q
  obtain ⟨i, q⟩ := Prod.mk.inj q
  obtain ⟨j, k⟩ := Prod.mk.inj q
  exact ⟨fd, ⟨a, b, c, d, g, i, j, k⟩, fdOf_some e, codeRec_of r⟩
theorem memLook : ∀ {l : Frag} {a : Addr} {o : Obj}, l.lookup a = some o → (a, o) ∈ l
  | [], _, _, h => by cases h
  | (b, p) :: r, a, o, h => by
    rw [List.lookup_cons] at h
    cases q : a == b with
    | true =>
      rw [q] at h
      obtain rfl : a = b := by simpa using q
      cases h; exact .head _
    | false => rw [q] at h; exact .tail _ (memLook h)
theorem frag_in (h : Heap) : ∀ a o, (hdFrag h).lookup a = some o → h.get? a = some o ∧ a ≠ 185 := fun a o e => by
  have hm := memLook e
  unfold hdFrag at hm
  obtain ⟨b, hb0, hb⟩ := List.mem_filterMap.mp hm
  obtain ⟨o', ho, q⟩ := Option.map_eq_some_iff.mp hb
  cases q
  refine ⟨ho, fun q => ?_⟩
  subst q
  simp at hb0
theorem both {a b : Bool} (e : (a && b) = true) : a = true ∧ b = true := Bool.and_eq_true_iff.mp e
theorem tab_some {h : Heap} {a : Addr} (e : tabChk h a = true) : h.get? a = some (tabObj #[]) := by
  obtain ⟨⟨cl, dc, da, sl⟩, eo, e⟩ := (Option.any_eq_true ..).mp e
  obtain ⟨e1, e⟩ := both e
  obtain ⟨e2, e⟩ := both e
  obtain ⟨e3, e⟩ := both e
  obtain ⟨vs, es, e⟩ := (Option.any_eq_true ..).mp e
  have e1 : cl = .none := beq_iff_eq.mp e1
  have e2 : dc = none := beq_iff_eq.mp e2
  have e3 : sl = #[] := Array.isEmpty_iff.mp e3
  have e4 : da = .fields vs := fldsOf_some es
  have e5 : vs = #[] := Array.isEmpty_iff.mp e
  rw [eo, e1, e2, e3, e4, e5]
theorem top_some {h : Heap} {a : Addr} (e : clsTop h a = true) : ∃ o c, h.get? a = some o ∧ o.data = .cls c ∧ o.cls = .type "type" := by
  obtain ⟨o, eo, e⟩ := (Option.any_eq_true ..).mp e
  obtain ⟨e1, e2⟩ := both e
  obtain ⟨c, e1⟩ := isCls_some e1
  exact ⟨o, c, eo, e1, beq_iff_eq.mp e2⟩
theorem strm_some {h : Heap} (e : strmChk h = true) : ∃ fd o, h.get? 190 = some o ∧ o.data = .func fd ∧ fd.code = .ref 189 ∧ fd.qualname = "_law_stream" := by
  obtain ⟨fd, ef, e⟩ := (Option.any_eq_true ..).mp e
  obtain ⟨e1, e2⟩ := both e
  obtain ⟨o, ho, hd⟩ := fdOf_some ef
  exact ⟨fd, o, ho, hd, beq_iff_eq.mp e1, beq_iff_eq.mp e2⟩
theorem cls_some {K : Frag} (e : clsChk K = true) : ClsOK K 66 63 := by
  obtain ⟨e, a10⟩ := both e
  obtain ⟨e, a9⟩ := both e
  obtain ⟨e, a8⟩ := both e
  obtain ⟨e, a7⟩ := both e
  obtain ⟨e, a6⟩ := both e
  obtain ⟨e, a5⟩ := both e
  obtain ⟨e, a4⟩ := both e
  obtain ⟨e, a3⟩ := both e
  obtain ⟨a1, a2⟩ := both e
  exact ⟨a1, beq_iff_eq.mp a2, beq_iff_eq.mp a3, a4, beq_iff_eq.mp a5, beq_iff_eq.mp a6, a7, beq_iff_eq.mp a8, beq_iff_eq.mp a9, beq_iff_eq.mp a10⟩
theorem name_some {h : Heap} {x : Str} {v : Value} (e : (nameAt h x == some v) = true) : h.nsMap mainGlobals x = some v ∨ (h.nsMap mainGlobals x = none ∧ h.nsMap builtinsNs x = some v) := by
  have e := beq_iff_eq.mp e
  unfold nameAt at e
  cases q : h.nsMap mainGlobals x with
  | none => rw [q] at e; exact .inr ⟨rfl, e⟩
  | some u => rw [q] at e; exact .inl e
theorem see_all {h : Heap} (e : (wdDefs.map Prod.fst ++ [(63 : Addr)]).map (fdSee h) = (wdDefs.map fun p => some (stSee (stAt p.2))) ++ [some (stSee initSt)]) : (∀ p ∈ wdDefs, fdSee h p.1 = some (stSee (stAt p.2))) ∧ fdSee h 63 = some (stSee initSt) := by
  rw [List.map_append, List.map_map] at e
  obtain ⟨e1, e2⟩ := List.append_inj' e rfl
  exact ⟨List.map_inj_left.mp e1, List.cons.inj e2 |>.1⟩
theorem hdF_of {w : World} {s : Shared} (e : hdObs s = hdVal w) : HdF s.heap := by
  obtain ⟨e, e2⟩ := Prod.mk.inj e
  obtain ⟨e, l1⟩ := both e
  obtain ⟨e, k1⟩ := both e
  obtain ⟨e, s1⟩ := both e
  obtain ⟨e, t1⟩ := both e
  obtain ⟨e, h1⟩ := both e
  obtain ⟨e, d1⟩ := both e
  obtain ⟨e, c1⟩ := both e
  obtain ⟨e, n3⟩ := both e
  obtain ⟨n1, n2⟩ := both e
  obtain ⟨v1, v2⟩ := see_all e2
  have d1 := List.all_eq_true.mp d1
  exact {
    names := ⟨_, _, Heap.Ns.of_isNs n1, Heap.Ns.of_isNs n2, fun p hp => name_some (List.all_eq_true.mp n3 p hp)⟩
    cls := ⟨hdFrag s.heap, fun a o e => (frag_in _ a o e).1, cls_some c1, fun a o e => (frag_in _ a o e).2⟩
    defs := fun p hp => defFact_of (v1 p hp) (d1 _ (List.mem_append_left _ (List.mem_map_of_mem hp)))
    init := defFact_of v2 (d1 _ (List.mem_append_right _ List.mem_cons_self))
    strm := strm_some s1
    head := codeHd_of_K (fun a o e => (frag_in _ a o e).1) h1
    tab := tab_some t1
    top := top_some k1
    law := ⟨_, Heap.Ns.of_isNs n1, beq_iff_eq.mp l1⟩ }
end Mine
end

section
open PySem PySem.Calls PyProof.Rows PySem.W
namespace Mine
/-- the run's constants: the heap without the one table that turns -/
noncomputable def gcOf (w : World) (h : Heap) : GC := { prog := pw, w := w, B := ghostOf h [(189, 185)], tab := 185, tpos := lamPos, tqual := ("_law_stream" : Str) ++ ".<locals>." ++ "<lambda>" }
section
variable {w : World} {h : Heap}
theorem HdF.tabs (x : HdF h) : TabsAt [((189 : Addr), (185 : Addr))] h := fun q hq => by
  obtain rfl := List.mem_singleton.mp hq
  exact ⟨x.head, x.tab⟩
theorem DefFact.ghost {f : Addr} {st : Option Stmt} (x : HdF h) (d : DefFact h f st) : ∃ fd, FdIs fd st ∧ (∃ o, (gcOf w h).B.get? f = some o ∧ o.data = .func fd) ∧ (gcOf w h).B.CodeRec fd.code fd.qualname := by
  obtain ⟨fd, F, ⟨o, ho, hd⟩, ⟨c, oc, vs, t, e1, e2, e3, e4⟩⟩ := d
  refine ⟨fd, F, ⟨o, ghost_get x.tabs ho (fun q => by rw [q] at hd; cases hd), hd⟩, ⟨c, oc, vs, t, e1, ghost_get x.tabs e2 (fun q => ?_), e3, e4⟩⟩
  rw [q] at e3
  cases e3
  simp at e4
theorem HdF.wd (x : HdF h) (hl : h.NoLimit) : Wd (gcOf w h) where
  nolimit := let ⟨mc, a, r⟩ := hl; ⟨mc, ghost_ns x.tabs a, r⟩
  gn := fun p hp => by
    obtain ⟨mg, mb, n1, n2, n3⟩ := x.names
    exact ⟨mg, ghost_ns x.tabs n1, (n3 p hp).imp id fun q => ⟨q.1, mb, ghost_ns x.tabs n2, q.2⟩⟩
  df := fun p hp => DefFact.ghost x (x.defs p hp)
  ex := by
    obtain ⟨o, c, e, d, k⟩ := x.top
    intro M h' st
    have e' := st.stays _ _ (show (gcOf w h).B.get? 66 = some o from ghost_get x.tabs e (fun q => by rw [q] at d; cases d))
    refine ⟨.machine, .inr (.inl rfl), ?_⟩
    refine (Looks.ld (part := Option.none) e').andThen ?_
    rw [d]
    show Looks M h' (do let x ← (do typeLookup (← typeOf (.ref 66)) "__call__"); pure (if x == some (.builtin "type.__call__") then Keeper.machine else .caller)) .machine
    refine Looks.andThen (a := some (.builtin "type.__call__")) (Looks.andThen (a := Value.type "type") ?_ (Looks.of_pure PySem.F.lookup_type_call)) ?_
    · have q : Looks M h' (loadPart 66 (some headPart) >>= fun x => pure x.cls) o.cls := (Looks.ld e').andThen .now
      rw [k] at q
      exact q
    · exact Looks.now
theorem HdF.strmOK (x : HdF h) (hb : ∃ mg, h.Ns mainGlobals mg ∧ h.BuiltinsAt mg 185) : StrmOK (gcOf w h) where
  ex := by
    obtain ⟨K, k1, k2, k3⟩ := x.cls
    exact ⟨K, fun a o e => ghost_ne (k1 a o e) (by simpa using k3 a o e), k2⟩
  init := DefFact.ghost x x.init
  def_ := by
    obtain ⟨fd, F, ⟨o, ho, hd⟩, hc⟩ := DefFact.ghost (w := w) x (x.defs (190, 26) (by unfold wdDefs; simp))
    obtain ⟨fd', o', e1, e2, e3, e4⟩ := x.strm
    have e5 : (gcOf w h).B.get? 190 = some o' := ghost_get x.tabs e1 (fun q => by rw [q] at e2; cases e2)
    rw [ho] at e5; cases e5
    rw [hd] at e2; cases e2
    exact ⟨fd, F, ⟨o, ho, hd⟩, hc, e3, by rw [e4]; rfl⟩
  head := (ghost_code x.tabs).1
  pos := rfl
  gl := by
    obtain ⟨mg, n, b⟩ := hb
    obtain ⟨bm, o, b1, b2, b3, b4, b5, b6⟩ := b
    exact ⟨mg, ghost_ns x.tabs n, bm, o, b1, b2, b3, b4, ghost_ne b5 (by simpa using b4), b6⟩
  gP := by show (mainGlobals : Addr) ≠ 185; decide
  tabB := by
    show (hideAll h [185]).get? 185 = none
    exact hideAll_none _ List.mem_cons_self
end
end Mine
end

section
open PySem PySem.Calls PyProof.Rows PySem.W
namespace Mine
theorem DefFact.keeps {h h' : Heap} (k : ∀ b o, h.get? b = some o → h'.get? b = some o) {f : Addr} {st : Option Stmt} (d : DefFact h f st) : DefFact h' f st := by
  obtain ⟨fd, F, ⟨o, ho, hd⟩, c⟩ := d
  exact ⟨fd, F, ⟨o, k _ _ ho, hd⟩, c.keeps k⟩
theorem HdF.keeps {h h' : Heap} (x : HdF h) (k : ∀ b o, h.get? b = some o → h'.get? b = some o) : HdF h' where
  names := let ⟨mg, mb, a, b, c⟩ := x.names; ⟨mg, mb, a.keeps k, b.keeps k, c⟩
  cls := let ⟨K, a, b, c⟩ := x.cls; ⟨K, fun p o e => k _ _ (a p o e), b, c⟩
  defs := fun p hp => (x.defs p hp).keeps k
  init := x.init.keeps k
  strm := let ⟨fd, o, a, b⟩ := x.strm; ⟨fd, o, k _ _ a, b⟩
  head := x.head.keeps k
  tab := k _ _ x.tab
  top := let ⟨o, c, a, b⟩ := x.top; ⟨o, c, k _ _ a, b⟩
  law := let ⟨mg, a, b⟩ := x.law; ⟨mg, a.keeps k, b⟩
end Mine
end

section
open PySem PySem.Calls PyProof.Rows PySem.W
namespace Mine
/-! the plain law: lists of texts in order -/
noncomputable def LtS (a b : Str) : Prop := a.cps.toList < b.cps.toList
noncomputable abbrev StrictS (l : List Str) : Prop := l.Pairwise LtS
theorem LtS.irr (a : Str) : ¬ LtS a a := fun h => List.lt_irrefl _ h
theorem LtS.tr {a b c : Str} (h : LtS a b) (k : LtS b c) : LtS a c := List.lt_trans h k
theorem LtS.asy {a b : Str} (h : LtS a b) : ¬ LtS b a := List.lt_asymm h
theorem LtS.ne {a b : Str} (h : LtS a b) : a ≠ b := fun e => LtS.irr b (e ▸ h)
theorem LtS.tri {a b : Str} (h : ¬ LtS a b) (k : ¬ LtS b a) : a = b := by
  have := List.le_antisymm (List.not_lt.mp k) (List.not_lt.mp h)
  cases a; cases b; simp only [Str.mk.injEq]; exact Array.toList_inj.mp this
theorem StrictS.nodup {l : List Str} (h : StrictS l) : l.Nodup := List.Pairwise.imp LtS.ne h
theorem ltCps_lt (a b : Str) : PySem.Spec.ltCps b.cps.toList a.cps.toList = false ↔ ¬ LtS b a := by
  rw [ltCps_eq, decide_eq_false_iff_not]; rfl
theorem rising_iff : ∀ (p : Str) (l : List Str), risingS p l = true ↔ (p :: l).Pairwise fun a b => ¬ LtS b a
  | p, [] => by simp [risingS]
  | p, x :: r => by
    have ih := rising_iff x r
    rw [risingS, Bool.and_eq_true, ih, List.pairwise_cons (a := p)]
    have e : (!PySem.Spec.ltCps x.cps.toList p.cps.toList) = true ↔ ¬ LtS x p := by rw [Bool.not_eq_true', ltCps_lt]
    rw [e]
    refine ⟨fun ⟨a, b⟩ => ⟨fun y hy => ?_, b⟩, fun ⟨a, b⟩ => ⟨a x List.mem_cons_self, b⟩⟩
    rcases List.mem_cons.mp hy with rfl | hy
    · exact a
    · intro q
      have h1 := (List.pairwise_cons.mp b).1 y hy
      by_cases c : LtS p x
      · exact h1 (q.tr c)
      · exact h1 (LtS.tri c a ▸ q)
theorem sorted_iff (l : List Str) : sortedS l = true ↔ l.Pairwise fun a b => ¬ LtS b a := by
  cases l with
  | nil => simp [sortedS]
  | cons x r => exact rising_iff x r
noncomputable def leB (a b : Str) : Bool := !decide (b.cps.toList < a.cps.toList)
theorem leB_iff (a b : Str) : leB a b = true ↔ ¬ LtS b a := by
  unfold leB LtS
  rw [Bool.not_eq_true', decide_eq_false_iff_not]
noncomputable def sortS (l : List Str) : List Str := l.mergeSort leB
theorem sortS_perm (l : List Str) : (sortS l).Perm l := List.mergeSort_perm l _
theorem sortS_sorted (l : List Str) : (sortS l).Pairwise fun a b => ¬ LtS b a := by
  have := List.pairwise_mergeSort (le := leB) (fun a b c h k => (leB_iff _ _).mpr fun q => by
    have h := (leB_iff _ _).mp h
    have k := (leB_iff _ _).mp k
    by_cases e : LtS a b
    · exact k (q.tr e)
    · have := LtS.tri e h; subst this; exact k q) (fun a b => by
    rw [Bool.or_eq_true, leB_iff, leB_iff]
    by_cases h : LtS b a
    · exact .inr h.asy
    · exact .inl h) l
  exact this.imp fun h => (leB_iff _ _).mp h
theorem sort_uniq {l l' : List Str} (hp : l'.Perm l) (hs : sortedS l' = true) : l' = sortS l :=
  List.Perm.eq_of_pairwise (le := fun a b => ¬ LtS b a) (fun a b _ _ h k => LtS.tri k h) ((sorted_iff _).mp hs) (sortS_sorted l) (hp.trans (sortS_perm l).symm)
theorem strict_of {l : List Str} (h : l.Pairwise fun a b => ¬ LtS b a) (hn : l.Nodup) : StrictS l :=
  (h.and hn).imp fun ⟨a, b⟩ => Classical.byContradiction fun c => b (LtS.tri c a)
theorem nodup_perm {l m : List Str} (hl : l.Nodup) (hm : m.Nodup) (h : ∀ x, x ∈ l ↔ x ∈ m) : l.Perm m := by
  rw [List.perm_iff_count]
  intro a
  rw [hl.count, hm.count]
  by_cases c : a ∈ l
  · rw [if_pos c, if_pos ((h a).mp c)]
  · rw [if_neg c, if_neg fun q => c ((h a).mpr q)]
/-- l without what m holds -/
noncomputable def lacks (l m : List Str) : List Str := l.filter fun x => !m.contains x
theorem mem_lacks {l m : List Str} {x : Str} : x ∈ lacks l m ↔ x ∈ l ∧ x ∉ m := by
  unfold lacks
  rw [List.mem_filter, Bool.not_eq_true', ← Bool.not_eq_true, List.contains_iff_mem]
theorem lacks_nil (l : List Str) : lacks l [] = l := List.filter_eq_self.mpr fun _ _ => rfl
theorem lacks_cons {x : Str} {l m : List Str} (h : x ∉ m) : lacks (x :: l) m = x :: lacks l m := by
  unfold lacks
  rw [List.filter_cons, if_pos]
  rw [Bool.not_eq_true', ← Bool.not_eq_true, List.contains_iff_mem]; exact h
theorem lacks_in {x : Str} {l m : List Str} (h : x ∈ m) : lacks (x :: l) m = lacks l m := by
  unfold lacks
  rw [List.filter_cons, if_neg]
  rw [Bool.not_eq_true', ← Bool.not_eq_true, List.contains_iff_mem]; exact fun q => q h
theorem lacks_out {x : Str} {l m : List Str} (h : x ∉ l) : lacks l (x :: m) = lacks l m := by
  refine List.filter_congr fun z hz => ?_
  have : z ≠ x := fun e => h (e ▸ hz)
  rw [List.contains_cons, show (z == x) = false by simpa using this, Bool.false_or]
theorem lt_notin {x y : Str} {m : List Str} (h : LtS x y) (hm : StrictS (y :: m)) : x ∉ y :: m := fun q => by
  rcases List.mem_cons.mp q with e | q
  · exact LtS.ne h e
  · exact LtS.irr x (LtS.tr h ((List.pairwise_cons.mp hm).1 x q))
theorem strict_notin {x : Str} {m : List Str} (hm : StrictS (x :: m)) : x ∉ m := fun q => LtS.irr x ((List.pairwise_cons.mp hm).1 x q)
theorem sld_eq (l m : List Str) : StrictS l → StrictS m → sld l m = (lacks l m, lacks m l) := by
  fun_induction sld l m with
  | case1 m => intro _ _; rw [lacks_nil]; rfl
  | case2 x l => intro _ _; rw [lacks_nil]; rfl
  | case3 x l y m h ih =>
    intro hl hm
    have h1 := lt_notin h hm
    rw [ih (List.pairwise_cons.mp hl).2 hm, lacks_cons h1, lacks_out h1]
  | case4 x l y m h h' ih =>
    intro hl hm
    have h1 := lt_notin h' hl
    rw [ih hl (List.pairwise_cons.mp hm).2, lacks_cons h1, lacks_out h1]
  | case5 x l y m h h' ih =>
    intro hl hm
    obtain rfl : x = y := LtS.tri h h'
    rw [ih (List.pairwise_cons.mp hl).2 (List.pairwise_cons.mp hm).2, lacks_in List.mem_cons_self, lacks_in List.mem_cons_self, lacks_out (strict_notin hl), lacks_out (strict_notin hm)]
/-- what one of two lists has, in order -/
theorem mem_sym {l m : List Str} {x : Str} : x ∈ lacks l m ++ lacks m l ↔ ¬ (x ∈ l ↔ x ∈ m) := by
  rw [List.mem_append, mem_lacks, mem_lacks]
  by_cases a : x ∈ l <;> by_cases b : x ∈ m <;> simp [a, b]
theorem lacks_nodup {l m : List Str} (h : l.Nodup) : (lacks l m).Nodup := h.sublist List.filter_sublist
theorem sym_nodup {l m : List Str} (h : l.Nodup) (k : m.Nodup) : (lacks l m ++ lacks m l).Nodup :=
  List.nodup_append.mpr ⟨lacks_nodup h, lacks_nodup k, fun a ha b hb e => (mem_lacks.mp (e ▸ ha)).2 (mem_lacks.mp hb).1⟩
end Mine
end

section
namespace Mine
/-! six files, three pairs: what parts them -/
/-- 1 if the set (a number's bits) parts the pair -/
noncomputable def cutB (p : Nat × Nat) (v : Nat) : Nat := Nat.land (Nat.xor (Nat.shiftRight v p.1) (Nat.shiftRight v p.2)) 1
noncomputable def sepB (r : List (Nat × Nat)) (v : Nat) : Nat := match r with
  | [a, b, c] => Nat.add (cutB a v) (Nat.add (cutB b v) (cutB c v))
  | _ => 0
noncomputable def lamB (v w : Nat) : Bool := Nat.beq (Nat.land v w) v || Nat.beq (Nat.land v w) w || Nat.beq (Nat.land v w) 0
noncomputable def rowsB : List (List (Nat × Nat)) := [[(0, 5), (1, 4), (2, 3)], [(0, 5), (2, 4), (1, 3)], [(0, 5), (3, 4), (1, 2)], [(1, 5), (0, 4), (2, 3)],
  [(1, 5), (2, 4), (0, 3)], [(1, 5), (3, 4), (0, 2)], [(2, 5), (0, 4), (1, 3)], [(2, 5), (1, 4), (0, 3)],
  [(2, 5), (3, 4), (0, 1)], [(3, 5), (0, 4), (1, 2)], [(3, 5), (1, 4), (0, 2)], [(3, 5), (2, 4), (0, 1)],
  [(4, 5), (0, 3), (1, 2)], [(4, 5), (1, 3), (0, 2)], [(4, 5), (2, 3), (0, 1)]]
noncomputable def upTo : Nat → List Nat
  | 0 => []
  | n + 1 => n :: upTo n
noncomputable def sizeB (v : Nat) : Nat := Nat.add (Nat.land v 1) (Nat.add (Nat.land (Nat.shiftRight v 1) 1) (Nat.add (Nat.land (Nat.shiftRight v 2) 1) (Nat.add (Nat.land (Nat.shiftRight v 3) 1) (Nat.add (Nat.land (Nat.shiftRight v 4) 1) (Nat.land (Nat.shiftRight v 5) 1)))))
noncomputable def lessB (v : Nat) : Nat := if Nat.blt 3 (sizeB v) then Nat.sub 6 (sizeB v) else sizeB v
theorem fewer_chk : (rowsB.all fun r => (upTo 64).all fun v => Nat.ble (sepB r v) 1 || rowsB.any fun q => Nat.blt (sepB q v) (sepB r v) && (upTo 64).all fun w => !lamB v w || Nat.ble (sepB q w) (sepB r w)) = true := by
  decide +kernel
theorem more_chk : (rowsB.all fun r => (upTo 64).all fun v => Nat.ble (lessB v) (sepB r v) || rowsB.any fun q => Nat.blt (sepB r v) (sepB q v) && (upTo 64).all fun w => !lamB v w || Nat.ble (sepB r w) (sepB q w)) = true := by
  decide +kernel
theorem sep_chk : (rowsB.all fun r => (upTo 64).all fun v => Nat.ble (sepB r v) (lessB v) && Nat.beq (Nat.land (sepB r v) 1) (Nat.land (sizeB v) 1)) = true := by
  decide +kernel
end Mine
end

section
open PySem PySem.Calls PyProof.Rows PySem.W
namespace Mine
/-! a set of files as a number's bits -/
noncomputable def mk6 (a b c d e f : Bool) : Nat := a.toNat + 2 * b.toNat + 4 * c.toNat + 8 * d.toNat + 16 * e.toNat + 32 * f.toNat
noncomputable def maskS (S : Nat → Bool) : Nat := mk6 (S 0) (S 1) (S 2) (S 3) (S 4) (S 5)
theorem mask_lt (S : Nat → Bool) : maskS S < 64 := by
  unfold maskS mk6
  have h : ∀ b : Bool, b.toNat ≤ 1 := fun b => by cases b <;> decide
  have := h (S 0); have := h (S 1); have := h (S 2); have := h (S 3); have := h (S 4); have := h (S 5)
  lia
theorem bit_chk : ∀ a b c d e f : Bool, (mk6 a b c d e f).testBit 0 = a ∧ (mk6 a b c d e f).testBit 1 = b ∧ (mk6 a b c d e f).testBit 2 = c ∧ (mk6 a b c d e f).testBit 3 = d ∧ (mk6 a b c d e f).testBit 4 = e ∧ (mk6 a b c d e f).testBit 5 = f ∧
    sizeB (mk6 a b c d e f) = a.toNat + (b.toNat + (c.toNat + (d.toNat + (e.toNat + f.toNat)))) := by decide +kernel
theorem lt6_chk : ∀ i, i < 6 → i = 0 ∨ i = 1 ∨ i = 2 ∨ i = 3 ∨ i = 4 ∨ i = 5 := by decide
theorem lt6 {i : Nat} (h : i < 6) : i = 0 ∨ i = 1 ∨ i = 2 ∨ i = 3 ∨ i = 4 ∨ i = 5 := lt6_chk i h
theorem mask_bit (S : Nat → Bool) {i : Nat} (h : i < 6) : (maskS S).testBit i = S i := by
  obtain ⟨a, b, c, d, e, f, _⟩ := bit_chk (S 0) (S 1) (S 2) (S 3) (S 4) (S 5)
  rcases lt6 h with rfl | rfl | rfl | rfl | rfl | rfl <;> assumption
theorem mask_size (S : Nat → Bool) : sizeB (maskS S) = (S 0).toNat + ((S 1).toNat + ((S 2).toNat + ((S 3).toNat + ((S 4).toNat + (S 5).toNat)))) := (bit_chk (S 0) (S 1) (S 2) (S 3) (S 4) (S 5)).2.2.2.2.2.2
theorem cut_bits (a b v : Nat) : cutB (a, b) v = if v.testBit a = v.testBit b then 0 else 1 := by
  unfold cutB
  show ((v >>> a) ^^^ (v >>> b)) &&& 1 = _
  have h : ∀ n : Nat, n &&& 1 = (n.testBit 0).toNat := fun n => by
    rw [Nat.and_one_is_mod, Nat.testBit_zero]
    rcases Nat.mod_two_eq_zero_or_one n with e | e <;> rw [e] <;> rfl
  rw [h, Nat.testBit_xor, Nat.testBit_shiftRight, Nat.testBit_shiftRight, Nat.add_zero, Nat.add_zero]
  cases v.testBit a <;> cases v.testBit b <;> rfl
theorem cut_mask (S : Nat → Bool) {a b : Nat} (ha : a < 6) (hb : b < 6) : cutB (a, b) (maskS S) = if S a = S b then 0 else 1 := by
  rw [cut_bits, mask_bit S ha, mask_bit S hb]
theorem mask_high (S : Nat → Bool) {i : Nat} (h : ¬ i < 6) : (maskS S).testBit i = false :=
  Nat.testBit_lt_two_pow (Nat.lt_of_lt_of_le (mask_lt S) (Nat.pow_le_pow_right (by decide) (Nat.le_of_not_lt h) : 2 ^ 6 ≤ 2 ^ i))
theorem lam_mask {S T : Nat → Bool} (h : (∀ i, i < 6 → S i = true → T i = true) ∨ (∀ i, i < 6 → T i = true → S i = true) ∨ (∀ i, i < 6 → S i = true → T i = false)) : lamB (maskS S) (maskS T) = true := by
  unfold lamB
  rw [Bool.or_eq_true, Bool.or_eq_true, Nat.beq_eq, Nat.beq_eq, Nat.beq_eq]
  show ((maskS S &&& maskS T) = _ ∨ (maskS S &&& maskS T) = _) ∨ (maskS S &&& maskS T) = 0
  rcases h with h | h | h
  · refine .inl (.inl (Nat.eq_of_testBit_eq fun i => ?_))
    rw [Nat.testBit_and]
    by_cases q : i < 6
    · rw [mask_bit S q, mask_bit T q]
      cases e : S i with
      | false => rfl
      | true => rw [h i q e]; rfl
    · rw [mask_high S q]; rfl
  · refine .inl (.inr (Nat.eq_of_testBit_eq fun i => ?_))
    rw [Nat.testBit_and]
    by_cases q : i < 6
    · rw [mask_bit S q, mask_bit T q]
      cases e : T i with
      | false => exact Bool.and_false _
      | true => rw [h i q e]; rfl
    · rw [mask_high S q, mask_high T q]; rfl
  · refine .inr (Nat.eq_of_testBit_eq fun i => ?_)
    rw [Nat.testBit_and, Nat.zero_testBit]
    by_cases q : i < 6
    · rw [mask_bit S q, mask_bit T q]
      cases e : S i with
      | false => rfl
      | true => rw [h i q e]; rfl
    · rw [mask_high S q]; rfl
theorem mem_upTo : ∀ {n v : Nat}, v < n → v ∈ upTo n
  | n + 1, v, h => by
    by_cases e : v = n
    · subst e; exact .head _
    · exact .tail _ (mem_upTo (by lia))
theorem row_shape : ∀ r ∈ rowsB, ∃ a b c, r = [a, b, c] ∧ a.1 < a.2 ∧ a.2 < 6 ∧ b.1 < b.2 ∧ b.2 < 6 ∧ c.1 < c.2 ∧ c.2 < 6 := by
  have : (rowsB.all fun r => match r with
    | [a, b, c] => decide (a.1 < a.2 ∧ a.2 < 6 ∧ b.1 < b.2 ∧ b.2 < 6 ∧ c.1 < c.2 ∧ c.2 < 6)
    | _ => false) = true := by decide +kernel
  intro r hr
  have h := List.all_eq_true.mp this r hr
  match r, h with
  | [a, b, c], h => exact ⟨a, b, c, rfl, of_decide_eq_true h⟩
theorem fewer {r : List (Nat × Nat)} (hr : r ∈ rowsB) {v : Nat} (hv : v < 64) (h : 1 < sepB r v) : ∃ q ∈ rowsB, sepB q v < sepB r v ∧ ∀ w, w < 64 → lamB v w = true → sepB q w ≤ sepB r w := by
  have h1 := List.all_eq_true.mp (List.all_eq_true.mp fewer_chk r hr) v (mem_upTo hv)
  rw [Bool.or_eq_true] at h1
  rcases h1 with h1 | h1
  · exact absurd (Nat.le_of_ble_eq_true h1) (Nat.not_le.mpr h)
  · obtain ⟨q, hq, h2⟩ := List.any_eq_true.mp h1
    rw [Bool.and_eq_true] at h2
    refine ⟨q, hq, Nat.le_of_ble_eq_true h2.1, fun w hw hl => ?_⟩
    have h3 := List.all_eq_true.mp h2.2 w (mem_upTo hw)
    rw [hl] at h3
    exact Nat.le_of_ble_eq_true (by simpa using h3)
theorem more {r : List (Nat × Nat)} (hr : r ∈ rowsB) {v : Nat} (hv : v < 64) (h : sepB r v < lessB v) : ∃ q ∈ rowsB, sepB r v < sepB q v ∧ ∀ w, w < 64 → lamB v w = true → sepB r w ≤ sepB q w := by
  have h1 := List.all_eq_true.mp (List.all_eq_true.mp more_chk r hr) v (mem_upTo hv)
  rw [Bool.or_eq_true] at h1
  rcases h1 with h1 | h1
  · exact absurd (Nat.le_of_ble_eq_true h1) (Nat.not_le.mpr h)
  · obtain ⟨q, hq, h2⟩ := List.any_eq_true.mp h1
    rw [Bool.and_eq_true] at h2
    refine ⟨q, hq, Nat.le_of_ble_eq_true h2.1, fun w hw hl => ?_⟩
    have h3 := List.all_eq_true.mp h2.2 w (mem_upTo hw)
    rw [hl] at h3
    exact Nat.le_of_ble_eq_true (by simpa using h3)
theorem sep_le {r : List (Nat × Nat)} (hr : r ∈ rowsB) {v : Nat} (hv : v < 64) : sepB r v ≤ lessB v ∧ sepB r v % 2 = sizeB v % 2 := by
  have h1 := List.all_eq_true.mp (List.all_eq_true.mp sep_chk r hr) v (mem_upTo hv)
  rw [Bool.and_eq_true] at h1
  refine ⟨Nat.le_of_ble_eq_true h1.1, ?_⟩
  have := Nat.eq_of_beq_eq_true h1.2
  rw [← Nat.and_one_is_mod, ← Nat.and_one_is_mod]
  exact this
/-- sums of two like lists -/
theorem sum_le {α : Type} (f g : α → Nat) : ∀ (l : List α), (∀ x ∈ l, f x ≤ g x) → (l.map f).sum ≤ (l.map g).sum
  | [], _ => Nat.le_refl _
  | x :: r, h => by
    have h1 := sum_le f g r fun y hy => h y (.tail _ hy)
    have h2 := h x (.head _)
    simp only [List.map_cons, List.sum_cons]; lia
theorem sum_lt {α : Type} (f g : α → Nat) : ∀ (l : List α), (∀ x ∈ l, f x ≤ g x) → ∀ y ∈ l, f y < g y → (l.map f).sum < (l.map g).sum
  | x :: r, h, y, hy, hl => by
    have h1 := sum_le f g r fun y hy => h y (.tail _ hy)
    have h2 := h x (.head _)
    simp only [List.map_cons, List.sum_cons]
    rcases List.mem_cons.mp hy with rfl | hy
    · lia
    · have := sum_lt f g r (fun y hy => h y (.tail _ hy)) y hy hl; lia
theorem arg_min {α : Type} (f : α → Nat) : ∀ (l : List α), l ≠ [] → ∃ r ∈ l, ∀ q ∈ l, f r ≤ f q
  | [], h => absurd rfl h
  | [x], _ => ⟨x, .head _, fun q hq => by rw [List.mem_singleton.mp hq]; exact Nat.le_refl _⟩
  | x :: y :: r, _ => by
    obtain ⟨m, hm, h⟩ := arg_min f (y :: r) (by simp)
    by_cases c : f x ≤ f m
    · exact ⟨x, .head _, fun q hq => by rcases List.mem_cons.mp hq with rfl | hq; exact Nat.le_refl _; exact Nat.le_trans c (h q hq)⟩
    · exact ⟨m, .tail _ hm, fun q hq => by rcases List.mem_cons.mp hq with rfl | hq; lia; exact h q hq⟩
theorem arg_max {α : Type} (f : α → Nat) : ∀ (l : List α), l ≠ [] → ∃ r ∈ l, ∀ q ∈ l, f q ≤ f r
  | [], h => absurd rfl h
  | [x], _ => ⟨x, .head _, fun q hq => by rw [List.mem_singleton.mp hq]; exact Nat.le_refl _⟩
  | x :: y :: r, _ => by
    obtain ⟨m, hm, h⟩ := arg_max f (y :: r) (by simp)
    by_cases c : f m ≤ f x
    · exact ⟨x, .head _, fun q hq => by rcases List.mem_cons.mp hq with rfl | hq; exact Nat.le_refl _; exact Nat.le_trans (h q hq) c⟩
    · exact ⟨m, .tail _ hm, fun q hq => by rcases List.mem_cons.mp hq with rfl | hq; lia; exact h q hq⟩
/-- a family of sets, each two of which lie one in the other or apart -/
theorem fewest {α : Type} (U : List α) (V : α → Nat) (hV : ∀ x, V x < 64) (hl : ∀ x y, lamB (V x) (V y) = true) : ∃ r ∈ rowsB, ∀ x ∈ U, sepB r (V x) ≤ 1 := by
  obtain ⟨r, hr, h⟩ := arg_min (fun r => (U.map fun x => sepB r (V x)).sum) rowsB (by decide)
  refine ⟨r, hr, fun x hx => Nat.le_of_not_lt fun c => ?_⟩
  obtain ⟨q, hq, h1, h2⟩ := fewer hr (hV x) c
  have h3 := sum_lt (fun x => sepB q (V x)) (fun x => sepB r (V x)) U (fun y hy => h2 _ (hV y) (hl x y)) x hx h1
  have h4 := h q hq
  exact absurd h3 (Nat.not_lt.mpr h4)
theorem mostest {α : Type} (U : List α) (V : α → Nat) (hV : ∀ x, V x < 64) (hl : ∀ x y, lamB (V x) (V y) = true) : ∃ r ∈ rowsB, ∀ x ∈ U, lessB (V x) ≤ sepB r (V x) := by
  obtain ⟨r, hr, h⟩ := arg_max (fun r => (U.map fun x => sepB r (V x)).sum) rowsB (by decide)
  refine ⟨r, hr, fun x hx => Nat.le_of_not_lt fun c => ?_⟩
  obtain ⟨q, hq, h1, h2⟩ := more hr (hV x) c
  have h3 := sum_lt (fun x => sepB r (V x)) (fun x => sepB q (V x)) U (fun y hy => h2 _ (hV y) (hl x y)) x hx h1
  have h4 := h q hq
  exact absurd h3 (Nat.not_lt.mpr h4)
end Mine
end

section
open PySem PySem.Calls PyProof.Rows PySem.W
namespace Mine
/-! lines of folders: each two go together for a while and then part -/
structure TL (ls : Nat → List Str) : Prop where
  srt : ∀ i, StrictS (ls i)
  pre : ∀ i j p q x, (ls i)[p]? = some x → (ls j)[q]? = some x → p = q ∧ (ls i).take (p + 1) = (ls j).take (p + 1)
  root : ∀ i, ("/" : Str) ∉ ls i
  short : ∀ i, (ls i).length ≤ 3
noncomputable def symL (l m : List Str) : List Str := lacks l m ++ lacks m l
noncomputable def wayL (l m : List Str) : List Str := symL l m ++ [(comL l m).getLastD "/"]
theorem comL_take : ∀ l m : List Str, comL l m = l.take (comL l m).length
  | [], [] => rfl
  | [], _ :: _ => rfl
  | _ :: _, [] => rfl
  | x :: l, y :: m => by
    unfold comL
    by_cases e : x = y
    · rw [if_pos e, List.length_cons, List.take_succ_cons, ← comL_take l m]
    · rw [if_neg e]; rfl
theorem comL_take' (l m : List Str) : comL l m = m.take (comL l m).length := by rw [comL_comm]; exact comL_take m l
theorem lacks_all {l m : List Str} (h : ∀ x ∈ l, x ∉ m) : lacks l m = l := List.filter_eq_self.mpr fun x hx => by
  rw [Bool.not_eq_true', ← Bool.not_eq_true, List.contains_iff_mem]; exact h x hx
theorem lacks_drop : ∀ (l m : List Str), (∀ p q x, l[p]? = some x → m[q]? = some x → p = q ∧ l.take (p + 1) = m.take (p + 1)) → l.Nodup → m.Nodup → lacks l m = l.drop (comL l m).length
  | [], [], _, _, _ => rfl
  | [], _ :: _, _, _, _ => rfl
  | _ :: _, [], _, _, _ => lacks_nil _
  | x :: l, y :: m, h, hl, hm => by
    unfold comL
    by_cases e : x = y
    · subst e
      rw [if_pos rfl, lacks_in List.mem_cons_self, lacks_out (List.nodup_cons.mp hl).1, List.length_cons, List.drop_succ_cons]
      refine lacks_drop l m (fun p q z hp hq => ?_) (List.nodup_cons.mp hl).2 (List.nodup_cons.mp hm).2
      obtain ⟨a, b⟩ := h (p + 1) (q + 1) z (by simpa using hp) (by simpa using hq)
      refine ⟨by lia, ?_⟩
      rw [List.take_succ_cons, List.take_succ_cons] at b
      exact (List.cons.inj b).2
    · rw [if_neg e]
      refine lacks_all fun z hz hz' => e ?_
      obtain ⟨p, hp⟩ := List.getElem?_of_mem hz
      obtain ⟨q, hq⟩ := List.getElem?_of_mem hz'
      have b := (h p q z hp hq).2
      rw [List.take_succ_cons, List.take_succ_cons] at b
      exact (List.cons.inj b).1
section
variable {ls : Nat → List Str} (h : TL ls)
include h
theorem TL.drop (i j : Nat) : lacks (ls i) (ls j) = (ls i).drop (comL (ls i) (ls j)).length := lacks_drop _ _ (h.pre i j) (h.srt i).nodup (h.srt j).nodup
theorem TL.drop' (i j : Nat) : lacks (ls j) (ls i) = (ls j).drop (comL (ls i) (ls j)).length := by rw [comL_comm]; exact h.drop j i
theorem TL.below {i j p q : Nat} {f v : Str} (hf : (ls i)[p]? = some f) (hv : (ls i)[q]? = some v) (hpq : p ≤ q) (hj : v ∈ ls j) : f ∈ ls j := by
  obtain ⟨s, hs⟩ := List.getElem?_of_mem hj
  have e := (h.pre i j q s v hv hs).2
  have : f ∈ (ls i).take (q + 1) := List.mem_of_getElem? (i := p) (by rw [List.getElem?_take_of_lt (by lia)]; exact hf)
  rw [e] at this
  exact List.mem_of_mem_take this
theorem TL.com_mem {i j : Nat} {f : Str} (hi : f ∈ ls i) (hj : f ∈ ls j) : f ∈ comL (ls i) (ls j) := by
  have h1 : f ∉ lacks (ls i) (ls j) := fun q => (mem_lacks.mp q).2 hj
  rw [h.drop] at h1
  have h2 : f ∈ (ls i).take (comL (ls i) (ls j)).length ++ (ls i).drop (comL (ls i) (ls j)).length := by rw [List.take_append_drop]; exact hi
  rw [comL_take]
  exact (List.mem_append.mp h2).resolve_right h1
end
/-- the files in or below a folder -/
noncomputable def inF (ls : Nat → List Str) (f : Str) (i : Nat) : Bool := (ls i).contains f
theorem inF_iff {ls : Nat → List Str} {f : Str} {i : Nat} : inF ls f i = true ↔ f ∈ ls i := List.contains_iff_mem
noncomputable def maskF (ls : Nat → List Str) (f : Str) : Nat := maskS (inF ls f)
theorem TL.lam {ls : Nat → List Str} (h : TL ls) (f g : Str) : lamB (maskF ls f) (maskF ls g) = true := by
  refine lam_mask ?_
  by_cases c : ∃ i, f ∈ ls i ∧ g ∈ ls i
  · obtain ⟨i, hf, hg⟩ := c
    obtain ⟨p, hp⟩ := List.getElem?_of_mem hf
    obtain ⟨q, hq⟩ := List.getElem?_of_mem hg
    by_cases o : p ≤ q
    · exact .inr (.inl fun j _ hj => inF_iff.mpr (h.below hp hq o (inF_iff.mp hj)))
    · exact .inl fun j _ hj => inF_iff.mpr (h.below hq hp (by lia) (inF_iff.mp hj))
  · exact .inr (.inr fun i _ hi => Bool.eq_false_iff.mpr fun k => c ⟨i, inF_iff.mp hi, inF_iff.mp k⟩)
/-- the steps of a row's three ways -/
noncomputable def stepsF (ls : Nat → List Str) (r : List (Nat × Nat)) : List Str := r.flatMap fun p => symL (ls p.1) (ls p.2)
theorem symL_count {l m : List Str} (hl : l.Nodup) (hm : m.Nodup) (f : Str) : (symL l m).count f = if l.contains f = m.contains f then 0 else 1 := by
  unfold symL
  rw [(sym_nodup hl hm).count]
  have : f ∈ lacks l m ++ lacks m l ↔ ¬ (l.contains f = m.contains f) := by
    rw [mem_sym, Bool.eq_iff_iff, List.contains_iff_mem, List.contains_iff_mem]
  by_cases c : l.contains f = m.contains f
  · rw [if_pos c, if_neg fun q => this.mp q c]
  · rw [if_neg c, if_pos (this.mpr c)]
theorem TL.count {ls : Nat → List Str} (h : TL ls) {r : List (Nat × Nat)} (hr : r ∈ rowsB) (f : Str) : (stepsF ls r).count f = sepB r (maskF ls f) := by
  obtain ⟨a, b, c, rfl, a1, a2, b1, b2, c1, c2⟩ := row_shape r hr
  have key : ∀ p : Nat × Nat, p.1 < p.2 → p.2 < 6 → (symL (ls p.1) (ls p.2)).count f = cutB p (maskF ls f) := fun p h1 h2 => by
    rw [symL_count (h.srt _).nodup (h.srt _).nodup]
    exact (cut_mask (inF ls f) (by lia) h2).symm
  unfold stepsF
  rw [List.flatMap_cons, List.flatMap_cons, List.flatMap_cons, List.flatMap_nil, List.append_nil, List.count_append, List.count_append, key a a1 a2, key b b1 b2, key c c1 c2]
  rfl
/-- a list's length by its members -/
theorem len_sum : ∀ (U : List Str), U.Nodup → ∀ l : List Str, (∀ x ∈ l, x ∈ U) → l.length = (U.map fun f => l.count f).sum
  | [], _, l, h => by
    cases l with
    | nil => rfl
    | cons x r => exact absurd (h x (.head _)) (by simp)
  | u :: U, hu, l, h => by
    have hu' := List.nodup_cons.mp hu
    have ih := len_sum U hu'.2 (l.filter fun x => !(x == u)) fun x hx => by
      obtain ⟨a, b⟩ := List.mem_filter.mp hx
      rcases List.mem_cons.mp (h x a) with rfl | q
      · simp at b
      · exact q
    have e1 : l.length = l.count u + (l.filter fun x => !(x == u)).length := by
      rw [List.count, ← List.countP_eq_length_filter]
      refine (List.length_eq_countP_add_countP (· == u)).trans (congrArg _ (List.countP_congr fun x _ => ?_))
      simp
    rw [List.map_cons, List.sum_cons, e1, ih]
    congr 1
    refine congrArg _ (List.map_congr_left fun f hf => ?_)
    rw [List.count_filter]
    have : f ≠ u := fun e => hu'.1 (e ▸ hf)
    simpa using this
theorem both_chk : (rowsB.all fun r => (upTo 64).all fun v => Nat.ble (lessB v) (sepB r v) || ((r.any fun p => v.testBit p.1 && v.testBit p.2) && r.any fun p => !v.testBit p.1 && !v.testBit p.2)) = true := by decide +kernel
theorem sat_chk : (rowsB.all fun r => (upTo 64).all fun v => Nat.blt (sepB r v) (lessB v) || (if Nat.blt 3 (sizeB v) then r.all fun p => v.testBit p.1 || v.testBit p.2 else r.all fun p => !(v.testBit p.1 && v.testBit p.2))) = true := by decide +kernel
theorem row_lt {r : List (Nat × Nat)} (hr : r ∈ rowsB) {p : Nat × Nat} (hp : p ∈ r) : p.1 < p.2 ∧ p.2 < 6 := by
  obtain ⟨a, b, c, rfl, a1, a2, b1, b2, c1, c2⟩ := row_shape r hr
  rcases List.mem_cons.mp hp with rfl | hp
  · exact ⟨a1, a2⟩
  rcases List.mem_cons.mp hp with rfl | hp
  · exact ⟨b1, b2⟩
  · obtain rfl := List.mem_singleton.mp hp
    exact ⟨c1, c2⟩
/-- a place on all three ways: each folder parts as many as it can -/
theorem TL.sat_of_meet {ls : Nat → List Str} (h : TL ls) {r : List (Nat × Nat)} (hr : r ∈ rowsB) {v : Str} (hv : ∀ p ∈ r, v ∈ wayL (ls p.1) (ls p.2)) (f : Str) : lessB (maskF ls f) ≤ sepB r (maskF ls f) := by
  have h1 := List.all_eq_true.mp (List.all_eq_true.mp both_chk r hr) _ (mem_upTo (mask_lt (inF ls f)))
  rw [Bool.or_eq_true] at h1
  rcases h1 with h1 | h1
  · exact Nat.le_of_ble_eq_true h1
  · exfalso
    rw [Bool.and_eq_true] at h1
    obtain ⟨⟨p, hp, hp'⟩, ⟨q, hq, hq'⟩⟩ := (⟨List.any_eq_true.mp h1.1, List.any_eq_true.mp h1.2⟩ : _ ∧ _)
    obtain ⟨p1, p2⟩ := row_lt hr hp
    obtain ⟨q1, q2⟩ := row_lt hr hq
    rw [Bool.and_eq_true, mask_bit _ (by lia), mask_bit _ p2, inF_iff, inF_iff] at hp'
    rw [Bool.and_eq_true, Bool.not_eq_true', Bool.not_eq_true', mask_bit _ (by lia), mask_bit _ q2, ← Bool.not_eq_true, ← Bool.not_eq_true, inF_iff, inF_iff] at hq'
    have key : (v ∈ ls p.1 ∨ v ∈ ls p.2) ∧ ∀ j, v ∈ ls j → f ∈ ls j := by
      obtain ⟨a, ha⟩ := List.getElem?_of_mem hp'.1
      obtain ⟨b, hb⟩ := List.getElem?_of_mem hp'.2
      have hw := hv p hp
      unfold wayL symL at hw
      rw [List.mem_append, List.mem_append, mem_lacks, mem_lacks, List.mem_singleton] at hw
      rcases hw with (⟨w1, w2⟩ | ⟨w1, w2⟩) | hw
      · obtain ⟨c, hc⟩ := List.getElem?_of_mem w1
        refine ⟨.inl w1, fun j hj => ?_⟩
        by_cases o : a ≤ c
        · exact h.below ha hc o hj
        · exact absurd (h.below hc ha (by lia) hp'.2) w2
      · obtain ⟨c, hc⟩ := List.getElem?_of_mem w1
        refine ⟨.inr w1, fun j hj => ?_⟩
        by_cases o : b ≤ c
        · exact h.below hb hc o hj
        · exact absurd (h.below hc hb (by lia) hp'.1) w2
      · have hm := h.com_mem hp'.1 hp'.2
        obtain ⟨c, hc⟩ := List.getElem?_of_mem hm
        have hcl := (List.getElem?_eq_some_iff.mp hc).1
        have hlast : (comL (ls p.1) (ls p.2))[(comL (ls p.1) (ls p.2)).length - 1]? = some v := by
          rw [hw, List.getLastD_eq_getLast?, ← List.getLast?_eq_getElem?]
          cases hg : (comL (ls p.1) (ls p.2)).getLast? with
          | none => rw [List.getLast?_eq_none_iff.mp hg] at hcl; exact absurd hcl (Nat.not_lt_zero _)
          | some z => rfl
        have up : ∀ {k : Nat} {z : Str}, (comL (ls p.1) (ls p.2))[k]? = some z → (ls p.1)[k]? = some z := fun {k z} e => by
          rw [comL_take] at e
          have hk := (List.getElem?_eq_some_iff.mp e).1
          rw [List.length_take] at hk
          rw [List.getElem?_take_of_lt (by lia)] at e
          exact e
        have e1 := up hlast
        exact ⟨.inl (List.mem_of_getElem? e1), fun j hj => h.below (up hc) e1 (by lia) hj⟩
    have hw := hv q hq
    unfold wayL symL at hw
    rw [List.mem_append, List.mem_append, mem_lacks, mem_lacks, List.mem_singleton] at hw
    rcases hw with (⟨w1, w2⟩ | ⟨w1, w2⟩) | hw
    · exact hq'.1 (key.2 _ w1)
    · exact hq'.2 (key.2 _ w1)
    · rw [List.getLastD_eq_getLast?] at hw
      cases hg : (comL (ls q.1) (ls q.2)).getLast? with
      | none =>
        rw [hg] at hw
        rcases key.1 with k | k
        · exact h.root _ (hw ▸ k)
        · exact h.root _ (hw ▸ k)
      | some z =>
        rw [hg] at hw
        have : v = z := hw
        subst this
        exact hq'.1 (key.2 _ (comL_mem (List.mem_of_getLast? hg)))
theorem TL.meet_of_sat {ls : Nat → List Str} (h : TL ls) {r : List (Nat × Nat)} (hr : r ∈ rowsB) (hs : ∀ f, (∃ i, i < 6 ∧ f ∈ ls i) → lessB (maskF ls f) ≤ sepB r (maskF ls f)) : ∃ v, ∀ p ∈ r, v ∈ wayL (ls p.1) (ls p.2) := by
  have few : ∀ f, (∃ i, i < 6 ∧ f ∈ ls i) → ¬ 3 < sizeB (maskF ls f) → ∀ p ∈ r, ¬ (f ∈ ls p.1 ∧ f ∈ ls p.2) := fun f hf hc p hp ⟨k1, k2⟩ => by
    have h1 := List.all_eq_true.mp (List.all_eq_true.mp sat_chk r hr) _ (mem_upTo (mask_lt (inF ls f)))
    rw [Bool.or_eq_true] at h1
    rcases h1 with h1 | h1
    · exact absurd (hs f hf) (Nat.not_le.mpr (Nat.le_of_ble_eq_true h1))
    · rw [if_neg (show ¬ Nat.blt 3 (sizeB (maskS (inF ls f))) = true from fun e => hc (Nat.le_of_ble_eq_true e))] at h1
      have h2 := List.all_eq_true.mp h1 p hp
      obtain ⟨p1, p2⟩ := row_lt hr hp
      rw [mask_bit _ (by lia), mask_bit _ p2, inF_iff.mpr k1, inF_iff.mpr k2] at h2
      exact absurd h2 (by decide)
  have many : ∀ f, (∃ i, i < 6 ∧ f ∈ ls i) → 3 < sizeB (maskF ls f) → ∀ p ∈ r, f ∈ ls p.1 ∨ f ∈ ls p.2 := fun f hf hc p hp => by
    have h1 := List.all_eq_true.mp (List.all_eq_true.mp sat_chk r hr) _ (mem_upTo (mask_lt (inF ls f)))
    rw [Bool.or_eq_true] at h1
    rcases h1 with h1 | h1
    · exact absurd (hs f hf) (Nat.not_le.mpr (Nat.le_of_ble_eq_true h1))
    · rw [if_pos (show Nat.blt 3 (sizeB (maskS (inF ls f))) = true from Nat.ble_eq_true_of_le hc)] at h1
      have h2 := List.all_eq_true.mp h1 p hp
      obtain ⟨p1, p2⟩ := row_lt hr hp
      rw [mask_bit _ (by lia), mask_bit _ p2, Bool.or_eq_true, inF_iff, inF_iff] at h2
      exact h2
  -- a folder in or below which most of the files lie, none such below it
  have next : ∀ p ∈ r, ∀ k, (∀ i, i < 6 → ∀ f, (ls i)[k]? = some f → ¬ 3 < sizeB (maskF ls f)) → (comL (ls p.1) (ls p.2)).length ≤ k := fun p hp k hk => by
    refine Nat.le_of_not_lt fun hlt => ?_
    obtain ⟨p1, p2⟩ := row_lt hr hp
    obtain ⟨g, hg⟩ : ∃ g, (comL (ls p.1) (ls p.2))[k]? = some g := ⟨_, List.getElem?_eq_getElem hlt⟩
    have e1 : (ls p.1)[k]? = some g := by
      have e := hg
      rw [comL_take, List.getElem?_take_of_lt hlt] at e; exact e
    have e2 : (ls p.2)[k]? = some g := by
      have e := hg
      rw [comL_take', List.getElem?_take_of_lt hlt] at e; exact e
    exact few g ⟨p.1, by lia, List.mem_of_getElem? e1⟩ (hk p.1 (by lia) g e1) p hp ⟨List.mem_of_getElem? e1, List.mem_of_getElem? e2⟩
  have some_ : ∀ k, (∃ i, i < 6 ∧ ∃ f, (ls i)[k]? = some f ∧ 3 < sizeB (maskF ls f)) → (∀ i, i < 6 → ∀ f, (ls i)[k + 1]? = some f → ¬ 3 < sizeB (maskF ls f)) → ∃ v, ∀ p ∈ r, v ∈ wayL (ls p.1) (ls p.2) := fun k ⟨i, hi, f, hf, hb⟩ hk => by
    have hfi := List.mem_of_getElem? hf
    refine ⟨f, fun p hp => ?_⟩
    unfold wayL symL
    rw [List.mem_append, List.mem_append, mem_lacks, mem_lacks, List.mem_singleton]
    by_cases c1 : f ∈ ls p.1
    · by_cases c2 : f ∈ ls p.2
      · refine .inr ?_
        have hlen := next p hp (k + 1) hk
        have hm := h.com_mem c1 c2
        obtain ⟨c, hc⟩ := List.getElem?_of_mem hm
        have hcl := (List.getElem?_eq_some_iff.mp hc).1
        have e1 : (ls p.1)[c]? = some f := by
          have e := hc
          rw [comL_take, List.getElem?_take_of_lt hcl] at e; exact e
        obtain rfl := (h.pre i p.1 k c f hf e1).1
        have : (comL (ls p.1) (ls p.2)).length - 1 = k := by lia
        rw [List.getLastD_eq_getLast?, List.getLast?_eq_getElem?, this, hc]; rfl
      · exact .inl (.inl ⟨c1, c2⟩)
    · by_cases c2 : f ∈ ls p.2
      · exact .inl (.inr ⟨c2, c1⟩)
      · exact ((many f ⟨i, hi, hfi⟩ hb p hp).elim c1 c2).elim
  have none_ : ∀ k : Nat, (¬ ∃ i, i < 6 ∧ ∃ f, (ls i)[k]? = some f ∧ 3 < sizeB (maskF ls f)) → ∀ i, i < 6 → ∀ f, (ls i)[k]? = some f → ¬ 3 < sizeB (maskF ls f) := fun k hn i hi f hf hb => hn ⟨i, hi, f, hf, hb⟩
  by_cases c2 : ∃ i, i < 6 ∧ ∃ f, (ls i)[2]? = some f ∧ 3 < sizeB (maskF ls f)
  · exact some_ 2 c2 fun i hi f hf => fun _ => by have := (List.getElem?_eq_some_iff.mp hf).1; have := h.short i; lia
  by_cases c1 : ∃ i, i < 6 ∧ ∃ f, (ls i)[1]? = some f ∧ 3 < sizeB (maskF ls f)
  · exact some_ 1 c1 (none_ 2 c2)
  by_cases c0 : ∃ i, i < 6 ∧ ∃ f, (ls i)[0]? = some f ∧ 3 < sizeB (maskF ls f)
  · exact some_ 0 c0 (none_ 1 c1)
  · refine ⟨"/", fun p hp => ?_⟩
    have : comL (ls p.1) (ls p.2) = [] := List.eq_nil_of_length_eq_zero (Nat.le_zero.mp (next p hp 0 (none_ 0 c0)))
    unfold wayL
    rw [this]
    exact List.mem_append_right _ (.head _)
end Mine
end

section
open PySem PySem.Calls PyProof.Rows PySem.W
namespace Mine
/-! what is left of a bag -/
noncomputable def gone : List Str → List Str → List Str
  | _, [] => []
  | od, y :: m => if od.contains y then gone (od.erase y) m else y :: gone od m
theorem gone_nil : ∀ m : List Str, gone [] m = m
  | [] => rfl
  | y :: m => congrArg _ (gone_nil m)
theorem gone_cons {x : Str} : ∀ {r m : List Str}, x ∈ m → x ∉ r → gone (x :: r) m = gone r (m.erase x)
  | r, y :: m, h, hr => by
    by_cases e : y = x
    · subst e
      rw [List.erase_cons_head, gone, if_pos (by simp), List.erase_cons_head]
    · have hm : x ∈ m := (List.mem_cons.mp h).resolve_left fun q => e q.symm
      rw [List.erase_cons_tail (by simpa using e), gone, gone]
      have hc : (x :: r).contains y = r.contains y := by
        rw [List.contains_cons, show (y == x) = false by simpa using e, Bool.false_or]
      rw [hc]
      by_cases c : r.contains y = true
      · rw [if_pos c, if_pos c, List.erase_cons_tail (by simpa using fun q => e q.symm)]
        exact gone_cons hm fun q => hr (List.mem_of_mem_erase q)
      · rw [if_neg c, if_neg c, gone_cons hm hr]
theorem uld_gone : ∀ {od m : List Str}, od.Nodup → (∀ x ∈ od, x ∈ m) → uld od m = ([], gone od m)
  | [], m, _, _ => by rw [uld, gone_nil]
  | x :: r, m, hn, h => by
    obtain ⟨h1, h2⟩ := List.nodup_cons.mp hn
    have hx := h x (.head _)
    rw [uld, if_pos (List.contains_iff_mem.mpr hx), uld_gone h2 fun z hz => (List.mem_erase_of_ne fun (e : z = x) => h1 (e ▸ hz)).mpr (h z (.tail _ hz)), gone_cons hx h1]
theorem over_gone (steps odd : List Str) : ∀ (suf pre od : List Str), steps = pre ++ suf → od.Nodup → (∀ y, y ∈ od ↔ y ∈ odd ∧ y ∉ pre) → overS steps odd pre.length suf = gone od suf
  | [], _, _, _, _, _ => rfl
  | f :: r, pre, od, hs, hn, h => by
    have hi : overIf steps odd pre.length f = !od.contains f := by
      have h1 : decide ((steps.idxOf f : Int) < (pre.length : Int)) = decide (f ∈ pre) := by
        refine decide_eq_decide.mpr ?_
        rw [hs, List.idxOf_append]
        by_cases c : f ∈ pre
        · rw [if_pos c]
          have := List.idxOf_lt_length_of_mem c
          constructor
          · intro _; exact c
          · intro _; lia
        · rw [if_neg c]
          constructor
          · intro q; lia
          · intro q; exact absurd q c
      unfold overIf
      rw [h1]
      have h2 : odd.any (· == f) = decide (f ∈ odd) := by
        rw [Bool.eq_iff_iff, List.any_eq_true, decide_eq_true_iff]
        exact ⟨fun ⟨x, a, b⟩ => (by simpa using b : x = f) ▸ a, fun a => ⟨f, a, by simp⟩⟩
      have h3 : od.contains f = decide (f ∈ od) := by
        rw [Bool.eq_iff_iff, List.contains_iff_mem, decide_eq_true_iff]
      rw [h2, h3]
      have := h f
      by_cases a : f ∈ odd <;> by_cases b : f ∈ pre <;> by_cases c : f ∈ od <;> simp [a, b, c] <;> simp_all
    rw [overS, gone, hi]
    have hs' : steps = (pre ++ [f]) ++ r := by rw [hs, List.append_assoc]; rfl
    by_cases c : f ∈ od
    · have c' : od.contains f = true := List.contains_iff_mem.mpr c
      rw [c', if_neg (by decide), if_pos rfl]
      refine Eq.trans ?_ (over_gone steps odd r (pre ++ [f]) (od.erase f) hs' (hn.erase f) fun y => ?_)
      · rw [List.length_append]; rfl
      · rw [hn.mem_erase_iff, h y, List.mem_append, List.mem_singleton]
        constructor
        · rintro ⟨a, b, c⟩; exact ⟨b, fun q => q.elim c a⟩
        · rintro ⟨a, b⟩; exact ⟨fun q => b (.inr q), a, fun q => b (.inl q)⟩
    · have c' : od.contains f = false := Bool.eq_false_iff.mpr fun q => c (List.contains_iff_mem.mp q)
      rw [c', if_pos (by decide), if_neg (by decide)]
      refine congrArg _ (Eq.trans ?_ (over_gone steps odd r (pre ++ [f]) od hs' hn fun y => ?_))
      · rw [List.length_append]; rfl
      · rw [h y, List.mem_append, List.mem_singleton]
        constructor
        · rintro ⟨a, b⟩; exact ⟨a, fun q => q.elim b fun e => c (e ▸ (h y).mpr ⟨a, b⟩)⟩
        · rintro ⟨a, b⟩; exact ⟨a, fun q => b (.inl q)⟩
theorem gone_perm : ∀ {m od : List Str}, od.Nodup → (∀ x ∈ od, x ∈ m) → (od ++ gone od m).Perm m
  | [], od, _, h => by
    cases od with
    | nil => exact .refl _
    | cons x r => exact absurd (h x (.head _)) (by simp)
  | y :: m, od, hn, h => by
    rw [gone]
    by_cases c : od.contains y = true
    · rw [if_pos c]
      have c' := List.contains_iff_mem.mp c
      have ih := gone_perm (m := m) (hn.erase y) fun z hz => by
        obtain ⟨a, b⟩ := hn.mem_erase_iff.mp hz
        exact (List.mem_cons.mp (h z b)).resolve_left a
      exact ((List.perm_cons_erase c').append_right _).trans (ih.cons y)
    · rw [if_neg c]
      have ih := gone_perm (m := m) hn fun z hz => (List.mem_cons.mp (h z hz)).resolve_left fun e => c (List.contains_iff_mem.mpr (e ▸ hz))
      exact List.perm_middle.trans (ih.cons y)
/-- a list in which each two neighbours, from the first on, are alike -/
noncomputable def Dbl : List Str → Prop
  | [] => True
  | [_] => False
  | x :: y :: r => x = y ∧ Dbl r
theorem dbl_of : ∀ (l : List Str), l.Pairwise (fun a b => ¬ LtS b a) → (∀ f, l.count f % 2 = 0) → Dbl l
  | [], _, _ => trivial
  | [x], _, h => by have := h x; simp at this
  | x :: y :: r, hs, h => by
    obtain ⟨s1, s2⟩ := List.pairwise_cons.mp hs
    obtain ⟨s3, s4⟩ := List.pairwise_cons.mp s2
    have e : x = y := Classical.byContradiction fun c => by
      have h1 := h x
      rw [List.count_cons_self, List.count_cons_of_ne (fun q => c q.symm)] at h1
      have : 0 < r.count x := by lia
      have hx := List.count_pos_iff.mp this
      exact c (LtS.tri (s3 x hx) (s1 y (.head _)))
    subst e
    refine ⟨rfl, dbl_of r s4 fun f => ?_⟩
    have h1 := h f
    by_cases c : f = x
    · subst c
      rw [List.count_cons_self, List.count_cons_self] at h1; lia
    · rw [List.count_cons_of_ne (fun q => c q.symm), List.count_cons_of_ne (fun q => c q.symm)] at h1; exact h1
theorem dbl_get : ∀ {l : List Str}, Dbl l → l.length % 2 = 0 ∧ ∀ i : Nat, l[2 * i]? = l[2 * i + 1]?
  | [], _ => ⟨rfl, fun i => rfl⟩
  | [x], h => h.elim
  | x :: y :: r, ⟨e, h⟩ => by
    obtain ⟨a, b⟩ := dbl_get h
    refine ⟨by simp only [List.length_cons]; lia, fun i => ?_⟩
    cases i with
    | zero => subst e; rfl
    | succ i => exact b i
theorem by_two : ∀ n, n < 65 → (sliceRange (sliceBounds none none (some 2) n).1 (sliceBounds none none (some 2) n).2.1 (sliceBounds none none (some 2) n).2.2) = (List.range ((n + 1) / 2)).map (2 * ·) ∧
    (sliceRange (sliceBounds (some 1) none (some 2) n).1 (sliceBounds (some 1) none (some 2) n).2.1 (sliceBounds (some 1) none (some 2) n).2.2) = (List.range (n / 2)).map (2 * · + 1) := by decide +kernel
theorem twice_eq {l : List Str} (hl : l.length ≤ 64) (h : Dbl l) : sliceD l none none (some 2) = sliceD l (some 1) none (some 2) := by
  obtain ⟨a, b⟩ := dbl_get h
  obtain ⟨c, d⟩ := by_two l.length (by lia)
  unfold sliceD
  rw [c, d, show (l.length + 1) / 2 = l.length / 2 by lia, List.filterMap_map, List.filterMap_map]
  exact congrArg (fun g => List.filterMap g (List.range (l.length / 2))) (funext fun i => b i)
end Mine
end

section
open PySem PySem.Calls PyProof.Rows PySem.W
namespace Mine
/-! the forty words -/
noncomputable def figs4 : List Int := [0, 1, 2, 3]
noncomputable def wordsOf (a b c : Int) : List Str := ([a, b, c].filter fun f => decide (f > 0)).map nameOf
noncomputable def W64 : List (List Str) := figs4.flatMap fun a => figs4.flatMap fun b => figs4.map fun c => wordsOf a b c
theorem figs4_of {f : Int} (h : 0 ≤ f ∧ f < 4) : f ∈ figs4 := by
  have : f = 0 ∨ f = 1 ∨ f = 2 ∨ f = 3 := by lia
  rcases this with rfl | rfl | rfl | rfl <;> decide
theorem names_in (n : Int) : namesOf n ∈ W64 := by
  have h := figs_range n
  unfold figs at h
  refine List.mem_flatMap.mpr ⟨_, figs4_of (h _ (.head _)), List.mem_flatMap.mpr ⟨_, figs4_of (h _ (.tail _ (.head _))), List.mem_map.mpr ⟨_, figs4_of (h _ (.tail _ (.tail _ (.head _)))), rfl⟩⟩⟩
theorem w_path : ∀ w ∈ W64, pathOf w = "/" ++ Txt.join "/" w ∧ JoinOk "/" w = true ∧ (Txt.join "/" w).length ≤ 100 ∧ PyData.strOk (pathOf w) = true := by
  decide +kernel
theorem w_ok : ∀ w ∈ W64, (pathOf w).length ≤ 100 ∧ Txt.startswith (pathOf w) "/" = true ∧ (Builtin.Str.partsBetween (pathOf w) (Builtin.Str.occurrences (pathOf w) "/" 0 (pathOf w).length ((pathOf w).length + 1)) ("/" : Str).length).length ≤ 100 ∧ (Txt.split (pathOf w) "/").length ≤ 100 ∧ ∀ c ∈ Txt.split (pathOf w) "/", c.length ≤ 100 := by
  decide +kernel
theorem w_pathOK {w : List Str} (h : w ∈ W64) : PathOK (pathOf w) := let ⟨a, b, c, d, e⟩ := w_ok w h; ⟨a, b, c, d, e⟩
theorem w_keep : ∀ w ∈ W64, keepL (Txt.split (pathOf w) "/") = w := by decide +kernel
theorem w_line : ∀ w ∈ W64, (lineW w).Pairwise (fun a b => a.cps.toList < b.cps.toList) ∧ ("/" : Str) ∉ lineW w ∧ ∀ x ∈ lineW w, PyData.strOk x = true := by decide +kernel
theorem w_last : ∀ w ∈ W64, "/" ++ Txt.join "/" w = (lineW w).getLastD "/" := by decide +kernel
theorem w_take : ∀ w ∈ W64, w.take 0 ∈ W64 ∧ w.take 1 ∈ W64 ∧ w.take 2 ∈ W64 ∧ w.take 3 = w := by decide +kernel
theorem w_inj : ∀ u ∈ W64, ∀ v ∈ W64, textOf "" u = textOf "" v → u = v := by decide +kernel
noncomputable def upC (p : Str) : Nat → Str
  | 0 => p
  | k + 1 => dirS (upC p k)
theorem up_root : dirS "/" = "/" := by decide +kernel
theorem w_up : ∀ w ∈ W64, upC (pathOf w) w.length = "/" ∧ (∀ k, k < w.length → upC (pathOf w) k ≠ "/") ∧ (∀ k, k < w.length → (upC (pathOf w) k).length ≤ 100) ∧ lineUp (upC (pathOf w)) w.length = lineW w := by decide +kernel
theorem up_len {w : List Str} (h : w ∈ W64) (k : Nat) : (upC (pathOf w) k).length ≤ 1000 := by
  obtain ⟨a, _, b, _⟩ := w_up w h
  by_cases c : k < w.length
  · exact Nat.le_trans (b k c) (by decide)
  · have : ∀ j, upC (pathOf w) (w.length + j) = "/" := fun j => by
      induction j with
      | zero => exact a
      | succ j ih => show dirS (upC (pathOf w) (w.length + j)) = _; rw [ih, up_root]
    have e := this (k - w.length)
    rw [show w.length + (k - w.length) = k by lia] at e
    rw [e]; decide
end Mine
end

section
open PySem PySem.Calls PyProof.Rows PySem.W
namespace Mine
/-! a word's line, and the counts -/
noncomputable def lineT (t : Str) (w : List Str) : List Str := (List.range w.length).map fun k => textOf t (w.take (k + 1))
theorem lineT_cons (t n : Str) (r : List Str) : lineT t (n :: r) = (t ++ "/" ++ n) :: lineT (t ++ "/" ++ n) r := by
  unfold lineT
  rw [List.length_cons, List.range_succ_eq_map, List.map_cons, List.map_map]; rfl
theorem lineT_nil (t : Str) : lineT t [] = [] := rfl
theorem cat_inj {t m n : Str} (h : t ++ "/" ++ m = t ++ "/" ++ n) : m = n := by
  have h1 : (t ++ "/" : Str).cps ++ m.cps = (t ++ "/" : Str).cps ++ n.cps := congrArg Str.cps h
  have h2 := (Array.append_right_inj _).mp h1
  cases m; cases n; exact congrArg _ h2
theorem lineT_com : ∀ (t : Str) (u v : List Str), comL (lineT t u) (lineT t v) = lineT t (comL u v)
  | _, [], [] => rfl
  | _, [], _ :: _ => by rw [lineT_nil]; unfold comL; rfl
  | t, n :: u, [] => by rw [lineT_cons, lineT_nil]; rfl
  | t, n :: u, m :: v => by
    rw [lineT_cons, lineT_cons]
    unfold comL
    by_cases e : n = m
    · subst e
      rw [if_pos rfl, if_pos rfl, lineT_cons, lineT_com]
    · rw [if_neg e, if_neg fun q => e (cat_inj q)]; rfl
theorem line_com (u v : List Str) : comL (lineW u) (lineW v) = lineW (comL u v) := lineT_com "" u v
theorem line_len (w : List Str) : (lineW w).length = w.length := by unfold lineW; rw [List.length_map, List.length_range]
theorem line_get {w : List Str} {p : Nat} {x : Str} (h : (lineW w)[p]? = some x) : p < w.length ∧ x = textOf "" (w.take (p + 1)) := by
  have hp := (List.getElem?_eq_some_iff.mp h).1
  rw [line_len] at hp
  unfold lineW at h
  rw [List.getElem?_map, List.getElem?_range hp] at h
  exact ⟨hp, (Option.some.inj h).symm⟩
theorem w_len {w : List Str} (h : w ∈ W64) : w.length ≤ 3 := by
  have := (w_take w h).2.2.2
  have h2 := congrArg List.length this
  rw [List.length_take] at h2; lia
theorem w_pre {w : List Str} (h : w ∈ W64) (k : Nat) : w.take k ∈ W64 := by
  obtain ⟨a, b, c, d⟩ := w_take w h
  match k with
  | 0 => exact a
  | 1 => exact b
  | 2 => exact c
  | k + 3 => rw [List.take_of_length_le (by have := w_len h; lia)]; exact h
theorem line_take {u v : List Str} {p : Nat} (h : u.take (p + 1) = v.take (p + 1)) (hu : p < u.length) (hv : p < v.length) : (lineW u).take (p + 1) = (lineW v).take (p + 1) := by
  refine List.ext_getElem? fun k => ?_
  rw [List.getElem?_take, List.getElem?_take]
  by_cases c : k < p + 1
  · rw [if_pos c, if_pos c]
    unfold lineW
    rw [List.getElem?_map, List.getElem?_map, List.getElem?_range (by lia), List.getElem?_range (by lia)]
    have : u.take (k + 1) = v.take (k + 1) := by
      have := congrArg (List.take (k + 1)) h
      rw [List.take_take, List.take_take, Nat.min_eq_left (by lia)] at this; exact this
    rw [Option.map_some, Option.map_some, this]
  · rw [if_neg c, if_neg c]
theorem w_both {u v : List Str} (hu : u ∈ W64) (hv : v ∈ W64) {p q : Nat} {x : Str} (h : (lineW u)[p]? = some x) (k : (lineW v)[q]? = some x) : p = q ∧ (lineW u).take (p + 1) = (lineW v).take (p + 1) := by
  obtain ⟨h1, h2⟩ := line_get h
  obtain ⟨k1, k2⟩ := line_get k
  have e := w_inj _ (w_pre hu (p + 1)) _ (w_pre hv (q + 1)) (h2.symm.trans k2)
  have hl := congrArg List.length e
  rw [List.length_take, List.length_take] at hl
  obtain rfl : p = q := by lia
  exact ⟨rfl, line_take e h1 k1⟩
/-- the six lines -/
noncomputable def lsN (ns : List Int) (i : Nat) : List Str := lineN (ns.getD i 0)
theorem tl_of (ns : List Int) : TL (lsN ns) where
  srt := fun i => (w_line _ (names_in _)).1
  pre := fun i j p q x => w_both (names_in _) (names_in _)
  root := fun i => (w_line _ (names_in _)).2.1
  short := fun i => by unfold lsN lineN; rw [line_len]; exact w_len (names_in _)
/-- the number that a key has -/
noncomputable def look (cs : List (Str × Int)) (x : Str) : Int := getD' cs x 0
theorem look_cons (p : Str × Int) (r : List (Str × Int)) (x : Str) : look (p :: r) x = if p.1 = x then p.2 else look r x := by
  unfold look getD'
  rw [List.find?_cons]
  by_cases c : p.1 = x
  · simp [c]
  · simp [c]
theorem keys_stored (ds : List (Str × Int)) (k : Str) (n : Int) : (storedD ds k n).map (·.1) = if k ∈ ds.map (·.1) then ds.map (·.1) else ds.map (·.1) ++ [k] := by
  have hany : ds.any (fun p => decide (p.1 = k)) = true ↔ k ∈ ds.map (·.1) := by
    rw [List.any_eq_true, List.mem_map]
    exact ⟨fun ⟨p, a, b⟩ => ⟨p, a, of_decide_eq_true b⟩, fun ⟨p, a, b⟩ => ⟨p, a, decide_eq_true b⟩⟩
  unfold storedD
  by_cases c : k ∈ ds.map (·.1)
  · rw [if_pos (hany.mpr c), if_pos c, List.map_map]
    refine List.map_congr_left fun p _ => ?_
    show (if p.1 = k then (p.1, n) else p).1 = p.1
    split <;> rfl
  · rw [if_neg fun q => c (hany.mp q), if_neg c, List.map_append]; rfl
theorem look_map (k x : Str) (n : Int) : ∀ ds : List (Str × Int), look (ds.map fun p => if p.1 = k then (p.1, n) else p) x = if x = k ∧ k ∈ ds.map (·.1) then n else look ds x
  | [] => by simp
  | p :: r => by
    have ih := look_map k x n r
    rw [List.map_cons, look_cons, look_cons, ih, List.map_cons]
    by_cases c : p.1 = k
    · rw [if_pos c]
      by_cases d : p.1 = x
      · have : x = k := d.symm.trans c
        subst this
        simp [c]
      · have : ¬ x = k := fun e => d (c.trans e.symm)
        simp [d, this]
    · rw [if_neg c]
      by_cases d : p.1 = x
      · have : ¬ x = k := fun e => c (d.trans e)
        simp [d, this]
      · by_cases e : x = k
        · subst e
          have h3 : ¬ x = p.1 := fun q => c q.symm
          have h4 : x ∈ p.1 :: r.map (·.1) ↔ x ∈ r.map (·.1) := by rw [List.mem_cons]; exact ⟨fun q => q.resolve_left h3, .inr⟩
          rw [if_neg d, if_neg d]
          by_cases h5 : x ∈ r.map (·.1)
          · rw [if_pos ⟨rfl, h5⟩, if_pos ⟨rfl, h4.mpr h5⟩]
          · rw [if_neg fun q => h5 q.2, if_neg fun q => h5 (h4.mp q.2)]
        · simp [d, e]
theorem look_snoc (k x : Str) (n : Int) : ∀ ds : List (Str × Int), k ∉ ds.map (·.1) → look (ds ++ [(k, n)]) x = if x = k then n else look ds x
  | [], _ => by
    rw [List.nil_append, look_cons]
    by_cases c : x = k
    · simp [c]
    · rw [if_neg fun e => c e.symm, if_neg c]
  | p :: r, h => by
    rw [List.map_cons, List.mem_cons] at h
    have ih := look_snoc k x n r fun q => h (.inr q)
    rw [List.cons_append, look_cons, look_cons, ih]
    by_cases d : p.1 = x
    · have : ¬ x = k := fun e => h (.inl (d.trans e).symm)
      simp [d, this]
    · simp [d]
theorem look_stored (ds : List (Str × Int)) (k x : Str) (n : Int) : look (storedD ds k n) x = if x = k then n else look ds x := by
  have hany : ds.any (fun p => decide (p.1 = k)) = true ↔ k ∈ ds.map (·.1) := by
    rw [List.any_eq_true, List.mem_map]
    exact ⟨fun ⟨p, a, b⟩ => ⟨p, a, of_decide_eq_true b⟩, fun ⟨p, a, b⟩ => ⟨p, a, decide_eq_true b⟩⟩
  unfold storedD
  by_cases c : k ∈ ds.map (·.1)
  · rw [if_pos (hany.mpr c), look_map]
    simp [c]
  · rw [if_neg fun q => c (hany.mp q), look_snoc k x n ds c]
theorem nodup_stored {ds : List (Str × Int)} (h : (ds.map (·.1)).Nodup) (k : Str) (n : Int) : ((storedD ds k n).map (·.1)).Nodup := by
  rw [keys_stored]
  by_cases c : k ∈ ds.map (·.1)
  · rw [if_pos c]; exact h
  · rw [if_neg c]
    exact List.nodup_append.mpr ⟨h, by simp, fun a ha b hb e => c (List.mem_singleton.mp hb ▸ e ▸ ha)⟩
theorem mem_stored {ds : List (Str × Int)} {k x : Str} {n : Int} : x ∈ (storedD ds k n).map (·.1) ↔ x ∈ ds.map (·.1) ∨ x = k := by
  rw [keys_stored]
  by_cases c : k ∈ ds.map (·.1)
  · rw [if_pos c]
    exact ⟨.inl, fun q => q.elim id fun e => e ▸ c⟩
  · rw [if_neg c, List.mem_append, List.mem_singleton]
/-- a number's texts counted -/
theorem cnt_names : ∀ (w : List Str) (cs : List (Str × Int)) (t : Str), (cs.map (·.1)).Nodup → ((cntNames cs t w).map (·.1)).Nodup ∧ (∀ x, x ∈ (cntNames cs t w).map (·.1) ↔ x ∈ cs.map (·.1) ∨ x ∈ lineT t w) ∧ ∀ x, look (cntNames cs t w) x = look cs x + ((lineT t w).count x : Int)
  | [], cs, t, h => ⟨h, fun x => by rw [lineT_nil]; simp [cntNames], fun x => by rw [lineT_nil]; simp [cntNames]⟩
  | n :: r, cs, t, h => by
    obtain ⟨a, b, c⟩ := cnt_names r (storedD cs (t ++ "/" ++ n) (getD' cs (t ++ "/" ++ n) 0 + 1)) (t ++ "/" ++ n) (nodup_stored h _ _)
    rw [cntNames]
    refine ⟨a, fun x => ?_, fun x => ?_⟩
    · rw [b x, mem_stored, lineT_cons, List.mem_cons, or_assoc]
    · rw [c x, look_stored, lineT_cons, List.count_cons]
      by_cases e : x = t ++ "/" ++ n
      · subst e
        rw [if_pos rfl, if_pos (by simp)]
        show look cs _ + 1 + _ = _
        lia
      · rw [if_neg e, if_neg (by simpa using fun q => e q.symm)]
        lia
theorem counts_spec (ns : List Int) : ((countsOf ns).map (·.1)).Nodup ∧ (∀ x, x ∈ (countsOf ns).map (·.1) ↔ ∃ n ∈ ns, x ∈ lineN n) ∧ ∀ x, look (countsOf ns) x = (ns.map fun n => ((lineN n).count x : Int)).sum := by
  have key : ∀ (ns : List Int) (cs : List (Str × Int)), (cs.map (·.1)).Nodup → ((ns.foldl (fun cs n => cntNames cs "" (namesOf n)) cs).map (·.1)).Nodup ∧ (∀ x, x ∈ (ns.foldl (fun cs n => cntNames cs "" (namesOf n)) cs).map (·.1) ↔ x ∈ cs.map (·.1) ∨ ∃ n ∈ ns, x ∈ lineN n) ∧ ∀ x, look (ns.foldl (fun cs n => cntNames cs "" (namesOf n)) cs) x = look cs x + (ns.map fun n => ((lineN n).count x : Int)).sum := by
    intro ns
    induction ns with
    | nil => intro cs h; exact ⟨h, fun x => by simp, fun x => by simp⟩
    | cons n r ih =>
      intro cs h
      obtain ⟨a, b, c⟩ := cnt_names (namesOf n) cs "" h
      obtain ⟨d, e, f⟩ := ih _ a
      rw [List.foldl_cons]
      refine ⟨d, fun x => ?_, fun x => ?_⟩
      · rw [e x, b x, or_assoc]
        refine or_congr .rfl ?_
        constructor
        · rintro (q | ⟨m, q1, q2⟩)
          · exact ⟨n, .head _, q⟩
          · exact ⟨m, .tail _ q1, q2⟩
        · rintro ⟨m, q1, q2⟩
          rcases List.mem_cons.mp q1 with rfl | q1
          · exact .inl q2
          · exact .inr ⟨m, q1, q2⟩
      · rw [f x, c x, List.map_cons, List.sum_cons]
        show look cs x + ((lineN n).count x : Int) + _ = _
        lia
  obtain ⟨a, b, c⟩ := key ns [] List.nodup_nil
  refine ⟨a, fun x => (b x).trans (by simp), fun x => (c x).trans ?_⟩
  show (0 : Int) + _ = _
  lia
theorem key_val {ns : List Int} {p : Str × Int} (hp : p ∈ countsOf ns) : p.2 = look (countsOf ns) p.1 := by
  have := find_key (counts_spec ns).1 hp
  unfold look getD'
  rw [this]; rfl
theorem six {ns : List Int} (h : ns.length = 6) : ∃ a b c d e f, ns = [a, b, c, d, e, f] := by
  match ns, h with
  | [a, b, c, d, e, f], _ => exact ⟨a, b, c, d, e, f, rfl⟩
theorem count_in (n : Int) (x : Str) : (lineN n).count x = ((lineN n).contains x).toNat := by
  have hn : (lineN n).Nodup := StrictS.nodup (w_line _ (names_in n)).1
  rw [hn.count]
  by_cases c : x ∈ lineN n
  · rw [if_pos c, List.contains_iff_mem.mpr c]; rfl
  · rw [if_neg c, Bool.eq_false_iff.mpr fun q => c (List.contains_iff_mem.mp q)]; rfl
theorem look_size {ns : List Int} (h : ns.length = 6) (x : Str) : look (countsOf ns) x = (sizeB (maskF (lsN ns) x) : Int) := by
  rw [(counts_spec ns).2.2 x]
  obtain ⟨a, b, c, d, e, f, rfl⟩ := six h
  simp only [List.map_cons, List.map_nil, List.sum_cons, List.sum_nil, count_in]
  rw [maskF, mask_size]
  show _ = ((((lineN a).contains x).toNat + (((lineN b).contains x).toNat + (((lineN c).contains x).toNat + (((lineN d).contains x).toNat + (((lineN e).contains x).toNat + ((lineN f).contains x).toNat)))) : Nat) : Int)
  lia
theorem key_in {ns : List Int} (h : ns.length = 6) (x : Str) : x ∈ (countsOf ns).map (·.1) ↔ ∃ i, i < 6 ∧ x ∈ lsN ns i := by
  rw [(counts_spec ns).2.1 x]
  constructor
  · rintro ⟨n, hn, hx⟩
    obtain ⟨i, hi⟩ := List.getElem?_of_mem hn
    refine ⟨i, by have := (List.getElem?_eq_some_iff.mp hi).1; lia, ?_⟩
    unfold lsN
    rw [List.getD_eq_getElem?_getD, hi]; exact hx
  · rintro ⟨i, hi, hx⟩
    refine ⟨ns.getD i 0, ?_, hx⟩
    rw [List.getD_eq_getElem?_getD, List.getElem?_eq_getElem (by lia)]
    exact List.getElem_mem _
end Mine
end

section
open PySem PySem.Calls PyProof.Rows PySem.W
namespace Mine
/-! what law asks, of the six lines -/
theorem rows15_eq : rows15 = rowsB := by decide +kernel
noncomputable def stN (ls : Nat → List Str) : Nat → List Str
  | 0 => []
  | k + 1 => sortS (symL (stN ls k) (ls k))
section
variable {ls : Nat → List Str} (h : TL ls)
include h
theorem st_strict : ∀ k, StrictS (stN ls k)
  | 0 => .nil
  | k + 1 => strict_of (sortS_sorted _) ((sortS_perm _).nodup_iff.mpr (sym_nodup (st_strict k).nodup (h.srt k).nodup))
omit h in
theorem st_mem (k : Nat) (x : Str) : x ∈ stN ls (k + 1) ↔ ¬ (x ∈ stN ls k ↔ x ∈ ls k) := by
  show x ∈ sortS _ ↔ _
  rw [(sortS_perm _).mem_iff]; exact mem_sym
theorem st_len : ∀ k, (stN ls k).length ≤ 3 * k
  | 0 => Nat.le_refl _
  | k + 1 => by
    have h1 := st_len k
    have h2 := h.short k
    have h3 : (lacks (stN ls k) (ls k)).length ≤ (stN ls k).length := List.length_filter_le _ _
    have h4 : (lacks (ls k) (stN ls k)).length ≤ (ls k).length := List.length_filter_le _ _
    show (sortS _).length ≤ _
    rw [(sortS_perm _).length_eq]; unfold symL; rw [List.length_append]; lia
omit h in
theorem xor_chk : ∀ a b c d e f : Bool, ((((((false != a) != b) != c) != d) != e) != f) = true ↔ (a.toNat + (b.toNat + (c.toNat + (d.toNat + (e.toNat + f.toNat))))) % 2 = 1 := by decide +kernel
omit h in
theorem st_bit (k : Nat) (x : Str) : (stN ls (k + 1)).contains x = ((stN ls k).contains x != inF ls x k) := by
  rw [Bool.eq_iff_iff, List.contains_iff_mem, st_mem, bne_iff_ne, Ne, Bool.eq_iff_iff, List.contains_iff_mem, inF_iff]
omit h in
theorem st_six (x : Str) : x ∈ stN ls 6 ↔ sizeB (maskF ls x) % 2 = 1 := by
  rw [← List.contains_iff_mem, st_bit 5, st_bit 4, st_bit 3, st_bit 2, st_bit 1, st_bit 0, maskF, mask_size]
  exact xor_chk _ _ _ _ _ _
omit h in
theorem size_le (x : Str) : sizeB (maskF ls x) ≤ 6 := by
  have b : ∀ b : Bool, b.toNat ≤ 1 := fun b => by cases b <;> decide
  rw [maskF, mask_size]
  have := b (inF ls x 0); have := b (inF ls x 1); have := b (inF ls x 2); have := b (inF ls x 3); have := b (inF ls x 4); have := b (inF ls x 5)
  lia
omit h in
theorem size_pos {x : Str} (hx : 0 < sizeB (maskF ls x)) : ∃ i, i < 6 ∧ x ∈ ls i := by
  refine Classical.byContradiction fun c => ?_
  have z : ∀ i, i < 6 → (inF ls x i).toNat = 0 := fun i hi => by
    rw [Bool.eq_false_iff.mpr fun q => c ⟨i, hi, inF_iff.mp q⟩]; rfl
  rw [maskF, mask_size, z 0 (by decide), z 1 (by decide), z 2 (by decide), z 3 (by decide), z 4 (by decide), z 5 (by decide)] at hx
  exact absurd hx (by decide)
omit h in
theorem less_cast (x : Str) : lesser (sizeB (maskF ls x) : Int) = (lessB (maskF ls x) : Int) := by
  have h6 := size_le (ls := ls) x
  unfold lesser lessB
  by_cases c : 3 < sizeB (maskF ls x)
  · rw [if_pos (show Nat.blt 3 (sizeB (maskF ls x)) = true from Nat.ble_eq_true_of_le c), if_pos (by lia)]
    show _ = ((6 - sizeB (maskF ls x) : Nat) : Int)
    lia
  · rw [if_neg (show ¬ Nat.blt 3 (sizeB (maskF ls x)) = true from fun q => c (Nat.le_of_ble_eq_true q)), if_neg (by lia)]
theorem way_short (i j : Nat) : (symL (ls i) (ls j)).length ≤ 6 := by
  have h1 := h.short i
  have h2 := h.short j
  have h3 : (lacks (ls i) (ls j)).length ≤ (ls i).length := List.length_filter_le _ _
  have h4 : (lacks (ls j) (ls i)).length ≤ (ls j).length := List.length_filter_le _ _
  unfold symL; rw [List.length_append]; lia
omit h in
theorem sym_in {l m : List Str} {x : Str} (hx : x ∈ symL l m) : x ∈ l ∨ x ∈ m := by
  unfold symL at hx
  rw [List.mem_append, mem_lacks, mem_lacks] at hx
  exact hx.imp And.left And.left
omit h in
theorem steps_in {r : List (Nat × Nat)} (hr : r ∈ rowsB) {x : Str} (hx : x ∈ stepsF ls r) : ∃ i, i < 6 ∧ x ∈ ls i := by
  obtain ⟨p, hp, q⟩ := List.mem_flatMap.mp hx
  obtain ⟨p1, p2⟩ := row_lt hr hp
  rcases sym_in q with q | q
  · exact ⟨p.1, by lia, q⟩
  · exact ⟨p.2, p2, q⟩
theorem steps_len {r : List (Nat × Nat)} (hr : r ∈ rowsB) : (stepsF ls r).length ≤ 18 := by
  obtain ⟨a, b, c, rfl, _⟩ := row_shape r hr
  unfold stepsF
  rw [List.flatMap_cons, List.flatMap_cons, List.flatMap_cons, List.flatMap_nil, List.append_nil, List.length_append, List.length_append]
  have := way_short h a.1 a.2
  have := way_short h b.1 b.2
  have := way_short h c.1 c.2
  lia
theorem steps_sum {U : List Str} (hU : U.Nodup) (hm : ∀ x, x ∈ U ↔ ∃ i, i < 6 ∧ x ∈ ls i) {r : List (Nat × Nat)} (hr : r ∈ rowsB) : (stepsF ls r).length = (U.map fun f => sepB r (maskF ls f)).sum := by
  rw [len_sum U hU _ fun x hx => (hm x).mpr (steps_in hr hx)]
  exact congrArg _ (List.map_congr_left fun f _ => h.count hr f)
theorem odd_sum {U : List Str} (hU : U.Nodup) (hm : ∀ x, x ∈ U ↔ ∃ i, i < 6 ∧ x ∈ ls i) : (stN ls 6).length = (U.map fun f => sizeB (maskF ls f) % 2).sum := by
  rw [len_sum U hU _ fun x hx => (hm x).mpr (size_pos (by have := (st_six x).mp hx; lia))]
  refine congrArg _ (List.map_congr_left fun f _ => ?_)
  rw [(st_strict h 6).nodup.count]
  by_cases c : f ∈ stN ls 6
  · rw [if_pos c, (st_six f).mp c]
  · rw [if_neg c]
    have : ¬ sizeB (maskF ls f) % 2 = 1 := fun q => c ((st_six f).mpr q)
    lia
theorem odd_in {r : List (Nat × Nat)} (hr : r ∈ rowsB) {x : Str} (hx : x ∈ stN ls 6) : x ∈ stepsF ls r := by
  have h1 := (st_six x).mp hx
  have h2 := (sep_le hr (mask_lt (inF ls x))).2
  have h3 := h.count hr x
  refine List.count_pos_iff.mp ?_
  rw [h3]
  show 0 < sepB r (maskS (inF ls x))
  have : sizeB (maskS (inF ls x)) % 2 = 1 := h1
  lia
theorem over_eq {r : List (Nat × Nat)} (hr : r ∈ rowsB) : uld (stN ls 6).reverse (stepsF ls r) = ([], overS (stepsF ls r) (stN ls 6) 0 (stepsF ls r)) ∧ ((stN ls 6).reverse ++ overS (stepsF ls r) (stN ls 6) 0 (stepsF ls r)).Perm (stepsF ls r) := by
  have hn : (stN ls 6).reverse.Nodup := (List.reverse_perm _).nodup_iff.mpr (st_strict h 6).nodup
  have hi : ∀ x ∈ (stN ls 6).reverse, x ∈ stepsF ls r := fun x hx => odd_in h hr (List.mem_reverse.mp hx)
  have e : overS (stepsF ls r) (stN ls 6) 0 (stepsF ls r) = gone (stN ls 6).reverse (stepsF ls r) := over_gone (stepsF ls r) (stN ls 6) (stepsF ls r) [] _ rfl hn fun y => by rw [List.mem_reverse]; simp
  rw [e]
  exact ⟨uld_gone hn hi, gone_perm hn hi⟩
theorem over_even {r : List (Nat × Nat)} (hr : r ∈ rowsB) (f : Str) : (overS (stepsF ls r) (stN ls 6) 0 (stepsF ls r)).count f % 2 = 0 := by
  have h1 := (over_eq h hr).2.count_eq f
  rw [List.count_append, h.count hr, List.count_reverse, (st_strict h 6).nodup.count] at h1
  have h2 := (sep_le hr (mask_lt (inF ls f))).2
  have h3 : sizeB (maskS (inF ls f)) % 2 = 1 ↔ f ∈ stN ls 6 := (st_six f).symm
  have h4 : sepB r (maskF ls f) = sepB r (maskS (inF ls f)) := rfl
  by_cases c : f ∈ stN ls 6
  · rw [if_pos c] at h1
    have := h3.mpr c
    lia
  · rw [if_neg c] at h1
    have : ¬ sizeB (maskS (inF ls f)) % 2 = 1 := fun q => c (h3.mp q)
    lia
/-- the fewest and the most steps, and the place -/
theorem least_of {U : List Str} (hU : U.Nodup) (hm : ∀ x, x ∈ U ↔ ∃ i, i < 6 ∧ x ∈ ls i) : (∃ r ∈ rowsB, (stepsF ls r).length = (stN ls 6).length) ∧ ∀ r ∈ rowsB, (stN ls 6).length ≤ (stepsF ls r).length := by
  constructor
  · obtain ⟨r, hr, q⟩ := fewest U (maskF ls) (fun x => mask_lt _) h.lam
    refine ⟨r, hr, ?_⟩
    rw [steps_sum h hU hm hr, odd_sum h hU hm]
    refine congrArg _ (List.map_congr_left fun f hf => ?_)
    have h1 := q f hf
    have h2 : sepB r (maskF ls f) % 2 = sizeB (maskF ls f) % 2 := (sep_le hr (mask_lt (inF ls f))).2
    lia
  · intro r hr
    rw [steps_sum h hU hm hr, odd_sum h hU hm]
    refine sum_le _ _ U fun f _ => ?_
    have h2 : sepB r (maskF ls f) % 2 = sizeB (maskF ls f) % 2 := (sep_le hr (mask_lt (inF ls f))).2
    lia
theorem most_of {U : List Str} (hU : U.Nodup) (hm : ∀ x, x ∈ U ↔ ∃ i, i < 6 ∧ x ∈ ls i) : (∃ r ∈ rowsB, (stepsF ls r).length = (U.map fun f => lessB (maskF ls f)).sum) ∧ ∀ r ∈ rowsB, (stepsF ls r).length ≤ (U.map fun f => lessB (maskF ls f)).sum := by
  have le : ∀ r ∈ rowsB, ∀ f, sepB r (maskF ls f) ≤ lessB (maskF ls f) := fun r hr f => (sep_le hr (mask_lt (inF ls f))).1
  constructor
  · obtain ⟨r, hr, q⟩ := mostest U (maskF ls) (fun x => mask_lt _) h.lam
    refine ⟨r, hr, ?_⟩
    rw [steps_sum h hU hm hr]
    exact congrArg _ (List.map_congr_left fun f hf => Nat.le_antisymm (le r hr f) (q f hf))
  · intro r hr
    rw [steps_sum h hU hm hr]
    exact sum_le _ _ U fun f _ => le r hr f
theorem meet_iff {U : List Str} (hU : U.Nodup) (hm : ∀ x, x ∈ U ↔ ∃ i, i < 6 ∧ x ∈ ls i) {r : List (Nat × Nat)} (hr : r ∈ rowsB) : (∃ v, ∀ p ∈ r, v ∈ wayL (ls p.1) (ls p.2)) ↔ (stepsF ls r).length = (U.map fun f => lessB (maskF ls f)).sum := by
  have le : ∀ f, sepB r (maskF ls f) ≤ lessB (maskF ls f) := fun f => (sep_le hr (mask_lt (inF ls f))).1
  rw [steps_sum h hU hm hr]
  constructor
  · rintro ⟨v, hv⟩
    exact congrArg _ (List.map_congr_left fun f _ => Nat.le_antisymm (le f) (h.sat_of_meet hr hv f))
  · intro e
    refine h.meet_of_sat hr fun f hf => Nat.le_of_not_lt fun c => ?_
    have := sum_lt (fun f => sepB r (maskF ls f)) (fun f => lessB (maskF ls f)) U (fun f _ => le f) f ((hm f).mpr hf) c
    lia
end
end Mine
end

section
open PySem PySem.Calls PyProof.Rows PySem.W
namespace Mine
/-! the plain law -/
noncomputable def waysN (ns : List Int) (high low : Nat) : List Str := wayL (lsN ns low) (lsN ns high)
noncomputable def mostN (ns : List Int) : Int := ((countsOf ns).map fun p => lesser p.2).sum
theorem line_ok2 (n : Int) : okS (lineN n) := (w_line _ (names_in n)).2.2
theorem strict_adj {l : List Str} (h : StrictS l) : Adj l := fun k x y hx hy e => by
  obtain ⟨h1, rfl⟩ := List.getElem?_eq_some_iff.mp hx
  obtain ⟨h2, rfl⟩ := List.getElem?_eq_some_iff.mp hy
  exact LtS.ne (List.pairwise_iff_getElem.mp h k (k + 1) h1 h2 (Nat.lt_succ_self _)) e.symm
theorem share_eq (a b : Int) : commonS (pathN a) (pathN b) = (comL (lineN a) (lineN b)).getLastD "/" := by
  unfold commonS pathN lineN
  rw [w_keep _ (names_in a), w_keep _ (names_in b), line_com]
  exact w_last _ (by rw [comL_take]; exact w_pre (names_in a) _)
theorem share_ok (l m : List Str) (h : okS l) : PyData.strOk ((comL l m).getLastD "/") = true := by
  rw [List.getLastD_eq_getLast?]
  cases hg : (comL l m).getLast? with
  | none => decide +kernel
  | some z => exact h z (comL_mem (List.mem_of_getLast? hg))
theorem way_okS {l m : List Str} (hl : okS l) (hm : okS m) : okS (wayL l m) := fun x hx => by
  unfold wayL at hx
  rcases List.mem_append.mp hx with hx | hx
  · exact (sym_in hx).elim (hl x) (hm x)
  · rw [List.mem_singleton.mp hx]; exact share_ok l m hl
theorem dropLast_way (l m : List Str) : (wayL l m).dropLast = symL l m := List.dropLast_concat
theorem stepsR_eq (ns : List Int) (r : List (Nat × Nat)) : stepsR (waysN ns) r = stepsF (lsN ns) r := by
  unfold stepsR stepsF waysN
  exact congrArg (fun g => List.flatMap g r) (funext fun p => dropLast_way _ _)
theorem meetsR_nil (ns : List Int) {r : List (Nat × Nat)} (hr : r ∈ rowsB) : meetsR (waysN ns) r = [] ↔ ¬ ∃ v, ∀ p ∈ r, v ∈ wayL (lsN ns p.1) (lsN ns p.2) := by
  obtain ⟨a, b, c, rfl, _⟩ := row_shape r hr
  have any_iff : ∀ (l : List Str) (x : Str), l.any (· == x) = true ↔ x ∈ l := fun l x => by
    rw [List.any_eq_true]
    exact ⟨fun ⟨y, p, q⟩ => (by simpa using q : y = x) ▸ p, fun q => ⟨x, q, by simp⟩⟩
  show List.filter _ _ = [] ↔ _
  rw [List.filter_eq_nil_iff]
  constructor
  · rintro h ⟨v, hv⟩
    refine h v (hv a (.head _)) ?_
    rw [Bool.and_eq_true, any_iff, any_iff]
    exact ⟨hv b (.tail _ (.head _)), hv c (.tail _ (.tail _ (.head _)))⟩
  · intro h v hv q
    rw [Bool.and_eq_true, any_iff, any_iff] at q
    refine h ⟨v, fun p hp => ?_⟩
    rcases List.mem_cons.mp hp with rfl | hp
    · exact hv
    rcases List.mem_cons.mp hp with rfl | hp
    · exact q.1
    · rw [List.mem_singleton.mp hp]; exact q.2
theorem ls_get {ns : List Int} {k : Nat} {n : Int} (h : ns[k]? = some n) : lsN ns k = lineN n := by
  unfold lsN; rw [List.getD_eq_getElem?_getD, h]; rfl
theorem most_cast {ns : List Int} (h : ns.length = 6) : mostN ns = ((((countsOf ns).map (·.1)).map fun f => lessB (maskF (lsN ns) f)).sum : Int) := by
  unfold mostN
  have key : ∀ l : List (Str × Int), (∀ p ∈ l, p ∈ countsOf ns) → (l.map fun p => lesser p.2).sum = (((l.map (·.1)).map fun f => lessB (maskF (lsN ns) f)).sum : Int) := by
    intro l
    induction l with
    | nil => intro _; rfl
    | cons p r ih =>
      intro hl
      have e : lesser p.2 = (lessB (maskF (lsN ns) p.1) : Int) := by
        rw [key_val (hl p (.head _)), look_size h, less_cast]
      rw [List.map_cons, List.map_cons, List.map_cons, List.sum_cons, List.sum_cons, ih fun q hq => hl q (.tail _ hq), e]
      lia
  exact key _ fun p hp => hp
theorem fmod2 (n : Nat) : ((n : Int)).fmod 2 = 1 ↔ n % 2 = 1 := by
  rw [Int.fmod_eq_emod_of_nonneg _ (by decide)]; lia
theorem odd_perm {ns : List Int} (h : ns.length = 6) : (oddTexts ns).Perm (stN (lsN ns) 6) := by
  refine nodup_perm ?_ (st_strict (tl_of ns) 6).nodup fun x => ?_
  · exact (counts_spec ns).1.sublist (List.filter_sublist.map _)
  · rw [st_six]
    unfold oddTexts
    rw [List.mem_map]
    constructor
    · rintro ⟨p, hp, rfl⟩
      obtain ⟨p1, p2⟩ := List.mem_filter.mp hp
      have := of_decide_eq_true p2
      rw [key_val p1, look_size h, fmod2] at this
      exact this
    · intro hx
      obtain ⟨p, p1, rfl⟩ := List.mem_map.mp ((key_in h x).mpr (size_pos (by lia)))
      refine ⟨p, List.mem_filter.mpr ⟨p1, decide_eq_true ?_⟩, rfl⟩
      rw [key_val p1, look_size h, fmod2]; exact hx
theorem sorted_st (ls : Nat → List Str) (h : TL ls) (k : Nat) {l' : List Str} (hp : l'.Perm (stN ls k)) (hs : sortedS l' = true) : l' = stN ls k := by
  have h1 := sort_uniq hp hs
  have h2 := sort_uniq (.refl (stN ls k)) ((sorted_iff _).mpr ((st_strict h k).imp fun q => q.asy))
  rw [h1, ← h2]
theorem st_in {ls : Nat → List Str} {x : Str} (h : x ∈ stN ls 6) : ∃ i, i < 6 ∧ x ∈ ls i := size_pos (by have := (st_six x).mp h; lia)
section
variable {G : GC}
theorem sld_ok2 (W : Wd G) {l m : List Str} (hl : StrictS l) (hm : StrictS m) (h1 : l.length ≤ 500) (h2 : m.length ≤ 500) : FnOK G 1 (.ref 28) [strD l, strD m] (.tup [strD (lacks l m), strD (lacks m l)]) := by
  have := sld_ok W h1 h2 (strict_adj hl) (strict_adj hm)
  rw [sld_eq l m hl hm] at this
  exact this
theorem lawP_of (W : Wd G) {ns : List Int} (hn : ns.length = 6) : LawP G ns (stN (lsN ns) 6) (waysN ns) (mostN ns) := by
  have T := tl_of ns
  have hU := (counts_spec ns).1
  have hm := key_in hn
  have mc := most_cast hn
  have okl : ∀ i, okS (lsN ns i) := fun i => line_ok2 _
  have oks : ∀ r ∈ rowsB, okS (stepsF (lsN ns) r) := fun r hr x hx => by
    obtain ⟨i, _, q⟩ := steps_in hr hx; exact okl i x q
  refine ⟨fun n _ => ?_, fun n _ => ?_, ?_, ?_, fun x hx => ?_, ?_, fun low high a b hlt ha hb => ?_, fun low high _ _ => ?_, hU, ⟨rfl, fun p hp => ?_⟩, fun r hr => ?_, ?_, ?_⟩
  · obtain ⟨a, b, c, d⟩ := w_path _ (names_in n)
    exact ⟨a, b, c, w_pathOK (names_in n), d⟩
  · obtain ⟨a, b, _, c⟩ := w_up _ (names_in n)
    have := line_ok W (upC (pathN n)) (namesOf n).length (fun _ => rfl) a b (up_len (names_in n)) (Nat.le_trans (w_len (names_in n)) (by decide))
    unfold pathN at this ⊢
    rw [c] at this
    exact this
  · have := folded_ok (G := G) W (ls := ns.map lineN) (st := stN (lsN ns)) (sd := fun k => symL (stN (lsN ns) k) (lsN ns k)) rfl (fun k l hl => ?_) (fun k hk => ?_) (by rw [List.length_map, hn]; decide)
    · rw [List.map_map, List.length_map, hn] at this
      exact this
    · rw [List.getElem?_map] at hl
      obtain ⟨n, hk, rfl⟩ := Option.map_eq_some_iff.mp hl
      have hk6 := (List.getElem?_eq_some_iff.mp hk).1
      rw [← ls_get hk]
      have h1 := st_len T k
      have h2 := T.short k
      have h3 : (lacks (stN (lsN ns) k) (lsN ns k)).length ≤ (stN (lsN ns) k).length := List.length_filter_le _ _
      have h4 : (lacks (lsN ns k) (stN (lsN ns) k)).length ≤ (lsN ns k).length := List.length_filter_le _ _
      exact steps_ok W (sld_ok2 W (st_strict T k) (T.srt k) (by lia) (by lia)) (by lia) (by lia)
    · rw [List.length_map] at hk
      have h1 := st_len T (k + 1)
      have e : (symL (stN (lsN ns) k) (lsN ns k)).length = (stN (lsN ns) (k + 1)).length := (sortS_perm _).length_eq.symm
      exact ⟨by rw [e]; lia, fun l' p q => sort_uniq p q⟩
  · have := st_len T 6; lia
  · obtain ⟨i, _, q⟩ := st_in hx; exact okl i x q
  · refine ⟨?_, fun l' p q => sorted_st _ T 6 (p.trans (odd_perm hn)) q⟩
    have h1 := st_len T 6
    rw [(odd_perm hn).length_eq]; lia
  · have e1 := ls_get ha
    have e2 := ls_get hb
    have d1 := T.drop low high
    have d2 := T.drop' low high
    have k1 := comL_le (lsN ns low) (lsN ns high)
    have kl : (lsN ns low).length - (lacks (lsN ns low) (lsN ns high)).length = (comL (lsN ns low) (lsN ns high)).length := by
      rw [d1, List.length_drop]; lia
    have s1 := T.short low
    have s2 := T.short high
    rw [share_eq a b, ← e1, ← e2]
    refine way_ok W (sld_ok2 W (T.srt low) (T.srt high) (by lia) (by lia)) (List.length_filter_le _ _) (by rw [kl]; exact d1) (by rw [kl]; exact d2) ?_ (by lia) (by lia) (okl _) (okl _) (share_ok _ _ (okl _))
    rw [kl]
    have c1 := comL_take (lsN ns low) (lsN ns high)
    generalize comL (lsN ns low) (lsN ns high) = cc at *
    cases hc : cc.length with
    | zero =>
      rw [List.eq_nil_of_length_eq_zero hc]; rfl
    | succ k =>
      rw [List.drop_succ_cons]
      have hk : k < (lsN ns low).length := by lia
      rw [List.drop_eq_getElem_cons hk, List.take_succ_cons, List.take_zero]
      have : cc[k]? = some (lsN ns low)[k] := by
        rw [c1, hc, List.getElem?_take_of_lt (Nat.lt_succ_self _), List.getElem?_eq_getElem hk]
      rw [List.getLastD_eq_getLast?, List.getLast?_eq_getElem?, hc, Nat.add_sub_cancel, this]; rfl
  · have := way_short T low high
    refine ⟨by unfold waysN wayL; simp, by unfold waysN wayL; rw [List.length_append]; simp; lia, way_okS (okl _) (okl _)⟩
  · have h6 := size_le (ls := lsN ns) p.1
    rw [key_val hp, look_size hn]
    unfold lesser
    split <;> lia
  · rw [rows15_eq] at hr
    rw [stepsR_eq]
    obtain ⟨o1, o2⟩ := over_eq T hr
    have sl := steps_len T hr
    have ol : (overS (stepsF (lsN ns) r) (stN (lsN ns) 6) 0 (stepsF (lsN ns) r)).length ≤ 18 := by
      have := o2.length_eq
      rw [List.length_append] at this; lia
    have oo : okS (overS (stepsF (lsN ns) r) (stN (lsN ns) 6) 0 (stepsF (lsN ns) r)) := fun x hx => oks r hr x (o2.mem_iff.mp (List.mem_append_right _ hx))
    have pm := sortS_perm (overS (stepsF (lsN ns) r) (stN (lsN ns) 6) 0 (stepsF (lsN ns) r))
    refine ⟨by rw [o1], by rw [o1], by lia, oo, ⟨sortS (overS (stepsF (lsN ns) r) (stN (lsN ns) 6) 0 (stepsF (lsN ns) r)), fun l' p q => sort_uniq p q, by rw [pm.length_eq]; lia, fun x hx => oo x (pm.mem_iff.mp hx), twice_eq (by rw [pm.length_eq]; lia) (dbl_of _ (sortS_sorted _) fun f => by rw [pm.count_eq]; exact over_even T hr f)⟩, ?_⟩
    rw [meetsR_nil ns hr, meet_iff T hU hm hr, mc]
    lia
  · rw [rows15_eq]
    obtain ⟨⟨r, hr, e⟩, q⟩ := least_of T hU hm
    exact ⟨List.mem_map.mpr ⟨r, hr, by rw [stepsR_eq, e]⟩, fun r hr => by rw [stepsR_eq]; have := q r hr; lia⟩
  · rw [rows15_eq, mc]
    obtain ⟨⟨r, hr, e⟩, q⟩ := most_of T hU hm
    exact ⟨List.mem_map.mpr ⟨r, hr, by rw [stepsR_eq, e]⟩, fun r hr => by rw [stepsR_eq]; have := q r hr; lia⟩
theorem nums_spec (script : List Int) : (numsOf script).length = 6 ∧ ∀ n ∈ numsOf script, 0 ≤ n ∧ n < 1000000 := by
  unfold numsOf
  constructor
  · rw [List.length_take, List.length_append, List.length_map]; simp
  · intro n hn
    rcases List.mem_append.mp (List.mem_of_mem_take hn) with q | q
    · obtain ⟨c, _, rfl⟩ := List.mem_map.mp q
      exact ⟨Int.fmod_nonneg_of_pos c (by decide), Int.fmod_lt_of_pos c (by decide)⟩
    · have : ∀ n ∈ ([1, 5, 9, 2, 39, 7] : List Int), 0 ≤ n ∧ n < 1000000 := by decide
      exact this n q
theorem law_true (W : Wd G) (Wx : StrmOK G) (script : List Int) (hs : script.length ≤ 63) : FnOK0 G 11 (.ref 257) [dInts script] (.bool true) :=
  law_ok W Wx script hs _ _ _ (lawP_of W (nums_spec script).1) (nums_spec script).1 (nums_spec script).2
end
end Mine
end

section
open PySem PySem.Calls PyProof.Rows PySem.W
namespace Mine
/-! the one argument: a list of ints -/
theorem items_int {R : WRecords} {xs : List WData} (h : WShape.hasItems R xs .int = true) : ∃ ns : List Int, xs = ns.map .int := by
  induction xs with
  | nil => exact ⟨[], rfl⟩
  | cons x r ih =>
    have h' : (WShape.has R x .int && WShape.hasItems R r .int) = true := h
    obtain ⟨h1, h2⟩ := Bool.and_eq_true_iff.mp h'
    obtain ⟨ns, rfl⟩ := ih h2
    cases x <;> first | exact ⟨_ :: ns, rfl⟩ | exact absurd (show false = true from h1) Bool.false_ne_true
theorem one_list {R : WRecords} {args : List WData} (h : WShape.hasAll R args [.list .int] = true) : ∃ ns : List Int, args = [.list (ns.map .int)] := by
  cases args with
  | nil => exact absurd (show false = true from h) Bool.false_ne_true
  | cons x r =>
    have h' : (WShape.has R x (.list .int) && WShape.hasAll R r []) = true := h
    obtain ⟨h1, h2⟩ := Bool.and_eq_true_iff.mp h'
    cases r with
    | cons y r => exact absurd (show false = true from h2) Bool.false_ne_true
    | nil =>
      cases x with
      | list xs =>
        have h3 : (WShape.hasItems R xs .int || false) = true := h1
        rw [Bool.or_false] at h3
        obtain ⟨ns, rfl⟩ := items_int h3
        exact ⟨ns, rfl⟩
      | _ => exact absurd (show false = true from h1) Bool.false_ne_true
theorem pre_script {args : List WData} (h : (RowW.claim rw0.row.toRowW).pre args = true) : ∃ script : List Int, args = [.list (script.map .int)] ∧ script.length ≤ 63 := by
  have h' : (WShape.hasAll [] args [.list .int] && rw0.pre.holds [] { args := args }) = true := h
  obtain ⟨h1, h2⟩ := Bool.and_eq_true_iff.mp h'
  obtain ⟨ns, rfl⟩ := one_list h1
  refine ⟨ns, rfl, ?_⟩
  have e : rw0.pre.value [] { args := [.list (ns.map .int)] } = (match (!decide ((63 : Int) < ((ns.map WData.int).length : Int))) with
    | false => some (WData.bool false)
    | true => some (WData.bool true)) := by
    show (match some (WData.bool !decide ((63 : Int) < ((ns.map WData.int).length : Int))) with
      | some (.bool false) => some (WData.bool false)
      | some (.bool true) => some (WData.bool true)
      | _ => none) = _
    cases decide ((63 : Int) < ((ns.map WData.int).length : Int)) <;> rfl
  unfold WTm.holds at h2
  rw [e] at h2
  cases q : decide ((63 : Int) < ((ns.map WData.int).length : Int)) with
  | true => rw [q] at h2; cases h2
  | false =>
    have := of_decide_eq_false q
    rw [List.length_map] at this
    lia
theorem well_ints {P : Params} {h : Heap} {X : List Addr} : ∀ {ns : List Int} {vs : List Value}, WellAll P h vs (ns.map .int) → RpL X h vs (ns.map .int)
  | [], vs, w => by cases w; exact .nil
  | n :: r, vs, w => by
    obtain ⟨v, vs', rfl, a, b⟩ := wellAll_cons_inv w
    cases a
    exact .cons (.int _ _) (well_ints b)
theorem well_script {P : Params} {h : Heap} {ns : List Int} {vs : List Value} (w : WellAll P h vs [.list (ns.map .int)]) : RpL [] h vs [dInts ns] := by
  obtain ⟨v, vs', rfl, a, b⟩ := wellAll_cons_inv w
  cases b
  cases a with
  | list e k => exact .cons (.list (by simp) ⟨_, e⟩ (well_ints k)) .nil
theorem post_true (args : List WData) : (RowW.claim rw0.row.toRowW).post args (.bool true) args = true := by kernel_rfl
/-- law gives True, and all that stood stands -/
theorem good_true {w : World} {s₁ : Shared} {h' : Heap} {tk' : Nat} {cl : Str → Option Addr} {mean : ExcName → Option Value} {args : List WData} (x : HdF s₁.heap) (hg : s₁.gens = #[]) (g : Grow (gcOf w s₁.heap) s₁.heap h') :
    GoodWG (RowW.claim rw0.row.toRowW) cl mean args s₁ (.ok (.ret (.bool true))) { s₁ with heap := h', toks := tk' } := by
  have keep : ∀ b o, b ≠ 185 → s₁.heap.get? b = some o → h'.get? b = some o := fun b o hb e => g.stays.stays b o (ghost_ne e (by simpa using hb))
  obtain ⟨ps, hP, _⟩ := g.stays.tab
  refine ⟨.inl ⟨.bool true, .bool true, [], rfl, fun _ => rfl, .bool true, post_true args, fun _ => ⟨.nil, nofun⟩⟩, ⟨fun b o e => ?_, fun b o e => ?_⟩, rfl, .of_eq hg⟩
  · by_cases hb : b = 185
    · subst hb
      have e2 := x.tab
      rw [e] at e2; cases e2
      exact .inr (.inl ⟨(x.head.tab x.tab).isCodeTable, rfl, #[], ps, rfl, by rw [Array.empty_append]; exact hP⟩)
    · exact .inl (keep b o hb e)
  · by_cases hb : b = 185
    · subst hb; exact ⟨_, hP⟩
    · exact ⟨o, keep b o hb e⟩
theorem top_builtins {p : Program} {loose : List Str} {mean : ExcName → Option Value} {mg mb : Str → Option Value} {h : Heap} (T : Top p loose mean mg mb h) (hP : h.get? 185 = some (tabObj #[])) : ∃ mg, h.Ns mainGlobals mg ∧ h.BuiltinsAt mg 185 := by
  obtain ⟨bm, ob, b1, b2, b3, b4, b5, b6⟩ := T.bmain
  refine ⟨mg, T.g, bm, ob, b1, b2, fun q => ?_, fun q => ?_, b3, b4, b5, b6⟩
  · obtain ⟨o, es, ep, e, hd, _⟩ := T.g
    rw [q, e] at b3; cases b3; rw [hd] at b6; cases b6
  · rw [q, hP] at b3; cases b3; cases b4
theorem in_first {w : World} {h : Heap} (x : HdF h) : In (gcOf w h) h := by
  refine ⟨fun b o e => of_hideAll _ e, ⟨#[], x.tab, ?_, .inl rfl⟩⟩
  simp [TriplesOk]
/-- the walk, as the head asks it -/
theorem law_walk {q : Program} {loose : List Str} {XP : (Str → Option Value) → Heap → Prop} {d : DefRec} {kwd : List (Str × PySem.Expr)} (hn : d.name = "law") : WalkO q loose XP (fun _ h => HdF h) rw0.row.toRowW d kwd fun f vs => PySem.call f vs := by
  intro w s₀ s₁ mg mb G x a o pm cd doc dV kV ho hd hcd hD hmg hg args vals as hpre hlay hrd hwl hlo
  obtain ⟨script, rfl, hs⟩ := pre_script hpre
  have T := G.T
  have ha : a = 257 := by
    obtain ⟨mg', n1, n2⟩ := x.law
    have := congrFun (T.g.eq_nsMap.trans n1.eq_nsMap.symm) ("law" : Str)
    rw [hn] at hmg
    rw [hmg, n2] at this
    cases this; rfl
  subst ha
  have W : Wd (gcOf w s₁.heap) := x.wd T.nolimit
  have Wx : StrmOK (gcOf w s₁.heap) := x.strmOK (top_builtins T x.tab)
  exact law_true W Wx script hs callerA rfl (by decide +kernel) (by decide +kernel) s₁ vals (in_first x) ⟨[], rfl, trivial, nofun⟩ (well_script hwl) _ _ fun v h' tk' g r => by
    obtain rfl := r.bool'
    exact good_true x hg g
end Mine
end

section
open PySem PySem.Calls PyProof.Rows PySem.W
namespace Mine
/-! what the row says of itself, look by look -/
noncomputable abbrev lw := PySem.Challenge.rw_ik0190_01
theorem ps1 : sreFenced PySem.Challenge.rw_ik0190_01.row.prog.main = true := by rw [Fast.te11788848310118352699]; kernel_rfl
theorem ps2 : namesResolve PySem.Challenge.rw_ik0190_01.row.prog = true := by rw [Fast.te8377067652309620493]; kernel_rfl
theorem ps3 : (PySem.Challenge.rw_ik0190_01.row.prog.boundNames.all fun n => !worldNames.contains n) = true := by rw [Fast.te18344453789297297638, Fast.te14412699480532031325]; kernel_rfl
theorem ps4 : noRoadLSs { strict := !(importedModules PySem.Challenge.rw_ik0190_01.row.prog.main.body).all cThrough.contains, foot := none, bare := (["vars", "dir", "locals"] : List Str).filter (readsOut PySem.Challenge.rw_ik0190_01.row.prog PySem.Challenge.rw_ik0190_01.row.prog.main.body) } PySem.Challenge.rw_ik0190_01.row.prog.main.body = true := by rw [Fast.te8326940854005059898, Fast.te5923862056798008813, Fast.te17691160309236699985, Fast.te13343964577679436407]; kernel_rfl
theorem ps5 : (namesMeet PySem.Challenge.rw_ik0190_01.row.prog PySem.Challenge.rw_ik0190_01.row.prog.main.body fun _ n => attrL n) = true := by rw [Fast.te17119622794617984870, Fast.te17868728402115742887]; kernel_rfl
theorem psaid : PySem.Challenge.rw_ik0190_01.row.wellSaid = true := by
  delta OpenRow.wellSaid OpenRow.partSaid looksOpen
  with_reducible repeat' refine look_both ?_ ?_
  all_goals first | with_reducible exact ps1 | with_reducible exact ps2 | with_reducible exact ps3 | with_reducible exact ps4 | with_reducible exact ps5 | kernel_rfl
theorem ls1 : noRoadLSs { strict := true, foot := some PySem.Challenge.rw_ik0190_01.bound', writes := PySem.Challenge.rw_ik0190_01.writes, may := PySem.Challenge.rw_ik0190_01.may } PySem.Challenge.rw_ik0190_01.footing = true := by rw [Fast.te8326940854005059898, Fast.te797321630700447069, Fast.te9572597257264208301]; kernel_rfl
theorem ls2 : (PySem.Challenge.rw_ik0190_01.bound'.all fun n => !builtinNamed n || PySem.Challenge.rw_ik0190_01.about == [n] || !PySem.Challenge.rw_ik0190_01.reads n) = true := by rw [Fast.te797321630700447069, Fast.te6984425678791042302]; kernel_rfl
theorem ls3 : (namesMeet PySem.Challenge.rw_ik0190_01.prog PySem.Challenge.rw_ik0190_01.above fun _ n => !PySem.Challenge.rw_ik0190_01.own.contains n) = true := by rw [Fast.te17119622794617984870, Fast.te10792542408131684335]; kernel_rfl
theorem wsaid : PySem.Challenge.rw_ik0190_01.wellSaid = true := by
  delta OpenLaw.wellSaid
  with_reducible repeat' refine look_both ?_ ?_
  · exact psaid
  all_goals first | with_reducible exact ls1 | with_reducible exact ls2 | with_reducible exact ls3 | kernel_rfl
end Mine
end

section
open PySem PySem.W PyProof.Rows
set_option maxHeartbeats 8000000 in
theorem PySem.Challenge.cw_ik0190_01_holds : PySem.Challenge.rw_ik0190_01.Holds := by
  refine PySem.W.holds_law Mine.wsaid fun said => ?_
  refine PySem.W.holds_open (q := Mine.viewQ) (loose := []) (Xt := fun s => xlAt Mine.viewQ [] s && recOk (RowW.records Mine.rw0.row.toRowW) s) (XP := XL Mine.viewQ []) (Yf := Mine.hdObs) (Ya := Mine.hdVal) (YP := fun _ h => Mine.HdF h) (N := 3338) Mine.left2 (fun w s e => Mine.hdF_of e) (fun w h h' x k => x.keeps k) (fun s e => xl_of s (Bool.and_eq_true_iff.mp e).1) XL.keeps (by rfl) (by rfl) (by rfl) (fun s e => recFacts_of (Bool.and_eq_true_iff.mp e).2) (by rfl) said (by decide +kernel) ⟨rfl, rfl, rfl, rfl, rfl, by decide +kernel⟩ ?hw ?hc
  case hw => exact ⟨[.list []], by decide +kernel, by decide +kernel⟩
  case hc => exact Mine.law_walk rfl
end
