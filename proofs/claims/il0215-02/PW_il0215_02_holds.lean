import PyProof.Rows.All
import Wide.All
import OpenK.AllK
import Wide.FinOn
import PySem.Challenge.RW_il0215_02
set_option Elab.async false
set_option linter.unusedVariables false
set_option maxRecDepth 100000
namespace Mine
open PySem PySem.W PyProof.Rows PySem.Calls

theorem lt_mil {a : Nat} (h : a < 1000000) : (a : Int) < 1000000 := by (first | lia | omega)

/-! A value-level logic: data as PyData, all lists but the owned ones immutable. -/

abbrev KeepAll (h h' : Heap) : Prop := ∀ b o, h.get? b = some o → h'.get? b = some o

theorem KeepAll.trans {h₁ h₂ h₃ : Heap} (x : KeepAll h₁ h₂) (y : KeepAll h₂ h₃) : KeepAll h₁ h₃ := fun b o e => y b o (x b o e)
theorem KeepAll.push (h : Heap) (o : Obj) : KeepAll h (h.push o) := fun _ _ e => Heap.get?_push_of_some _ e

theorem keeps_refl (s : Shared) : Keeps s s := ⟨s.heap, s.toks, rfl, fun _ _ e => e⟩
theorem keeps_trans {s₁ s₂ s₃ : Shared} (x : Keeps s₁ s₂) (y : Keeps s₂ s₃) : Keeps s₁ s₃ := by
  obtain ⟨h, t, rfl, k⟩ := x
  obtain ⟨h', t', rfl, k'⟩ := y
  exact ⟨h', t', rfl, fun b o e => k' b o (k b o e)⟩
theorem keeps_heap {s s' : Shared} (x : Keeps s s') : KeepAll s.heap s'.heap := by
  obtain ⟨h, t, rfl, k⟩ := x
  exact k
theorem keeps_tok (s : Shared) (t : Nat) : Keeps s { s with toks := t } := ⟨s.heap, t, rfl, fun _ _ e => e⟩
theorem keeps_push (s : Shared) (o : Obj) : Keeps s { s with heap := s.heap.push o } := ⟨_, s.toks, rfl, fun _ _ e => Heap.get?_push_of_some _ e⟩
theorem get?_size (h : Heap) : h.get? h.objs.size = none := by
  cases e : h.get? h.objs.size with
  | none => rfl
  | some o => exact absurd (Heap.lt_size e) (Nat.lt_irrefl _)

theorem isList_keeps {h h' : Heap} {a : Addr} {vs : Array Value} (x : h.IsList a vs) (k : ∀ o, h.get? a = some o → h'.get? a = some o) : h'.IsList a vs := x.at k
theorem isTuple_keeps {h h' : Heap} {a : Addr} {vs : Array Value} (x : h.IsTuple a vs) (k : ∀ o, h.get? a = some o → h'.get? a = some o) : h'.IsTuple a vs :=
  let ⟨o, ho, r⟩ := x; ⟨o, k o ho, r⟩

abbrev Gh := Addr → Option Obj
def GIn (h0 : Gh) (h : Heap) : Prop := ∀ b o, h0 b = some o → h.get? b = some o
theorem GIn.keeps {h0 : Gh} {h h' : Heap} (x : GIn h0 h) (k : KeepAll h h') : GIn h0 h' := fun b o e => k b o (x b o e)

/-- a list, and no dict of its own -/
def LAt (h : Heap) (a : Addr) (vs : Array Value) : Prop := h.IsList a vs ∧ ∃ o, h.get? a = some o ∧ o.dict = none
theorem LAt.of {h : Heap} {a : Addr} {vs : Array Value} {n : Nat} (e : h.get? a = some (listOf vs n)) : LAt h a vs := ⟨⟨_, e, rfl, n, rfl⟩, _, e, rfl⟩
theorem LAt.keeps {h h' : Heap} {a : Addr} {vs : Array Value} (x : LAt h a vs) (k : ∀ o, h.get? a = some o → h'.get? a = some o) : LAt h' a vs :=
  ⟨isList_keeps x.1 k, let ⟨o, e, d⟩ := x.2; ⟨o, k o e, d⟩⟩

mutual
inductive Rep (W : Addr → Prop) (h : Heap) : Value → PyData → Prop
  | none : Rep W h .none .none
  | bool (b : Bool) : Rep W h (.bool b) (.bool b)
  | int (i : Int) (t : Tok) : Rep W h (.int i t) (.int i)
  | str (x : Str) (t : Tok) : Rep W h (.str x t) (.str x)
  | list {a : Addr} {vs : List Value} {ds : List PyData} : ¬ W a → LAt h a vs.toArray → RepAll W h vs ds → Rep W h (.ref a) (.list ds)
  | tuple {a : Addr} {vs : List Value} {ds : List PyData} : ¬ W a → h.IsTuple a vs.toArray → RepAll W h vs ds → Rep W h (.ref a) (.tuple ds)
inductive RepAll (W : Addr → Prop) (h : Heap) : List Value → List PyData → Prop
  | nil : RepAll W h [] []
  | cons {v : Value} {vs : List Value} {d : PyData} {ds : List PyData} : Rep W h v d → RepAll W h vs ds → RepAll W h (v :: vs) (d :: ds)
end

section
variable {W W' : Addr → Prop} {h h' : Heap}
theorem Rep.gen (hW : ∀ a, W' a → W a ∨ h.get? a = Option.none) (hk : ∀ b o, ¬ W b → h.get? b = some o → h'.get? b = some o) {v : Value} {d : PyData} (r : Rep W h v d) : Rep W' h' v d :=
  Rep.rec (motive_1 := fun v d _ => Rep W' h' v d) (motive_2 := fun vs ds _ => RepAll W' h' vs ds) Rep.none (fun b => .bool b) (fun i t => .int i t) (fun x t => .str x t)
    (fun {a _ _} hn hl _ ih => .list (fun w => (hW a w).elim hn fun e => by obtain ⟨o, ho, _⟩ := hl.1; rw [e] at ho; cases ho) (hl.keeps fun o => hk a o hn) ih)
    (fun {a _ _} hn hl _ ih => .tuple (fun w => (hW a w).elim hn fun e => by obtain ⟨o, ho, _⟩ := hl; rw [e] at ho; cases ho) (isTuple_keeps hl fun o => hk a o hn) ih) .nil (fun _ _ ih1 ih2 => .cons ih1 ih2) r
theorem RepAll.gen (hW : ∀ a, W' a → W a ∨ h.get? a = Option.none) (hk : ∀ b o, ¬ W b → h.get? b = some o → h'.get? b = some o) {vs : List Value} {ds : List PyData} (r : RepAll W h vs ds) : RepAll W' h' vs ds :=
  RepAll.rec (motive_1 := fun v d _ => Rep W' h' v d) (motive_2 := fun vs ds _ => RepAll W' h' vs ds) Rep.none (fun b => .bool b) (fun i t => .int i t) (fun x t => .str x t)
    (fun hn hl r _ => Rep.gen hW hk (.list hn hl r)) (fun hn hl r _ => Rep.gen hW hk (.tuple hn hl r)) .nil (fun _ _ ih1 ih2 => .cons ih1 ih2) r
theorem Rep.keeps {v : Value} {d : PyData} (x : Rep W h v d) (hk : KeepAll h h') : Rep W h' v d := x.gen (fun _ w => .inl w) fun b o _ e => hk b o e
theorem RepAll.keeps {v : List Value} {d : List PyData} (x : RepAll W h v d) (hk : KeepAll h h') : RepAll W h' v d := x.gen (fun _ w => .inl w) fun b o _ e => hk b o e
theorem Rep.less {v : Value} {d : PyData} (x : Rep W h v d) (hW : ∀ a, W' a → W a) : Rep W' h v d := x.gen (fun a w => .inl (hW a w)) fun b o _ e => e
theorem RepAll.less {v : List Value} {d : List PyData} (x : RepAll W h v d) (hW : ∀ a, W' a → W a) : RepAll W' h v d := x.gen (fun a w => .inl (hW a w)) fun b o _ e => e

theorem RepAll.length {vs : List Value} {ds : List PyData} (x : RepAll W h vs ds) : vs.length = ds.length := by
  induction vs generalizing ds with
  | nil => cases x; rfl
  | cons v vs ih => cases x with | cons _ r => simp [ih r]
theorem RepAll.get {vs : List Value} {ds : List PyData} (x : RepAll W h vs ds) {i : Nat} {d : PyData} (hi : ds[i]? = some d) : ∃ v, vs[i]? = some v ∧ Rep W h v d := by
  induction vs generalizing ds i with
  | nil => cases x; simp at hi
  | cons v vs ih =>
    cases x with
    | cons hv r =>
      cases i with
      | zero => simp at hi; subst hi; exact ⟨v, by simp, hv⟩
      | succ i => simp at hi; simpa using ih r hi
theorem RepAll.get' {vs : List Value} {ds : List PyData} (x : RepAll W h vs ds) {i : Nat} {v : Value} (hi : vs[i]? = some v) : ∃ d, ds[i]? = some d ∧ Rep W h v d := by
  induction vs generalizing ds i with
  | nil => simp at hi
  | cons u vs ih =>
    cases x with
    | cons hv r =>
      cases i with
      | zero => simp at hi; subst hi; exact ⟨_, by simp, hv⟩
      | succ i => simp at hi; simpa using ih r hi
theorem RepAll.append {vs ws : List Value} {ds es : List PyData} (x : RepAll W h vs ds) (y : RepAll W h ws es) : RepAll W h (vs ++ ws) (ds ++ es) := by
  induction vs generalizing ds with
  | nil => cases x; exact y
  | cons v vs ih => cases x with | cons hv r => exact .cons hv (ih r)
theorem RepAll.take {vs : List Value} {ds : List PyData} (x : RepAll W h vs ds) (n : Nat) : RepAll W h (vs.take n) (ds.take n) := by
  induction vs generalizing ds n with
  | nil => cases x; simp; exact .nil
  | cons v vs ih =>
    cases x with
    | cons hv r =>
      cases n with
      | zero => simp; exact .nil
      | succ n => simp; exact .cons hv (ih r n)
theorem RepAll.drop {vs : List Value} {ds : List PyData} (x : RepAll W h vs ds) (n : Nat) : RepAll W h (vs.drop n) (ds.drop n) := by
  induction vs generalizing ds n with
  | nil => cases x; simp; exact .nil
  | cons v vs ih =>
    cases x with
    | cons hv r =>
      cases n with
      | zero => simp; exact .cons hv r
      | succ n => simp; exact ih r n
end

/-! ### Kinds of knowledge about a value -/
inductive Bd where
  | dat (d : PyData)
  | lst (ds : List PyData)
  | val (v : Value)

def BRep (W : Addr → Prop) (h : Heap) (v : Value) : Bd → Prop
  | .dat d => Rep W h v d
  | .lst ds => ∃ l vs, v = .ref l ∧ h.IsList l vs.toArray ∧ RepAll W h vs ds
  | .val u => v = u

theorem BRep.keeps {W : Addr → Prop} {h h' : Heap} {v : Value} {b : Bd} (x : BRep W h v b) (hk : KeepAll h h') : BRep W h' v b := by
  cases b with
  | dat d => exact Rep.keeps x hk
  | lst ds => obtain ⟨l, vs, e, hl, r⟩ := x; exact ⟨l, vs, e, isList_keeps hl (hk l), r.keeps hk⟩
  | val u => exact x
theorem BRep.less {W W' : Addr → Prop} {h : Heap} {v : Value} {b : Bd} (x : BRep W h v b) (hW : ∀ a, W' a → W a) : BRep W' h v b := by
  cases b with
  | dat d => exact Rep.less x hW
  | lst ds => obtain ⟨l, vs, e, hl, r⟩ := x; exact ⟨l, vs, e, hl, r.less hW⟩
  | val u => exact x
theorem BRep.lst_of_dat {W : Addr → Prop} {h : Heap} {v : Value} {ds : List PyData} (x : BRep W h v (.dat (.list ds))) : BRep W h v (.lst ds) := by
  cases x with
  | list hn hl r => exact ⟨_, _, rfl, hl.1, r⟩

inductive BAll (W : Addr → Prop) (h : Heap) : List Value → List Bd → Prop
  | nil : BAll W h [] []
  | cons {v : Value} {vs : List Value} {b : Bd} {bs : List Bd} : BRep W h v b → BAll W h vs bs → BAll W h (v :: vs) (b :: bs)
theorem BAll.keeps {W : Addr → Prop} {h h' : Heap} {vs : List Value} {bs : List Bd} (x : BAll W h vs bs) (hk : KeepAll h h') : BAll W h' vs bs := by
  induction x with
  | nil => exact .nil
  | cons a _ ih => exact .cons (a.keeps hk) ih
theorem BAll.inv0 {W : Addr → Prop} {h : Heap} {vs : List Value} (x : BAll W h vs []) : vs = [] := by cases x; rfl
theorem BAll.inv_cons {W : Addr → Prop} {h : Heap} {vs : List Value} {b : Bd} {bs : List Bd} (x : BAll W h vs (b :: bs)) : ∃ v us, vs = v :: us ∧ BRep W h v b ∧ BAll W h us bs := by
  cases x with
  | cons r x => exact ⟨_, _, rfl, r, x⟩
theorem BAll.inv1 {W : Addr → Prop} {h : Heap} {vs : List Value} {a : Bd} (x : BAll W h vs [a]) : ∃ u, vs = [u] ∧ BRep W h u a := by
  obtain ⟨u, _, rfl, r, x⟩ := x.inv_cons
  obtain rfl := x.inv0
  exact ⟨u, rfl, r⟩
theorem BAll.inv2 {W : Addr → Prop} {h : Heap} {vs : List Value} {a b : Bd} (x : BAll W h vs [a, b]) : ∃ u v, vs = [u, v] ∧ BRep W h u a ∧ BRep W h v b := by
  obtain ⟨u, _, rfl, r, x⟩ := x.inv_cons
  obtain ⟨v, rfl, r2⟩ := x.inv1
  exact ⟨u, v, rfl, r, r2⟩
theorem BAll.inv3 {W : Addr → Prop} {h : Heap} {vs : List Value} {a b c : Bd} (x : BAll W h vs [a, b, c]) : ∃ u v w, vs = [u, v, w] ∧ BRep W h u a ∧ BRep W h v b ∧ BRep W h w c := by
  obtain ⟨u, _, rfl, r, x⟩ := x.inv_cons
  obtain ⟨v, w, rfl, r2, r3⟩ := x.inv2
  exact ⟨u, v, w, rfl, r, r2, r3⟩
theorem BAll.inv4 {W : Addr → Prop} {h : Heap} {vs : List Value} {a b c d : Bd} (x : BAll W h vs [a, b, c, d]) : ∃ u v w z, vs = [u, v, w, z] ∧ BRep W h u a ∧ BRep W h v b ∧ BRep W h w c ∧ BRep W h z d := by
  obtain ⟨u, _, rfl, r, x⟩ := x.inv_cons
  obtain ⟨v, w, z, rfl, r2, r3, r4⟩ := x.inv3
  exact ⟨u, v, w, z, rfl, r, r2, r3, r4⟩
theorem Rep.inv_int {W : Addr → Prop} {h : Heap} {v : Value} {i : Int} (x : Rep W h v (.int i)) : ∃ t, v = .int i t := by cases x; exact ⟨_, rfl⟩
theorem Rep.inv_str {W : Addr → Prop} {h : Heap} {v : Value} {i : Str} (x : Rep W h v (.str i)) : ∃ t, v = .str i t := by cases x; exact ⟨_, rfl⟩
theorem Rep.inv_none {W : Addr → Prop} {h : Heap} {v : Value} (x : Rep W h v .none) : v = .none := by cases x; rfl
/-- a name's value in a frame -/
inductive VarAt (env : Env) (h : Heap) (x : Str) (v : Value) : Prop
  | loc {m : Str → Option Value} : env.kindOf x = some .local → h.Ns env.locals m → m x = some v → VarAt env h x v
  | cell {c : Addr} : env.kindOf x = some .cell → env.cells.lookup x = some c → h.IsCell c (some v) → VarAt env h x v
  | free {c : Addr} : env.kindOf x = some .free → (x == ("__classdict__" : Str)) = false → env.cells.lookup x = some c → h.IsCell c (some v) → VarAt env h x v
theorem VarAt.keeps {env : Env} {h h' : Heap} {x : Str} {v : Value} (a : VarAt env h x v) (hk : KeepAll h h') : VarAt env h' x v := by
  cases a with
  | loc a b c => exact .loc a (b.keeps hk) c
  | cell a b c => exact .cell a b (c.keeps hk)
  | free a b c d => exact .free a b c (d.keeps hk)
theorem VarAt.load {M : Model} {A : Around} {E : Value → Shared → Prop} {s : Shared} {env : Env} {x : Str} {v : Value} {Q : Value → Shared → Prop} (a : VarAt env s.heap x v) (hk : env.scope.kind = .function) (h : Q v s) :
    wpAny M A (loadName env x) Q E s := by
  cases a with
  | loc a b c => exact wpAny_loadName_local hk a b c h
  | cell a b c => exact wpAny_loadName_cell hk a b c h
  | free a b c d => exact wpAny_loadName_free hk a c d h b

/-! ### Contexts -/
structure Cx where
  prog : Program
  w : World
  A : Around
  g : Gh
  K : Frag
  mg : Str → Option Value
  mb : Str → Option Value
  fuel : Nat

structure Cx.Ok (C : Cx) : Prop where
  hh : C.A.handled = none
  depth : C.A.depth + C.fuel ≤ 600
  units : C.A.units + 8 * C.fuel ≤ 2000
  KIn : ∀ a o, C.K.lookup a = some o → C.g a = some o
  gns : ∀ h, GIn C.g h → h.Ns mainGlobals C.mg
  bns : ∀ h, GIn C.g h → h.Ns builtinsNs C.mb
  nolimit : ∀ h, GIn C.g h → h.NoLimit
  boot : ∀ x : Str, x ≠ "__name__" → C.mb x = bootBuiltins x

structure Cx.St (C : Cx) (W : Addr → Prop) (s : Shared) : Prop where
  g : GIn C.g s.heap
  W : ∀ a, W a → ∃ o, s.heap.get? a = some o
theorem Cx.St.keeps {C : Cx} {W : Addr → Prop} {s s' : Shared} (x : C.St W s) (hk : KeepAll s.heap s'.heap) : C.St W s' :=
  ⟨x.g.keeps hk, fun a w => let ⟨o, ho⟩ := x.W a w; ⟨o, hk a o ho⟩⟩

structure Fm extends Cx where
  env : Env
  sto : Bool

structure Fm.Ok (F : Fm) (W O : Addr → Prop) : Prop where
  cx : F.toCx.Ok
  kind : F.env.scope.kind = .function
  eg : F.env.globals = mainGlobals
  eb : F.env.builtins = builtinsNs
  loc : O F.env.locals
  OW : ∀ a, O a → W a
  Og : ∀ a, O a → F.g a = none
  cne : ∀ x c, F.env.cells.lookup x = some c → c ≠ F.env.locals
  cinj : ∀ x y c, F.env.cells.lookup x = some c → F.env.cells.lookup y = some c → x = y
  cW : ∀ x c, F.env.cells.lookup x = some c → W c
  cO : F.sto = true → ∀ x c, F.env.kindOf x = some .cell → F.env.cells.lookup x = some c → O c

structure Fm.Pre (F : Fm) (W : Addr → Prop) (Γ : List (Str × Bd)) (s : Shared) : Prop where
  st : F.toCx.St W s
  vars : ∀ p ∈ Γ, ∃ v, VarAt F.env s.heap p.1 v ∧ BRep W s.heap v p.2
  ns : ∃ m, s.heap.Ns F.env.locals m
  cells : ∀ x c, F.env.cells.lookup x = some c → ∃ v, s.heap.IsCell c v
theorem Fm.Pre.keeps {F : Fm} {W : Addr → Prop} {Γ : List (Str × Bd)} {s s' : Shared} (x : F.Pre W Γ s) (hk : Keeps s s') : F.Pre W Γ s' :=
  ⟨x.st.keeps (keeps_heap hk), (fun p hp => let ⟨v, a, b⟩ := x.vars p hp; ⟨v, a.keeps (keeps_heap hk), b.keeps (keeps_heap hk)⟩),
    let ⟨m, n⟩ := x.ns; ⟨m, n.keeps (keeps_heap hk)⟩, fun y c e => let ⟨v, n⟩ := x.cells y c e; ⟨v, n.keeps (keeps_heap hk)⟩⟩
theorem Fm.Pre.sub {F : Fm} {W : Addr → Prop} {Γ Γ' : List (Str × Bd)} {s : Shared} (x : F.Pre W Γ s) (h : ∀ p ∈ Γ', p ∈ Γ) : F.Pre W Γ' s := ⟨x.st, fun p hp => x.vars p (h p hp), x.ns, x.cells⟩

structure Wrap (p : Prop) : Prop where
  run : p

/-- what an expression gives -/
abbrev EvB (F : Fm) (Γ : List (Str × Bd)) (e : Expr) (b : Bd) : Prop := Wrap (∀ W O, F.Ok W O → ∀ s, F.Pre W Γ s →
  wpAny (model F.prog F.w) F.A (eval e F.env) (fun v s' => Keeps s s' ∧ BRep W s'.heap v b) (fun _ _ => False) s)
abbrev EvE (F : Fm) (Γ : List (Str × Bd)) (e : Expr) (d : PyData) : Prop := EvB F Γ e (.dat d)
/-- what a test gives -/
abbrev EvT (F : Fm) (Γ : List (Str × Bd)) (e : Expr) (b : Bool) : Prop := Wrap (∀ W O, F.Ok W O → ∀ s, F.Pre W Γ s →
  wpAny (model F.prog F.w) F.A (isTrue e F.env (eval e F.env)) (fun r s' => Keeps s s' ∧ r = b) (fun _ _ => False) s)

section
variable {F : Fm} {Γ : List (Str × Bd)} {W O : Addr → Prop}
theorem EvB.use {e : Expr} {b : Bd} (x : EvB F Γ e b) (ok : F.Ok W O) {s : Shared} (p : F.Pre W Γ s) {Q : Value → Shared → Prop} {E : Value → Shared → Prop}
    (h : ∀ v s', Keeps s s' → F.Pre W Γ s' → BRep W s'.heap v b → Q v s') : wpAny (model F.prog F.w) F.A (eval e F.env) Q E s :=
  wpAny_mono (x.run W O ok s p) (fun v s' ⟨a, c⟩ => h v s' a (p.keeps a) c) fun _ _ f => f.elim
theorem EvT.use {e : Expr} {b : Bool} (x : EvT F Γ e b) (ok : F.Ok W O) {s : Shared} (p : F.Pre W Γ s) {Q : Bool → Shared → Prop} {E : Value → Shared → Prop}
    (h : ∀ s', Keeps s s' → F.Pre W Γ s' → Q b s') : wpAny (model F.prog F.w) F.A (isTrue e F.env (eval e F.env)) Q E s :=
  wpAny_mono (x.run W O ok s p) (fun v s' ⟨a, c⟩ => c ▸ h s' a (p.keeps a)) fun _ _ f => f.elim
end

/-! ### Atoms -/
section
variable {F : Fm} {Γ : List (Str × Bd)}

theorem ev_int {i : Int} {k : Nat} {pos : Pos} : EvE F Γ (.Constant (.int i) k pos) (.int i) := .mk fun _ _ _ s _ =>
  wpAny_Constant_int ⟨keeps_tok s _, .int _ _⟩
theorem ev_str {x : Str} {k : Nat} {pos : Pos} : EvE F Γ (.Constant (.str x) k pos) (.str x) := .mk fun _ _ _ s _ =>
  Constant_str ⟨keeps_tok s _, .str _ _⟩
theorem ev_bool {x : Bool} {k : Nat} {pos : Pos} : EvE F Γ (.Constant (.bool x) k pos) (.bool x) := .mk fun _ _ _ s _ =>
  Constant_bool ⟨keeps_refl s, .bool _⟩
theorem ev_none {k : Nat} {pos : Pos} : EvE F Γ (.Constant .none k pos) .none := .mk fun _ _ _ s _ =>
  Constant_none ⟨keeps_refl s, .none⟩
theorem ev_var {x : Str} {pos : Pos} {b : Bd} (hx : (x, b) ∈ Γ) (hd : (x == ("__debug__" : Str)) = false := by decide) : EvB F Γ (.Name x pos) b := .mk fun _ _ ok s p => by
  obtain ⟨v, a, r⟩ := p.vars _ hx
  exact wpAny_Name (a.load ok.kind ⟨keeps_refl s, r⟩) hd
theorem ev_lst {e : Expr} {ds : List PyData} (x : EvE F Γ e (.list ds)) : EvB F Γ e (.lst ds) := .mk fun _ _ ok _ p =>
  x.use ok p fun _ _ k _ r => ⟨k, BRep.lst_of_dat r⟩
/-- a name of the text's top -/
theorem ev_glob {x : Str} {pos : Pos} {v : Value} (hk : F.env.kindOf x = some .globalImplicit) (hv : F.mg x = some v) (hd : (x == ("__debug__" : Str)) = false := by decide) : EvB F Γ (.Name x pos) (.val v) := .mk fun _ _ ok s p => by
  refine Name_function_global ok.kind hk (loadGlobal_global (mg := F.mg) ?_ hv ⟨keeps_refl s, rfl⟩) hd
  rw [ok.eg]; exact ok.cx.gns _ p.st.g
/-- a built-in name -/
theorem ev_builtin {x : Str} {pos : Pos} {v : Value} (hk : F.env.kindOf x = some .globalImplicit) (hm : F.mg x = none) (hv : bootBuiltins x = some v) (hn : x ≠ "__name__" := by decide)
    (hd : (x == ("__debug__" : Str)) = false := by decide) : EvB F Γ (.Name x pos) (.val v) := .mk fun _ _ ok s p => by
  refine Name_function_global ok.kind hk (loadGlobal_builtin (mg := F.mg) (mb := F.mb) ?_ hm ?_ ((ok.cx.boot x hn).trans hv) ⟨keeps_refl s, rfl⟩) hd
  · rw [ok.eg]; exact ok.cx.gns _ p.st.g
  · rw [ok.eb]; exact ok.cx.bns _ p.st.g
end
end Mine

namespace Mine
open PySem PySem.W PyProof.Rows PySem.Calls

/-! texts as lists of signs -/
def st (l : List Nat) : Str := ⟨l.toArray⟩
theorem st_cps (l : List Nat) : (st l).cps = l.toArray := rfl
theorem st_len (l : List Nat) : (st l).length = l.length := by simp [st, Str.length]
theorem st_inj {a b : List Nat} : st a = st b ↔ a = b := by simp [st]
theorem st_append (a b : List Nat) : st a ++ st b = st (a ++ b) := by
  show Str.mk (a.toArray ++ b.toArray) = Str.mk (a ++ b).toArray
  simp

section
variable {F : Fm} {Γ : List (Str × Bd)}

/-- an operator on two values of known kind -/
abbrev BinR (F : Fm) (op : Operator) (a b c : Bd) : Prop := Wrap (F.toCx.Ok → ∀ W s v u, F.toCx.St W s → BRep W s.heap v a → BRep W s.heap u b →
  wpAny (model F.prog F.w) F.A (binaryOp op v u) (fun r s' => Keeps s s' ∧ BRep W s'.heap r c) (fun _ _ => False) s)
theorem ev_bin {l r : Expr} {op : Operator} {pos : Pos} {a b c : Bd} (x : EvB F Γ l a) (y : EvB F Γ r b) (h : BinR F op a b c) : EvB F Γ (.BinOp l op r pos) c := .mk fun _ _ ok s p =>
  wpAny_BinOp (x.use ok p fun v s₁ k₁ p₁ r₁ => y.use ok p₁ fun u s₂ k₂ p₂ r₂ =>
    wpAny_mono (h.run ok.cx _ s₂ v u p₂.st (r₁.keeps (keeps_heap k₂)) r₂) (fun _ _ ⟨k, q⟩ => ⟨keeps_trans (keeps_trans k₁ k₂) k, q⟩) fun _ _ f => f)

theorem binR_add_int {a b : Int} : BinR F .Add (.dat (.int a)) (.dat (.int b)) (.dat (.int (a + b))) := .mk fun _ _ s _ _ _ x y => by
  (first | obtain rfl := BAll.inv0 x | obtain ⟨_, rfl⟩ := Rep.inv_int x | obtain ⟨_, rfl⟩ := Rep.inv_str x | obtain rfl := Rep.inv_none x | cases x); (first | obtain rfl := BAll.inv0 y | obtain ⟨_, rfl⟩ := Rep.inv_int y | obtain ⟨_, rfl⟩ := Rep.inv_str y | obtain rfl := Rep.inv_none y | cases y); exact add_int ⟨keeps_tok s _, .int _ _⟩
theorem binR_sub_int {a b : Int} : BinR F .Sub (.dat (.int a)) (.dat (.int b)) (.dat (.int (a - b))) := .mk fun _ _ s _ _ _ x y => by
  (first | obtain rfl := BAll.inv0 x | obtain ⟨_, rfl⟩ := Rep.inv_int x | obtain ⟨_, rfl⟩ := Rep.inv_str x | obtain rfl := Rep.inv_none x | cases x); (first | obtain rfl := BAll.inv0 y | obtain ⟨_, rfl⟩ := Rep.inv_int y | obtain ⟨_, rfl⟩ := Rep.inv_str y | obtain rfl := Rep.inv_none y | cases y); exact sub_int ⟨keeps_tok s _, .int _ _⟩
theorem binR_mul_int {a b : Int} (h : IntMulOk a b) : BinR F .Mult (.dat (.int a)) (.dat (.int b)) (.dat (.int (a * b))) := .mk fun _ _ s _ _ _ x y => by
  (first | obtain rfl := BAll.inv0 x | obtain ⟨_, rfl⟩ := Rep.inv_int x | obtain ⟨_, rfl⟩ := Rep.inv_str x | obtain rfl := Rep.inv_none x | cases x); (first | obtain rfl := BAll.inv0 y | obtain ⟨_, rfl⟩ := Rep.inv_int y | obtain ⟨_, rfl⟩ := Rep.inv_str y | obtain rfl := Rep.inv_none y | cases y); exact mul_int ⟨keeps_tok s _, .int _ _⟩ h
theorem binR_fdiv {a b : Int} (h : b ≠ 0) (hp : Builtin.divisionGoesByPylong a b = false) : BinR F .FloorDiv (.dat (.int a)) (.dat (.int b)) (.dat (.int (Int.fdiv a b))) := .mk fun _ _ s _ _ _ x y => by
  (first | obtain rfl := BAll.inv0 x | obtain ⟨_, rfl⟩ := Rep.inv_int x | obtain ⟨_, rfl⟩ := Rep.inv_str x | obtain rfl := Rep.inv_none x | cases x); (first | obtain rfl := BAll.inv0 y | obtain ⟨_, rfl⟩ := Rep.inv_int y | obtain ⟨_, rfl⟩ := Rep.inv_str y | obtain rfl := Rep.inv_none y | cases y); exact floordiv_int h ⟨keeps_tok s _, .int _ _⟩ (.inl hp)
theorem binR_fmod {a b : Int} (h : b ≠ 0) : BinR F .Mod (.dat (.int a)) (.dat (.int b)) (.dat (.int (Int.fmod a b))) := .mk fun _ _ s _ _ _ x y => by
  (first | obtain rfl := BAll.inv0 x | obtain ⟨_, rfl⟩ := Rep.inv_int x | obtain ⟨_, rfl⟩ := Rep.inv_str x | obtain rfl := Rep.inv_none x | cases x); (first | obtain rfl := BAll.inv0 y | obtain ⟨_, rfl⟩ := Rep.inv_int y | obtain ⟨_, rfl⟩ := Rep.inv_str y | obtain rfl := Rep.inv_none y | cases y); exact mod_int' h ⟨keeps_tok s _, .int _ _⟩
theorem binR_pow {a n : Int} (h : 0 ≤ n) (hz : (Builtin.Int.intBits a : Int) * n ≤ 2 ^ 27) : BinR F .Pow (.dat (.int a)) (.dat (.int n)) (.dat (.int (a ^ n.toNat))) := .mk fun _ _ s _ _ _ x y => by
  (first | obtain rfl := BAll.inv0 x | obtain ⟨_, rfl⟩ := Rep.inv_int x | obtain ⟨_, rfl⟩ := Rep.inv_str x | obtain rfl := Rep.inv_none x | cases x); (first | obtain rfl := BAll.inv0 y | obtain ⟨_, rfl⟩ := Rep.inv_int y | obtain ⟨_, rfl⟩ := Rep.inv_str y | obtain rfl := Rep.inv_none y | cases y); exact pow_int h hz ⟨keeps_tok s _, .int _ _⟩
theorem binR_add_str {a b : List Nat} (h : a.length + b.length ≤ 100000) : BinR F .Add (.dat (.str (st a))) (.dat (.str (st b))) (.dat (.str (st (a ++ b)))) := .mk fun _ _ s _ _ _ x y => by
  (first | obtain rfl := BAll.inv0 x | obtain ⟨_, rfl⟩ := Rep.inv_int x | obtain ⟨_, rfl⟩ := Rep.inv_str x | obtain rfl := Rep.inv_none x | cases x); (first | obtain rfl := BAll.inv0 y | obtain ⟨_, rfl⟩ := Rep.inv_int y | obtain ⟨_, rfl⟩ := Rep.inv_str y | obtain rfl := Rep.inv_none y | cases y)
  refine add_str (fun t' tk => ⟨keeps_tok s _, ?_⟩) (by rw [st_len, st_len, sizeLine_eq]; (first | lia | omega))
  rw [st_append]; exact .str _ _
theorem foldl_replicate (l : List Nat) : ∀ (n : Nat) (a : Array Nat), (List.replicate n l.toArray).foldl (· ++ ·) a = a ++ (List.replicate n l).flatten.toArray
  | 0, a => by simp
  | n + 1, a => by simp [List.replicate_succ, foldl_replicate l n]
theorem txt_mul (l : List Nat) (n : Int) : Txt.mul (st l) n = st (List.replicate n.toNat l).flatten := by
  unfold Txt.mul
  by_cases h1 : n < 1
  · rw [if_pos h1]
    have : n.toNat = 0 := by (first | lia | omega)
    rw [this]; rfl
  · rw [if_neg h1]
    by_cases h2 : (n == 1 || (st l).length == 0) = true
    · rw [if_pos h2]
      rw [st_len] at h2
      simp only [Bool.or_eq_true, beq_iff_eq] at h2
      rcases h2 with h2 | h2
      · subst h2; simp
      · have : l = [] := List.eq_nil_of_length_eq_zero h2
        subst this; simp
    · rw [if_neg h2, st_cps, foldl_replicate]
      simp [st]
theorem binR_mul_str {l : List Nat} {n : Int} (h0 : -1000000 ≤ n) (h1 : n ≤ 1000) (h2 : l.length ≤ 1000) : BinR F .Mult (.dat (.str (st l))) (.dat (.int n)) (.dat (.str (st (List.replicate n.toNat l).flatten))) := .mk fun _ _ s _ _ _ x y => by
  (first | obtain rfl := BAll.inv0 x | obtain ⟨_, rfl⟩ := Rep.inv_int x | obtain ⟨_, rfl⟩ := Rep.inv_str x | obtain rfl := Rep.inv_none x | cases x); (first | obtain rfl := BAll.inv0 y | obtain ⟨_, rfl⟩ := Rep.inv_int y | obtain ⟨_, rfl⟩ := Rep.inv_str y | obtain rfl := Rep.inv_none y | cases y)
  refine SB.mul ⟨?_, fun hn _ => ?_, fun hn _ => ?_⟩ fun t' k => ⟨keeps_tok s _, ?_⟩
  · simp; (first | lia | omega)
  · rw [st_len]
    have : (9223372036854775807 : Int) / n ≥ 9223372036854775 := by
      apply Int.le_ediv_of_mul_le (by first | decide | assumption | with_reducible exact Int.natCast_nonneg _ | with_reducible exact Nat.le_trans (by assumption) (by decide) | with_reducible exact Nat.lt_of_lt_of_le (by assumption) (by decide) | with_reducible exact lt_mil (Nat.lt_of_lt_of_le (by assumption) (by decide)) | with_reducible exact lt_mil (Nat.lt_of_le_of_lt (by assumption) (by decide)) | with_reducible exact Nat.le_trans (Nat.le_of_lt (by assumption)) (by decide) | (first | lia | omega))
      (first | lia | omega)
    show ¬ ((l.length : Int) > (2 ^ 63 - 1) / n)
    have e : (2 ^ 63 - 1 : Int) = 9223372036854775807 := by decide
    rw [e]; (first | lia | omega)
  · rw [st_len]
    have : l.length * n.toNat ≤ 1000 * 1000 := Nat.mul_le_mul h2 (by first | decide | assumption | with_reducible exact Int.natCast_nonneg _ | with_reducible exact Nat.le_trans (by assumption) (by decide) | with_reducible exact Nat.lt_of_lt_of_le (by assumption) (by decide) | with_reducible exact lt_mil (Nat.lt_of_lt_of_le (by assumption) (by decide)) | with_reducible exact lt_mil (Nat.lt_of_le_of_lt (by assumption) (by decide)) | with_reducible exact Nat.le_trans (Nat.le_of_lt (by assumption)) (by decide) | (first | lia | omega))
    simp [Builtin.Str.tooLong, sizeLine_eq]; (first | lia | omega)
  · rw [txt_mul]; exact .str _ _

theorem newList_lt {h : Heap} {W : Addr → Prop} (hW : ∀ a, W a → ∃ o, h.get? a = some o) : ¬ W h.objs.size := fun w => by
  obtain ⟨o, ho⟩ := hW _ w
  rw [get?_size] at ho; cases ho
theorem rep_pushed {s : Shared} {C : Cx} {W : Addr → Prop} (S : C.St W s) {vs : List Value} {ds : List PyData} (r : RepAll W s.heap vs ds) (n : Nat) :
    Rep W (s.heap.push { cls := .type "list", data := .seq vs.toArray n }) (.ref s.heap.objs.size) (.list ds) :=
  .list (newList_lt S.W) (.of (n := n) (Heap.get?_push_size _ rfl)) (r.keeps (KeepAll.push _ _))
theorem rep_pushedT {s : Shared} {C : Cx} {W : Addr → Prop} (S : C.St W s) {vs : List Value} {ds : List PyData} (r : RepAll W s.heap vs ds) (n : Nat) :
    Rep W (s.heap.push { cls := .type "tuple", data := .seq vs.toArray n }) (.ref s.heap.objs.size) (.tuple ds) :=
  .tuple (newList_lt S.W) ⟨_, Heap.get?_push_size _ rfl, rfl, n, rfl⟩ (r.keeps (KeepAll.push _ _))

theorem binR_add_list {a b : List PyData} (h : a.length + b.length ≤ 100000) : BinR F .Add (.lst a) (.lst b) (.dat (.list (a ++ b))) := .mk fun _ _ s _ _ S x y => by
  obtain ⟨l, vs, rfl, hl, rl⟩ := x
  obtain ⟨l', ws, rfl, hl', rl'⟩ := y
  obtain ⟨⟨cls, dd, data, sl⟩, ho, hc, n, hd⟩ := id hl
  obtain ⟨⟨cls2, dd2, data2, sl2⟩, ho2, hc2, n2, hd2⟩ := id hl'
  simp only at hc hd hc2 hd2
  subst hc hd hc2 hd2
  have e : vs.toArray ++ ws.toArray = (vs ++ ws).toArray := by simp
  refine concat_meets ⟨_, ho, rfl⟩ ⟨_, ho2, rfl⟩ noFill_list_add seq_list_add PySem.F.slot_list_add PySem.F.entry_list_add (PySem.F.args_list_add_2 _ _)
    (list_addW l l' vs.toArray ws.toArray n n2 dd dd2 sl sl2 (by have := rl.length; have := rl'.length; simp; rw [sizeLine_eq]; (first | lia | omega))) ⟨ho, ho2, ?_⟩
  rw [e]
  exact ⟨keeps_push s _, rep_pushed S (rl.append rl') 0⟩

/-- a comparison -/
abbrev CmpR (F : Fm) (op : CmpOp) (a b : Bd) (c : Bool) : Prop := Wrap (F.toCx.Ok → ∀ W s v u, F.toCx.St W s → BRep W s.heap v a → BRep W s.heap u b →
  wpAny (model F.prog F.w) F.A (compareOp op v u) (fun r s' => Keeps s s' ∧ r = .bool c) (fun _ _ => False) s)
theorem et_cmp {l r : Expr} {op : CmpOp} {pos : Pos} {a b : Bd} {c : Bool} (x : EvB F Γ l a) (y : EvB F Γ r b) (h : CmpR F op a b c) (hm : behindInMarks op r = false := by with_unfolding_all rfl) :
    EvT F Γ (.Compare l [op] [r] pos) c := .mk fun _ _ ok s p =>
  wpAny_isTrue_Compare1 (x.use ok p fun v s₁ k₁ p₁ r₁ => y.use ok p₁ fun u s₂ k₂ p₂ r₂ =>
    wpAny_mono (h.run ok.cx _ s₂ v u p₂.st (r₁.keeps (keeps_heap k₂)) r₂) (fun _ _ ⟨k, q⟩ => q ▸ wpAny_truthy_bool ⟨keeps_trans (keeps_trans k₁ k₂) k, rfl⟩) fun _ _ f => f) hm

theorem cmpR_lt_int {a b : Int} : CmpR F .Lt (.dat (.int a)) (.dat (.int b)) (decide (a < b)) := .mk fun _ _ s _ _ _ x y => by
  (first | obtain rfl := BAll.inv0 x | obtain ⟨_, rfl⟩ := Rep.inv_int x | obtain ⟨_, rfl⟩ := Rep.inv_str x | obtain rfl := Rep.inv_none x | cases x); (first | obtain rfl := BAll.inv0 y | obtain ⟨_, rfl⟩ := Rep.inv_int y | obtain ⟨_, rfl⟩ := Rep.inv_str y | obtain rfl := Rep.inv_none y | cases y); exact lt_int ⟨keeps_refl s, rfl⟩
theorem cmpR_gt_int {a b : Int} : CmpR F .Gt (.dat (.int a)) (.dat (.int b)) (decide (b < a)) := .mk fun _ _ s _ _ _ x y => by
  (first | obtain rfl := BAll.inv0 x | obtain ⟨_, rfl⟩ := Rep.inv_int x | obtain ⟨_, rfl⟩ := Rep.inv_str x | obtain rfl := Rep.inv_none x | cases x); (first | obtain rfl := BAll.inv0 y | obtain ⟨_, rfl⟩ := Rep.inv_int y | obtain ⟨_, rfl⟩ := Rep.inv_str y | obtain rfl := Rep.inv_none y | cases y); exact gt_int ⟨keeps_refl s, rfl⟩
theorem cmpR_ge_int {a b : Int} : CmpR F .GtE (.dat (.int a)) (.dat (.int b)) (decide (b ≤ a)) := .mk fun _ _ s _ _ _ x y => by
  (first | obtain rfl := BAll.inv0 x | obtain ⟨_, rfl⟩ := Rep.inv_int x | obtain ⟨_, rfl⟩ := Rep.inv_str x | obtain rfl := Rep.inv_none x | cases x); (first | obtain rfl := BAll.inv0 y | obtain ⟨_, rfl⟩ := Rep.inv_int y | obtain ⟨_, rfl⟩ := Rep.inv_str y | obtain rfl := Rep.inv_none y | cases y); exact ge_int ⟨keeps_refl s, rfl⟩
theorem cmpR_eq_int {a b : Int} : CmpR F .Eq (.dat (.int a)) (.dat (.int b)) (decide (a = b)) := .mk fun _ _ s _ _ _ x y => by
  (first | obtain rfl := BAll.inv0 x | obtain ⟨_, rfl⟩ := Rep.inv_int x | obtain ⟨_, rfl⟩ := Rep.inv_str x | obtain rfl := Rep.inv_none x | cases x); (first | obtain rfl := BAll.inv0 y | obtain ⟨_, rfl⟩ := Rep.inv_int y | obtain ⟨_, rfl⟩ := Rep.inv_str y | obtain rfl := Rep.inv_none y | cases y); exact eq_int ⟨keeps_refl s, by congr 1⟩
theorem cmpR_ne_int {a b : Int} : CmpR F .NotEq (.dat (.int a)) (.dat (.int b)) (decide (a ≠ b)) := .mk fun _ _ s _ _ _ x y => by
  cases x; cases y; exact ne_int ⟨keeps_refl s, by congr 1; by_cases h : a = b <;> simp [h]⟩
theorem beq_str (a b : Str) : (a == b) = decide (a = b) := by
  by_cases h : a = b
  · subst h; simp
  · rw [decide_eq_false h]; exact beq_eq_false_iff_ne.mpr h
theorem cmpR_eq_str {a b : List Nat} : CmpR F .Eq (.dat (.str (st a))) (.dat (.str (st b))) (decide (a = b)) := .mk fun _ _ s _ _ _ x y => by
  (first | obtain rfl := BAll.inv0 x | obtain ⟨_, rfl⟩ := Rep.inv_int x | obtain ⟨_, rfl⟩ := Rep.inv_str x | obtain rfl := Rep.inv_none x | cases x); (first | obtain rfl := BAll.inv0 y | obtain ⟨_, rfl⟩ := Rep.inv_int y | obtain ⟨_, rfl⟩ := Rep.inv_str y | obtain rfl := Rep.inv_none y | cases y)
  refine eq_str ⟨keeps_refl s, ?_⟩
  rw [beq_str]; congr 1; exact decide_eq_decide.mpr st_inj
theorem cmpR_ne_str {a b : List Nat} : CmpR F .NotEq (.dat (.str (st a))) (.dat (.str (st b))) (decide (a ≠ b)) := .mk fun _ _ s _ _ _ x y => by
  (first | obtain rfl := BAll.inv0 x | obtain ⟨_, rfl⟩ := Rep.inv_int x | obtain ⟨_, rfl⟩ := Rep.inv_str x | obtain rfl := Rep.inv_none x | cases x); (first | obtain rfl := BAll.inv0 y | obtain ⟨_, rfl⟩ := Rep.inv_int y | obtain ⟨_, rfl⟩ := Rep.inv_str y | obtain rfl := Rep.inv_none y | cases y)
  refine ne_str ⟨keeps_refl s, ?_⟩
  rw [bne, beq_str]; congr 1
  rw [← decide_not]; exact decide_eq_decide.mpr (not_congr st_inj)
theorem cmpR_lt_str {a b : List Nat} : CmpR F .Lt (.dat (.str (st a))) (.dat (.str (st b))) (decide (a < b)) := .mk fun _ _ s _ _ _ x y => by
  (first | obtain rfl := BAll.inv0 x | obtain ⟨_, rfl⟩ := Rep.inv_int x | obtain ⟨_, rfl⟩ := Rep.inv_str x | obtain rfl := Rep.inv_none x | cases x); (first | obtain rfl := BAll.inv0 y | obtain ⟨_, rfl⟩ := Rep.inv_int y | obtain ⟨_, rfl⟩ := Rep.inv_str y | obtain rfl := Rep.inv_none y | cases y)
  exact lt_str ⟨keeps_refl s, by congr 1⟩

/-! data as the library's Reads -/
theorem Rep.reads {W : Addr → Prop} {h : Heap} {v : Value} {d : PyData} (r : Rep W h v d) : ∃ as, Reads h v d as :=
  Rep.rec (motive_1 := fun v d _ => ∃ as, Reads h v d as) (motive_2 := fun vs ds _ => ∃ as, ReadsAll h vs ds as) ⟨_, .none⟩ (fun b => ⟨_, .bool b⟩) (fun i t => ⟨_, .int i t⟩) (fun x t => ⟨_, .str x t⟩)
    (fun _ hl _ ih => by
      obtain ⟨⟨o, ho, hc, n, hd⟩, _⟩ := hl
      obtain ⟨as, q⟩ := ih
      exact ⟨_, .list ho hc hd (by simpa using q)⟩)
    (fun _ hl _ ih => by
      obtain ⟨o, ho, hc, n, hd⟩ := hl
      obtain ⟨as, q⟩ := ih
      exact ⟨_, .tuple ho hc hd (by simpa using q)⟩) ⟨_, .nil⟩ (fun _ _ ih1 ih2 => by
      obtain ⟨as, q⟩ := ih1
      obtain ⟨bs, q'⟩ := ih2
      exact ⟨_, .cons q q'⟩) r
theorem cmpR_eq_data {a b : PyData} (ha : SeqAt.shaped a = true) (hb : SeqAt.shaped b = true) : CmpR F .Eq (.dat a) (.dat b) (PyData.eqv a b) := .mk fun ok _ s _ _ _ x y => by
  obtain ⟨as, ra⟩ := Rep.reads x
  obtain ⟨bs, rb⟩ := Rep.reads y
  exact eq_dataH ra rb ha hb (by have := ok.units; show F.A.units + 64 < 9900; (first | lia | omega)) ⟨keeps_refl s, rfl⟩
theorem cmpR_ne_data {a b : PyData} (ha : SeqAt.shaped a = true) (hb : SeqAt.shaped b = true) : CmpR F .NotEq (.dat a) (.dat b) (!PyData.eqv a b) := .mk fun ok _ s _ _ _ x y => by
  obtain ⟨as, ra⟩ := Rep.reads x
  obtain ⟨bs, rb⟩ := Rep.reads y
  exact ne_dataH ra rb ha hb (by have := ok.units; show F.A.units + 64 < 9900; (first | lia | omega)) ⟨keeps_refl s, rfl⟩

/-! tests -/
theorem et_and_nil {pos : Pos} : EvT F Γ (.BoolOp .And [] pos) true := .mk fun _ _ _ s _ => isTrue_and_nil ⟨keeps_refl s, rfl⟩
theorem et_and {x : Expr} {rest : List Expr} {pos : Pos} {a b : Bool} (h : EvT F Γ x a) (g : a = true → EvT F Γ (.BoolOp .And rest pos) b) : EvT F Γ (.BoolOp .And (x :: rest) pos) (a && b) := .mk fun _ _ ok s p => by
  refine isTrue_and (h.use ok p fun s₁ k₁ p₁ => ?_)
  cases a with
  | false => exact ⟨k₁, rfl⟩
  | true => exact wpAny_mono ((g rfl).run _ _ ok s₁ p₁) (fun r s' ⟨k, e⟩ => ⟨keeps_trans k₁ k, by simpa using e⟩) fun _ _ f => f
end
end Mine

namespace Mine
open PySem PySem.W PyProof.Rows PySem.Calls

def pySl {α : Type} (lo hi : Option Int) (l : List α) : List α :=
  (l.drop (lo.elim 0 (clipAt l.length))).take (hi.elim l.length (clipAt l.length) - lo.elim 0 (clipAt l.length))

theorem pySl_whole {α : Type} {lo hi : Option Int} {l : List α} (h : (pySl lo hi l).length = l.length) : pySl lo hi l = l := by
  have s : (pySl lo hi l).Sublist l := (List.take_sublist _ _).trans (List.drop_sublist _ _)
  exact s.eq_of_length h
theorem clip_pos (n : Nat) {i : Int} (h : 0 ≤ i) : clipAt n i = min i.toNat n := by
  have := clipAt_cast n i
  rw [if_neg (by first | decide | assumption | with_reducible exact Int.natCast_nonneg _ | with_reducible exact Nat.le_trans (by assumption) (by decide) | with_reducible exact Nat.lt_of_lt_of_le (by assumption) (by decide) | with_reducible exact lt_mil (Nat.lt_of_lt_of_le (by assumption) (by decide)) | with_reducible exact lt_mil (Nat.lt_of_le_of_lt (by assumption) (by decide)) | with_reducible exact Nat.le_trans (Nat.le_of_lt (by assumption)) (by decide) | (first | lia | omega))] at this
  (first | lia | omega)
theorem clip_neg (n : Nat) {i : Int} (h : i < 0) : clipAt n i = n - (-i).toNat := by
  have := clipAt_cast n i
  rw [if_pos (by first | decide | assumption | with_reducible exact Int.natCast_nonneg _ | with_reducible exact Nat.le_trans (by assumption) (by decide) | with_reducible exact Nat.lt_of_lt_of_le (by assumption) (by decide) | with_reducible exact lt_mil (Nat.lt_of_lt_of_le (by assumption) (by decide)) | with_reducible exact lt_mil (Nat.lt_of_le_of_lt (by assumption) (by decide)) | with_reducible exact Nat.le_trans (Nat.le_of_lt (by assumption)) (by decide) | (first | lia | omega))] at this
  (first | lia | omega)
theorem pySl_from {α : Type} (l : List α) {i : Int} (h : 0 ≤ i) : pySl (some i) none l = l.drop i.toNat := by
  unfold pySl
  simp only [Option.elim, clip_pos _ h]
  rcases Nat.le_total i.toNat l.length with q | q
  · rw [Nat.min_eq_left q, List.take_of_length_le (by simp)]
  · rw [Nat.min_eq_right q, List.drop_of_length_le (Nat.le_refl _), List.drop_of_length_le q]; simp
theorem pySl_upto {α : Type} (l : List α) {i : Int} (h : 0 ≤ i) : pySl none (some i) l = l.take i.toNat := by
  unfold pySl
  simp only [Option.elim, clip_pos _ h, List.drop_zero, Nat.sub_zero]
  rcases Nat.le_total i.toNat l.length with q | q
  · rw [Nat.min_eq_left q]
  · rw [Nat.min_eq_right q, List.take_of_length_le (Nat.le_refl _), List.take_of_length_le q]
theorem pySl_last {α : Type} (l : List α) : pySl (some (-1)) none l = l.drop (l.length - 1) := by
  unfold pySl
  simp only [Option.elim, clip_neg _ (show (-1 : Int) < 0 by decide)]
  rw [List.take_of_length_le (by simp)]; rfl
theorem pySl_butLast {α : Type} (l : List α) : pySl none (some (-1)) l = l.take (l.length - 1) := by
  unfold pySl
  simp only [Option.elim, clip_neg _ (show (-1 : Int) < 0 by decide), List.drop_zero, Nat.sub_zero]; rfl
theorem pySl_run {α : Type} (l : List α) {i j : Int} (h : 0 ≤ i) (hj : 0 ≤ j) : pySl (some i) (some j) l = (l.drop i.toNat).take (j.toNat - i.toNat) := by
  unfold pySl
  simp only [Option.elim, clip_pos _ h, clip_pos _ hj]
  rcases Nat.le_total i.toNat l.length with q | q
  · rw [Nat.min_eq_left q]
    rcases Nat.le_total j.toNat l.length with r | r
    · rw [Nat.min_eq_left r]
    · rw [Nat.min_eq_right r, List.take_of_length_le (by simp), List.take_of_length_le (by simp; (first | lia | omega))]
  · rw [Nat.min_eq_right q, List.drop_of_length_le (Nat.le_refl _), List.drop_of_length_le q]; simp

section
variable {F : Fm} {Γ : List (Str × Bd)}

/-- an item by a place -/
def GetR (F : Fm) (a i c : Bd) : Prop := F.toCx.Ok → ∀ W s v u, F.toCx.St W s → BRep W s.heap v a → BRep W s.heap u i →
  ∃ T id, typeLookup (.type T) "__getitem__" = pure (some (.builtin id)) ∧ s.TypeIs v T ∧
    wpAny (model F.prog F.w) F.A (getItem v u) (fun r s' => Keeps s s' ∧ BRep W s'.heap r c) (fun _ _ => False) s
theorem ev_item {value slice : Expr} {pos : Pos} {a i c : Bd} (x : EvB F Γ value a) (y : EvB F Γ slice i) (h : GetR F a i c)
    (hs : ∀ o u, subscripted slice false o u = operate [o, u] (getItem o u) := by intros; rfl) : EvB F Γ (.Subscript value slice pos) c := .mk fun _ _ ok s p =>
  Subscript_ (x.use ok p fun v s₁ k₁ p₁ r₁ => y.use ok p₁ fun u s₂ k₂ p₂ r₂ => by
    obtain ⟨T, id, hl, hT, hw⟩ := h ok.cx _ s₂ v u p₂.st (r₁.keeps (keeps_heap k₂)) r₂
    exact wpAny_mono (tail_any hT hl hw (hs v u)) (fun _ _ ⟨k, q⟩ => ⟨keeps_trans (keeps_trans k₁ k₂) k, q⟩) fun _ _ f => f)

theorem getR_list {ds : List PyData} {i : Int} {d : PyData} (h0 : 0 ≤ i) (hd : ds[i.toNat]? = some d) (hz : i < 1000000) : GetR F (.lst ds) (.dat (.int i)) (.dat d) := fun _ _ s _ _ _ x y => by
  obtain ⟨l, vs, rfl, hl, r⟩ := x
  (first | obtain rfl := BAll.inv0 y | obtain ⟨_, rfl⟩ := Rep.inv_int y | obtain ⟨_, rfl⟩ := Rep.inv_str y | obtain rfl := Rep.inv_none y | cases y)
  obtain ⟨v, hv, rv⟩ := r.get hd
  exact ⟨"list", _, slot_list_getitem.lookup, hl.typeIs, wpAny_getItem_list hl h0 (by first | decide | assumption | with_reducible exact Int.natCast_nonneg _ | with_reducible exact Nat.le_trans (by assumption) (by decide) | with_reducible exact Nat.lt_of_lt_of_le (by assumption) (by decide) | with_reducible exact lt_mil (Nat.lt_of_lt_of_le (by assumption) (by decide)) | with_reducible exact lt_mil (Nat.lt_of_le_of_lt (by assumption) (by decide)) | with_reducible exact Nat.le_trans (Nat.le_of_lt (by assumption)) (by decide) | (first | lia | omega)) (by simpa using hv) ⟨keeps_refl s, rv⟩⟩
theorem getR_str {l : List Nat} {i : Int} {c : Nat} (h0 : 0 ≤ i) (hd : l[i.toNat]? = some c) (hz : i < 1000000) : GetR F (.dat (.str (st l))) (.dat (.int i)) (.dat (.str (st [c]))) := fun _ _ s _ _ _ x y => by
  (first | obtain rfl := BAll.inv0 x | obtain ⟨_, rfl⟩ := Rep.inv_int x | obtain ⟨_, rfl⟩ := Rep.inv_str x | obtain rfl := Rep.inv_none x | cases x); (first | obtain rfl := BAll.inv0 y | obtain ⟨_, rfl⟩ := Rep.inv_int y | obtain ⟨_, rfl⟩ := Rep.inv_str y | obtain rfl := Rep.inv_none y | cases y)
  have hlt : i.toNat < l.length := (List.getElem?_eq_some_iff.mp hd).1
  have hc : Txt.charAt (st l) i = some c := by
    unfold Txt.charAt
    have : seqIndex? i (st l).length = some i.toNat := by
      have hn : ¬ i < 0 := by (first | lia | omega)
      have h2 : (decide (0 ≤ i) && decide (i < (l.length : Int))) = true := by simp; (first | lia | omega)
      rw [st_len]; unfold seqIndex?
      simp only [if_neg hn, h2, if_true]
    rw [this]; simp [st_cps, hd]
  have e : Txt.item (st l) i = st [c] := by unfold Txt.item; rw [hc]; rfl
  refine ⟨"str", _, PySem.F.slot_str_getitem.lookup, typeIs_str _ _ _, SB.getItem ?_ (by rw [hc]; rfl) ⟨keeps_tok s _, by rw [e]; exact .str _ _⟩⟩
  simp [fitsSsize]; (first | lia | omega)
theorem getR_list_last {ds : List PyData} {d : PyData} (hd : ds.getLast? = some d) (hz : ds.length ≤ 1000000) : GetR F (.lst ds) (.dat (.int (-1))) (.dat d) := fun _ _ s _ _ _ x y => by
  obtain ⟨l, vs, rfl, hl, r⟩ := x
  (first | obtain rfl := BAll.inv0 y | obtain ⟨_, rfl⟩ := Rep.inv_int y | obtain ⟨_, rfl⟩ := Rep.inv_str y | obtain rfl := Rep.inv_none y | cases y)
  have hn : ds ≠ [] := by intro e; subst e; simp at hd
  have hp : 0 < ds.length := List.length_pos_iff.mpr hn
  rw [List.getLast?_eq_getElem?] at hd
  obtain ⟨v, hv, rv⟩ := r.get hd
  have hlen := r.length
  refine ⟨"list", _, slot_list_getitem.lookup, hl.typeIs, wpAny_getItem_list_neg hl (by first | decide | assumption | with_reducible exact Int.natCast_nonneg _ | with_reducible exact Nat.le_trans (by assumption) (by decide) | with_reducible exact Nat.lt_of_lt_of_le (by assumption) (by decide) | with_reducible exact lt_mil (Nat.lt_of_lt_of_le (by assumption) (by decide)) | with_reducible exact lt_mil (Nat.lt_of_le_of_lt (by assumption) (by decide)) | with_reducible exact Nat.le_trans (Nat.le_of_lt (by assumption)) (by decide) | (first | lia | omega)) (by simp; (first | lia | omega)) (by decide) (x := v) ?_ ⟨keeps_refl s, rv⟩⟩
  rw [show (((-1 : Int) + (vs.toArray.size : Nat)).toNat) = ds.length - 1 by simp; (first | lia | omega)]
  simpa using hv

/-- a part of a slice -/
abbrev EvP (F : Fm) (Γ : List (Str × Bd)) (x : Option Expr) (k : Option Int) : Prop := Wrap (∀ W O, F.Ok W O → ∀ s, F.Pre W Γ s →
  wpAny (model F.prog F.w) F.A (evalPart x F.env) (fun v s' => Keeps s s' ∧ IsPart v k) (fun _ _ => False) s)
theorem evp_none : EvP F Γ none none := .mk fun _ _ _ s _ => by rw [evalPart_none]; exact wpAny_pure ⟨keeps_refl s, .none⟩
theorem evp_some {e : Expr} {i : Int} (x : EvE F Γ e (.int i)) : EvP F Γ (some e) (some i) := .mk fun _ _ ok s p => by
  rw [evalPart_some]
  exact x.use ok p fun v s' k _ r => ⟨k, by (first | obtain rfl := BAll.inv0 r | obtain ⟨_, rfl⟩ := Rep.inv_int r | obtain ⟨_, rfl⟩ := Rep.inv_str r | obtain rfl := Rep.inv_none r | cases r); exact .int _ _⟩
def SliceR (F : Fm) (a : Bd) (l u k : Option Int) (c : Bd) : Prop := F.toCx.Ok → ∀ W s v sl vl vu vk, F.toCx.St W s → BRep W s.heap v a → s.heap.IsSliceOf sl vl vu vk → IsPart vl l → IsPart vu u → IsPart vk k →
  ∃ T id, typeLookup (.type T) "__getitem__" = pure (some (.builtin id)) ∧ s.TypeIs v T ∧
    wpAny (model F.prog F.w) F.A (getItem v (.ref sl)) (fun r s' => Keeps s s' ∧ BRep W s'.heap r c) (fun _ _ => False) s
theorem ev_slice {value : Expr} {lo hi stp : Option Expr} {p' pos : Pos} {a c : Bd} {l u k : Option Int} (x : EvB F Γ value a) (y1 : EvP F Γ lo l) (y2 : EvP F Γ hi u) (y3 : EvP F Γ stp k) (h : SliceR F a l u k c)
    (hs : ∃ f : Value → Value → List Value, ∀ o i, subscripted (.Slice lo hi stp p') false o i = operate (f o i) (getItem o i) := by first | exact ⟨fun o i => [i, o], fun _ _ => rfl⟩ | exact ⟨fun o i => [o, i], fun _ _ => rfl⟩) :
    EvB F Γ (.Subscript value (.Slice lo hi stp p') pos) c := .mk fun _ _ ok s p => by
  obtain ⟨f, hf⟩ := hs
  refine Subscript_ (x.use ok p fun v s₁ k₁ p₁ r₁ => wpAny_Slice (wpAny_mono (y1.run _ _ ok s₁ p₁) (fun vl s₂ ⟨k₂, q₂⟩ => wpAny_mono (y2.run _ _ ok s₂ (p₁.keeps k₂)) (fun vu s₃ ⟨k₃, q₃⟩ => wpAny_mono (y3.run _ _ ok s₃ ((p₁.keeps k₂).keeps k₃)) (fun vk s₄ ⟨k₄, q₄⟩ => ?_)
    fun _ _ f => f.elim) fun _ _ f => f.elim) fun _ _ f => f.elim))
  have kk := keeps_trans (keeps_trans (keeps_trans (keeps_trans k₁ k₂) k₃) k₄) (keeps_push s₄ { cls := .type "slice", data := .fields #[vl, vu, vk] })
  have k5 := keeps_trans (keeps_trans (keeps_trans k₂ k₃) k₄) (keeps_push s₄ { cls := .type "slice", data := .fields #[vl, vu, vk] })
  obtain ⟨T, id, hl, hT, hw⟩ := h ok.cx _ { s₄ with heap := s₄.heap.push { cls := .type "slice", data := .fields #[vl, vu, vk] } } v s₄.heap.objs.size vl vu vk ((p.keeps kk).st) (r₁.keeps (keeps_heap k5)) (Heap.IsSliceOf.new _ _ _ _) q₂ q₃ q₄
  exact wpAny_mono (tail_any hT hl hw (hf _ _)) (fun _ _ ⟨k, q⟩ => ⟨keeps_trans kk k, q⟩) fun _ _ f => f

theorem repAll_pySl {W : Addr → Prop} {h : Heap} {vs : List Value} {ds : List PyData} (r : RepAll W h vs ds) (lo hi : Option Int) : RepAll W h (pySl lo hi vs) (pySl lo hi ds) := by
  unfold pySl; rw [r.length]; exact (r.drop _).take _
theorem sliceR_list {ds : List PyData} {lo hi : Option Int} (hz : ds.length ≤ 1000000) : SliceR F (.lst ds) lo hi none (.dat (.list (pySl lo hi ds))) := fun _ _ s _ sl vl vu vk S x hs pl pu pk => by
  obtain ⟨l, vs, rfl, hl, r⟩ := x
  have hlen := r.length
  refine ⟨"list", _, slot_list_getitem.lookup, hl.typeIs, wpAny_getItem_list_slice hl hs pl pu pk (by simp) ?_ (by simp; rw [sizeLine_eq]; (first | lia | omega))⟩
  refine ⟨keeps_push s _, ?_⟩
  have e : slicePick vs.toArray lo hi none = (pySl lo hi vs).toArray := by rw [slicePick_plain]; simp [pySl]
  rw [e]
  exact rep_pushed S (repAll_pySl r lo hi) 0
theorem part_value {v : Value} {k : Option Int} (h : IsPart v k) : ∃ q : Option (Int × Tok), v = partValue q ∧ q.map (·.1) = k := by
  cases h with
  | none => exact ⟨none, rfl, rfl⟩
  | int i t => exact ⟨some (i, t), rfl, rfl⟩
theorem strIdx_eq (lo hi : Option Int) (n : Nat) : Builtin.Str.strSliceIndices lo hi 1 n = sliceRange (sliceBounds lo hi none n).1 (sliceBounds lo hi none n).2.1 1 := by
  cases lo <;> cases hi <;> rfl
theorem strPick_eq (l : List Nat) (lo hi : Option Int) : (Builtin.Str.strSliceIndices lo hi 1 (st l).length).filterMap ((st l).cps[·]?) = pySl lo hi l := by
  rw [strIdx_eq, st_len, sliceBounds_plain, st_cps]
  simp only [sliceRange_one, pick_run]
  simp [pySl]
theorem strIdx_len (l : List Nat) (lo hi : Option Int) : (Builtin.Str.strSliceIndices lo hi 1 (st l).length).length = (pySl lo hi l).length := by
  have h := strIdx_eq lo hi (st l).length
  rw [h, st_len, sliceBounds_plain]
  simp only [sliceRange_one]
  simp only [pySl, List.length_map, List.length_range, List.length_take, List.length_drop]
  have a : hi.elim l.length (clipAt l.length) ≤ l.length := by
    cases hi with
    | none => simp
    | some i => simp only [Option.elim]; unfold clipAt; omega
  omega
theorem sliceR_str {l : List Nat} {lo hi : Option Int} (hz : l.length ≤ 1000000) : SliceR F (.dat (.str (st l))) lo hi none (.dat (.str (st (pySl lo hi l)))) := fun _ _ s _ sl vl vu vk S x hs pl pu pk => by
  (first | obtain rfl := BAll.inv0 x | obtain ⟨_, rfl⟩ := Rep.inv_int x | obtain ⟨_, rfl⟩ := Rep.inv_str x | obtain rfl := Rep.inv_none x | cases x)
  cases pk
  obtain ⟨a, rfl, rfl⟩ := part_value pl
  obtain ⟨b, rfl, rfl⟩ := part_value pu
  refine ⟨"str", _, PySem.F.slot_str_getitem.lookup, typeIs_str _ _ _, wpAny_getItem_str_slice (st := none) hs rfl ?_⟩
  unfold sliceMade slicePicked
  simp only [Option.map_none, Option.getD_none]
  rw [strPick_eq, strIdx_len, st_len]
  by_cases hc : ((1 : Int) == 1 && (pySl (a.map (·.1)) (b.map (·.1)) l).length == l.length) = true
  · rw [if_pos hc]
    have e : (pySl (a.map (·.1)) (b.map (·.1)) l).length = l.length := by simpa using hc
    rw [pySl_whole e]
    exact ⟨keeps_refl s, .str _ _⟩
  · rw [if_neg hc]
    refine ⟨?_, keeps_tok s _, .str _ _⟩
    show (st _).length ≤ _
    rw [st_len]
    have s : (pySl (a.map (·.1)) (b.map (·.1)) l).length ≤ l.length := ((List.take_sublist _ _).trans (List.drop_sublist _ _)).length_le
    rw [sizeLine_eq]; omega
theorem sliceR_str_rev {l : List Nat} (hz : l.length ≤ 1000000) : SliceR F (.dat (.str (st l))) none none (some (-1)) (.dat (.str (st l.reverse))) := fun _ _ s _ sl vl vu vk S x hs pl pu pk => by
  (first | obtain rfl := BAll.inv0 x | obtain ⟨_, rfl⟩ := Rep.inv_int x | obtain ⟨_, rfl⟩ := Rep.inv_str x | obtain rfl := Rep.inv_none x | cases x)
  obtain ⟨a, rfl, ha⟩ := part_value pl
  obtain ⟨b, rfl, hb⟩ := part_value pu
  obtain ⟨c, rfl, hc⟩ := part_value pk
  refine ⟨"str", _, PySem.F.slot_str_getitem.lookup, typeIs_str _ _ _, wpAny_getItem_str_slice hs (by rw [hc]; rfl) ?_⟩
  unfold sliceMade slicePicked
  rw [ha, hb, hc]
  rw [if_neg (by simp)]
  have e : (Builtin.Str.strSliceIndices none none (-1) (st l).length).filterMap ((st l).cps[·]?) = l.reverse := by
    show (sliceRange (((st l).length : Int) - 1) (-1) (-1)).filterMap _ = _
    rw [krv_sliceRange, krv_range, List.filterMap_reverse]
    have := krv_all (st l).cps
    rw [show (st l).length = (st l).cps.size from rfl, this]; simp [st_cps]
  simp only [Option.getD_some]
  rw [e]
  refine ⟨?_, keeps_tok s _, .str _ _⟩
  show (st _).length ≤ _
  rw [st_len, sizeLine_eq]; simp; (first | lia | omega)
end
end Mine

namespace Mine
open PySem PySem.W PyProof.Rows PySem.Calls

section
variable {F : Fm} {Γ : List (Str × Bd)}

/-! ### Displays, arguments -/
abbrev EvD (F : Fm) (Γ : List (Str × Bd)) (pos : Pos) (es : List Expr) (ds : List PyData) : Prop := Wrap (∀ W O, F.Ok W O → ∀ s, F.Pre W Γ s →
  wpAny (model F.prog F.w) F.A (spliced (backTo pos (starEach es F.env))) (fun vs s' => Keeps s s' ∧ RepAll W s'.heap vs ds) (fun _ _ => False) s)
theorem evd_nil {pos : Pos} : EvD F Γ pos [] [] := .mk fun _ _ _ s _ => Calls.spliced_nil ⟨keeps_refl s, .nil⟩
theorem evd_cons {pos : Pos} {e : Expr} {es : List Expr} {d : PyData} {ds : List PyData} (x : EvE F Γ e d) (y : EvD F Γ pos es ds) (hs : ∀ env, starEach (e :: es) env = (false, eval e env) :: starEach es env := by intro _; rfl) :
    EvD F Γ pos (e :: es) (d :: ds) := .mk fun _ _ ok s p => by
  rw [hs]
  show wpAny _ _ (spliced ((false, eval e F.env) :: backTo pos (starEach es F.env))) _ _ s
  exact Calls.spliced_cons (x.use ok p fun v s₁ k₁ p₁ r₁ => wpAny_mono (y.run _ _ ok s₁ p₁) (fun vs s₂ ⟨k₂, r₂⟩ => ⟨keeps_trans k₁ k₂, .cons (Rep.keeps r₁ (keeps_heap k₂)) r₂⟩) fun _ _ f => f)
abbrev EvL (F : Fm) (Γ : List (Str × Bd)) (pos : Pos) (es : List Expr) (bs : List Bd) : Prop := Wrap (∀ W O, F.Ok W O → ∀ s, F.Pre W Γ s →
  wpAny (model F.prog F.w) F.A (spliced (backTo pos (starEach es F.env))) (fun vs s' => Keeps s s' ∧ BAll W s'.heap vs bs) (fun _ _ => False) s)
theorem evl_nil {pos : Pos} : EvL F Γ pos [] [] := .mk fun _ _ _ s _ => Calls.spliced_nil ⟨keeps_refl s, .nil⟩
theorem evl_cons {pos : Pos} {e : Expr} {es : List Expr} {d : Bd} {ds : List Bd} (x : EvB F Γ e d) (y : EvL F Γ pos es ds) (hs : ∀ env, starEach (e :: es) env = (false, eval e env) :: starEach es env := by intro _; rfl) :
    EvL F Γ pos (e :: es) (d :: ds) := .mk fun _ _ ok s p => by
  rw [hs]
  show wpAny _ _ (spliced ((false, eval e F.env) :: backTo pos (starEach es F.env))) _ _ s
  exact Calls.spliced_cons (x.use ok p fun v s₁ k₁ p₁ r₁ => wpAny_mono (y.run _ _ ok s₁ p₁) (fun vs s₂ ⟨k₂, r₂⟩ => ⟨keeps_trans k₁ k₂, .cons (BRep.keeps r₁ (keeps_heap k₂)) r₂⟩) fun _ _ f => f)

/-- keyword arguments -/
def EvKw (F : Fm) (Γ : List (Str × Bd)) (pos : Pos) (ks : List Keyword) (ns : List Str) (bs : List Bd) : Prop :=
  (backToKw pos (keywordEach ks F.env)).all (·.1.isSome) = true ∧ (backToKw pos (keywordEach ks F.env)).filterMap (·.1) = ns ∧ ∀ W O, F.Ok W O → ∀ s, F.Pre W Γ s →
  wpAny (model F.prog F.w) F.A (evalAll ((backToKw pos (keywordEach ks F.env)).map (·.2))) (fun vs s' => Keeps s s' ∧ BAll W s'.heap vs bs) (fun _ _ => False) s
theorem evkw_nil {pos : Pos} : EvKw F Γ pos [] [] [] := ⟨rfl, rfl, fun _ _ _ s _ => wpAny_evalAll_nil ⟨keeps_refl s, .nil⟩⟩
theorem evkw_cons {pos : Pos} {n : Str} {e : Expr} {kp : Pos} {ks : List Keyword} {b : Bd} {ns : List Str} {bs : List Bd} (x : EvB F Γ e b) (y : EvKw F Γ pos ks ns bs) : EvKw F Γ pos (⟨some n, e, kp⟩ :: ks) (n :: ns) (b :: bs) := by
  obtain ⟨h1, h2, h3⟩ := y
  refine ⟨?_, ?_, fun _ _ ok s p => ?_⟩
  · show ((some n).isSome && (backToKw pos (keywordEach ks F.env)).all (·.1.isSome)) = true
    rw [h1]; rfl
  · show List.filterMap (fun x => x.1) ((some n, _) :: backToKw pos (keywordEach ks F.env)) = n :: ns
    rw [List.filterMap_cons]; simp [h2]
  · show wpAny _ _ (evalAll ((do let v ← eval e F.env; standAt pos; pure v) :: (backToKw pos (keywordEach ks F.env)).map (·.2))) _ _ s
    refine wpAny_evalAll_cons (wpAny_bind (x.use ok p fun v s₁ k₁ p₁ r₁ => wpAny_bind (wpAny_standAt (wpAny_pure ?_))))
    exact wpAny_mono (h3 _ _ ok s₁ p₁) (fun vs s₂ ⟨k₂, r₂⟩ => ⟨keeps_trans k₁ k₂, .cons (BRep.keeps r₁ (keeps_heap k₂)) r₂⟩) fun _ _ f => f

theorem ev_list {es : List Expr} {pos : Pos} {ds : List PyData} (x : EvD F Γ pos es ds) (hz : ds.length ≤ 1000000 := by simp) : EvE F Γ (.List es pos) (.list ds) := .mk fun _ _ ok s p =>
  List_ (wpAny_mono (x.run _ _ ok s p) (fun vs s' ⟨k, r⟩ => wpAny_newObj_type ⟨keeps_trans k (keeps_push s' _), rep_pushed (p.keeps k).st r 0⟩ (by show vs.toArray.size ≤ sizeLine; have := r.length; rw [sizeLine_eq]; simp; (first | lia | omega))) fun _ _ f => f.elim)
theorem ev_tuple {es : List Expr} {n : Nat} {pos : Pos} {ds : List PyData} (x : EvD F Γ pos es ds) (hz : ds.length ≤ 1000000 := by simp) : EvE F Γ (.Tuple es n pos) (.tuple ds) := .mk fun _ _ ok s p =>
  Tuple_ (wpAny_mono (x.run _ _ ok s p) (fun vs s' ⟨k, r⟩ => wpAny_newObj_type ⟨keeps_trans k (keeps_push s' _), rep_pushedT (p.keeps k).st r 0⟩ (by show vs.toArray.size ≤ sizeLine; have := r.length; rw [sizeLine_eq]; simp; (first | lia | omega))) fun _ _ f => f.elim)

/-! ### Calls -/
/-- what a callable gives for arguments of known kind -/
abbrev CallOk (C : Cx) (f : Value) (args : List Bd) (kn : List Str) (kb : List Bd) (c : Bd) : Prop := Wrap (C.Ok → ∀ W s vs ks, C.St W s → BAll W s.heap vs args → BAll W s.heap ks kb →
  wpAny (model C.prog C.w) C.A (call f vs (kn.zip ks)) (fun r s' => Keeps s s' ∧ BRep W s'.heap r c) (fun _ _ => False) s)

theorem evalArgs_any {M : Model} {A : Around} {E : Value → Shared → Prop} {s : Shared} {f : Value} {args : List (Bool × Sem Value)} {keywords : List (Option Str × Sem Value)} {Q : Args → Shared → Prop}
    (hp : args.any (·.1) = false) (hall : keywords.all (·.1.isSome) = true)
    (h : wpAny M A (spliced args) (fun vs s₁ => wpAny M A (evalAll (keywords.map (·.2))) (fun ks s₂ => Q ⟨vs, (keywords.filterMap (·.1)).zip ks⟩ s₂) E s₁) E s) :
    wpAny M A (evalArgs f true args keywords) Q E s := by
  match args, hp with
  | [], _ => exact evalArgs_kw_nil hall fun Γ p hΓ => (h Γ p hΓ) Γ p hΓ
  | (false, x) :: rest, _ => exact evalArgs_kw hall h
  | (true, x) :: rest, hp => simp at hp

theorem backTo_plain (pos : Pos) (l : List (Bool × Sem Value)) : (backTo pos l).any (·.1) = l.any (·.1) := by
  simp [backTo, List.any_map, Function.comp_def]
def NoStar (es : List Expr) : Prop := ∀ env, (starEach es env).any (·.1) = false

/-- a call of a name bound to a def of the text (or a made function) -/
theorem ev_call_fn {fe : Expr} {es : List Expr} {ks : List Keyword} {pos : Pos} {a : Addr} {o : Obj} {fd : FuncData} {args : List Bd} {kn : List Str} {kb : List Bd} {c : Bd}
    (hf : EvB F Γ fe (.val (.ref a))) (x : EvL F Γ pos es args) (y : EvKw F Γ pos ks kn kb) (ho : ∀ W s, F.Pre W Γ s → s.heap.get? a = some o ∧ o.data = .func fd) (h : CallOk F.toCx (.ref a) args kn kb c)
    (hn : ∀ env, (starEach es env).any (·.1) = false := by intro _; rfl)
    (harm : ∀ env, eval (.Call fe es ks pos) env = (do callWith pos (← eval fe env) [] (backTo pos (starEach es env)) (backToKw pos (keywordEach ks env))) := by intro _; rfl) :
    EvB F Γ (.Call fe es ks pos) c := .mk fun _ _ ok s p => by
  rw [harm]
  refine wpAny_bind (hf.use ok p fun f s₁ k₁ p₁ r₁ => ?_)
  have r₁ : f = .ref a := r₁
  subst r₁
  refine callWith_function_kw (o := o) (fd := fd) (evalArgs_any (by rw [backTo_plain]; exact hn _) y.1 (wpAny_mono (x.run _ _ ok s₁ p₁) (fun vs s₂ hh₀ => ?_) fun _ _ f => f.elim))
  obtain ⟨k₂, r₂⟩ := hh₀
  refine wpAny_mono (y.2.2 _ _ ok s₂ (p₁.keeps k₂)) (fun ks s₃ ⟨k₃, r₃⟩ => ⟨ho _ _ ((p₁.keeps k₂).keeps k₃), ?_⟩) fun _ _ f => f.elim
  rw [y.2.1]
  exact wpAny_mono (h.run ok.cx _ s₃ vs ks ((p₁.keeps k₂).keeps k₃).st (r₂.keeps (keeps_heap k₃)) r₃) (fun r s₄ ⟨k₄, r₄⟩ => ⟨keeps_trans (keeps_trans (keeps_trans k₁ k₂) k₃) k₄, r₄⟩) fun _ _ f => f
/-- a call of a built-in function by its name -/
theorem ev_call_bi {fe : Expr} {es : List Expr} {pos : Pos} {id : String} {args : List Bd} {c : Bd}
    (hf : EvB F Γ fe (.val (.builtin id))) (x : EvL F Γ pos es args) (h : CallOk F.toCx (.builtin id) args [] [] c)
    (hn : ∀ env, (starEach es env).any (·.1) = false := by intro _; rfl)
    (harm : ∀ env, eval (.Call fe es [] pos) env = (do callWith pos (← eval fe env) [] (backTo pos (starEach es env)) (backToKw pos (keywordEach [] env))) := by intro _; rfl) :
    EvB F Γ (.Call fe es [] pos) c := .mk fun _ _ ok s p => by
  rw [harm]
  refine wpAny_bind (hf.use ok p fun f s₁ k₁ p₁ r₁ => ?_)
  have r₁ : f = .builtin id := r₁
  subst r₁
  refine Calls.callWith_builtin (by rw [backTo_plain]; exact hn _) (evalArgs_any (by rw [backTo_plain]; exact hn _) rfl (wpAny_mono (x.run _ _ ok s₁ p₁) (fun vs s₂ hh₀ => ?_) fun _ _ f => f.elim))
  obtain ⟨k₂, r₂⟩ := hh₀
  refine wpAny_evalAll_nil ?_
  exact wpAny_mono (h.run ok.cx _ s₂ vs [] (p₁.keeps k₂).st r₂ .nil) (fun r s₄ ⟨k₄, r₄⟩ => ⟨keeps_trans (keeps_trans k₁ k₂) k₄, r₄⟩) fun _ _ f => f
/-- a call of a built-in type by its name -/
theorem ev_call_ty {fe : Expr} {es : List Expr} {pos : Pos} {T : String} {args : List Bd} {c : Bd}
    (hf : EvB F Γ fe (.val (.type T))) (x : EvL F Γ pos es args) (h : CallOk F.toCx (.type T) args [] [] c)
    (hn : ∀ env, (starEach es env).any (·.1) = false := by intro _; rfl)
    (harm : ∀ env, eval (.Call fe es [] pos) env = (do callWith pos (← eval fe env) [] (backTo pos (starEach es env)) (backToKw pos (keywordEach [] env))) := by intro _; rfl) :
    EvB F Γ (.Call fe es [] pos) c := .mk fun _ _ ok s p => by
  rw [harm]
  refine wpAny_bind (hf.use ok p fun f s₁ k₁ p₁ r₁ => ?_)
  have r₁ : f = .type T := r₁
  subst r₁
  refine PySem.callWith_type (by rw [backTo_plain]; exact hn _) (evalArgs_any (by rw [backTo_plain]; exact hn _) rfl (wpAny_mono (x.run _ _ ok s₁ p₁) (fun vs s₂ hh₀ => ?_) fun _ _ f => f.elim))
  obtain ⟨k₂, r₂⟩ := hh₀
  refine wpAny_evalAll_nil ?_
  exact wpAny_mono (h.run ok.cx _ s₂ vs [] (p₁.keeps k₂).st r₂ .nil) (fun r s₄ ⟨k₄, r₄⟩ => ⟨keeps_trans (keeps_trans k₁ k₂) k₄, r₄⟩) fun _ _ f => f

theorem callOk_len_list {C : Cx} {ds : List PyData} (hz : ds.length ≤ 1000000) : CallOk C (.builtin "len") [.lst ds] [] [] (.dat (.int ds.length)) := .mk fun ok W s vs ks S x y => by
  (first | obtain rfl := BAll.inv0 y | obtain ⟨_, rfl⟩ := Rep.inv_int y | obtain ⟨_, rfl⟩ := Rep.inv_str y | obtain rfl := Rep.inv_none y | cases y)
  cases x with
  | cons h r =>
    (first | obtain rfl := BAll.inv0 r | obtain ⟨_, rfl⟩ := Rep.inv_int r | obtain ⟨_, rfl⟩ := Rep.inv_str r | obtain rfl := Rep.inv_none r | cases r)
    obtain ⟨l, ws, rfl, hl, r⟩ := h
    have e := r.length
    refine len_list hl (by simp; (first | lia | omega)) ⟨keeps_tok s _, ?_⟩
    simp only [List.size_toArray, e]
    exact .int _ _
theorem callOk_len_str {C : Cx} {l : List Nat} (hz : l.length ≤ 1000000) : CallOk C (.builtin "len") [.dat (.str (st l))] [] [] (.dat (.int l.length)) := .mk fun ok W s vs ks S x y => by
  (first | obtain rfl := BAll.inv0 y | obtain ⟨_, rfl⟩ := Rep.inv_int y | obtain ⟨_, rfl⟩ := Rep.inv_str y | obtain rfl := Rep.inv_none y | cases y)
  cases x with
  | cons h r =>
    (first | obtain rfl := BAll.inv0 r | obtain ⟨_, rfl⟩ := Rep.inv_int r | obtain ⟨_, rfl⟩ := Rep.inv_str r | obtain rfl := Rep.inv_none r | cases r)
    cases h
    refine len_str (by rw [st_len]; (first | lia | omega)) ⟨keeps_tok s _, ?_⟩
    rw [st_len]
    exact .int _ _
end
end Mine

namespace Mine
open PySem PySem.W PyProof.Rows PySem.Calls

def Same (s s' : Shared) : Prop := ∃ h tk, s' = { s with heap := h, toks := tk }
theorem same_refl (s : Shared) : Same s s := ⟨s.heap, s.toks, rfl⟩
theorem same_trans {a b c : Shared} (x : Same a b) (y : Same b c) : Same a c := by
  obtain ⟨h, t, rfl⟩ := x
  obtain ⟨h', t', rfl⟩ := y
  exact ⟨h', t', rfl⟩
theorem same_keeps {a b : Shared} (x : Keeps a b) : Same a b := let ⟨h, t, e, _⟩ := x; ⟨h, t, e⟩


abbrev Own := Option (Str × List PyData)
def wid (W : Addr → Prop) (l : Addr) : Own → Addr → Prop
  | none => W
  | some _ => fun a => W a ∨ a = l
def gam (Γ : List (Str × Bd)) : Own → List (Str × Bd)
  | none => Γ
  | some (x, ds) => (x, .lst ds) :: Γ

structure Gd (F : Fm) (O : Addr → Prop) (h0 : Gh) : Prop where
  g : ∀ b o, F.g b = some o → h0 b = some o
  O : ∀ a, O a → h0 a = none

structure OwnAt (F : Fm) (W : Addr → Prop) (h0 : Gh) (l : Addr) (x : Str) (ds : List PyData) (s : Shared) : Prop where
  nh : h0 l = none
  nW : ¬ W l
  var : VarAt F.env s.heap x (.ref l)
  lst : ∃ vs n, s.heap.get? l = some (listOf vs.toArray n) ∧ RepAll (fun a => W a ∨ a = l) s.heap vs ds

structure OpS (F : Fm) (W : Addr → Prop) (h0 : Gh) (Γ : List (Str × Bd)) (own : Own) (l : Addr) (s : Shared) : Prop where
  g : GIn h0 s.heap
  pre : F.Pre (wid W l own) Γ s
  own : ∀ x ds, own = some (x, ds) → OwnAt F W h0 l x ds s
def PreS (F : Fm) (W : Addr → Prop) (h0 : Gh) (Γ : List (Str × Bd)) (own : Own) (s : Shared) : Prop := ∃ l, OpS F W h0 Γ own l s

section
variable {F : Fm} {W O : Addr → Prop} {h0 : Gh} {Γ Γ' : List (Str × Bd)} {own own' : Own} {l : Addr} {s s' : Shared}

theorem wid_le : ∀ a, W a → wid W l own a := fun a w => by cases own with | none => exact w | some p => exact .inl w
theorem OpS.keeps (p : OpS F W h0 Γ own l s) (k : Keeps s s') : OpS F W h0 Γ own l s' :=
  ⟨p.g.keeps (keeps_heap k), p.pre.keeps k, fun x ds e => by
    obtain ⟨a, b, c, vs, n, d, f⟩ := p.own x ds e
    exact ⟨a, b, c.keeps (keeps_heap k), vs, n, keeps_heap k _ _ d, f.keeps (keeps_heap k)⟩⟩
theorem OpS.gam (p : OpS F W h0 Γ own l s) : F.Pre (wid W l own) (gam Γ own) s := by
  cases own with
  | none => exact p.pre
  | some q =>
    obtain ⟨x, ds⟩ := q
    refine ⟨p.pre.st, fun r hr => ?_, p.pre.ns, p.pre.cells⟩
    rcases List.mem_cons.mp hr with rfl | hr
    · obtain ⟨a, b, c, vs, n, d, f⟩ := p.own x ds rfl
      exact ⟨.ref l, c, l, vs, rfl, ⟨_, d, rfl, n, rfl⟩, f⟩
    · exact p.pre.vars r hr
theorem OpS.ok (p : OpS F W h0 Γ own l s) (ok : F.Ok W O) (gd : Gd F O h0) : F.Ok (wid W l own) (wid O l own) := by
  cases own with
  | none => exact ok
  | some q =>
    obtain ⟨x, ds⟩ := q
    obtain ⟨hl0, hlW, _⟩ := p.own x ds rfl
    refine ⟨ok.cx, ok.kind, ok.eg, ok.eb, .inl ok.loc, fun a h => h.imp (ok.OW a) id, fun b' h => ?_, ok.cne, ok.cinj, fun x c e => .inl (ok.cW x c e), fun st x c k e => .inl (ok.cO st x c k e)⟩
    rcases h with h | rfl
    · exact ok.Og _ h
    · cases e : F.g b' with
      | none => rfl
      | some o => rw [gd.g _ o e] at hl0; cases hl0

/-- an expression within a statement -/
theorem OpS.ev (p : OpS F W h0 Γ own l s) (ok : F.Ok W O) (gd : Gd F O h0) {e : Expr} {b : Bd} (x : EvB F (Mine.gam Γ own) e b) {Q : Value → Shared → Prop} {E : Value → Shared → Prop}
    (h : ∀ v s', Keeps s s' → OpS F W h0 Γ own l s' → BRep (wid W l own) s'.heap v b → Q v s') : wpAny (model F.prog F.w) F.A (eval e F.env) Q E s :=
  x.use (p.ok ok gd) p.gam fun v s' k _ r => h v s' k (p.keeps k) r
theorem OpS.test (p : OpS F W h0 Γ own l s) (ok : F.Ok W O) (gd : Gd F O h0) {e : Expr} {b : Bool} (x : EvT F (Mine.gam Γ own) e b) {Q : Bool → Shared → Prop} {E : Value → Shared → Prop}
    (h : ∀ s', Keeps s s' → OpS F W h0 Γ own l s' → Q b s') : wpAny (model F.prog F.w) F.A (isTrue e F.env (eval e F.env)) Q E s :=
  x.use (p.ok ok gd) p.gam fun s' k _ => h s' k (p.keeps k)

theorem rep_upd {W : Addr → Prop} {h h' : Heap} {a : Addr} {v : Value} {d : PyData} (x : Rep W h v d) (ha : W a) (hs : Heap.SameBut a h h') : Rep W h' v d :=
  x.gen (fun _ w => .inl w) fun b o hb e => (hs.2 b fun q => hb (q ▸ ha)).trans e
theorem repAll_upd {W : Addr → Prop} {h h' : Heap} {a : Addr} {v : List Value} {d : List PyData} (x : RepAll W h v d) (ha : W a) (hs : Heap.SameBut a h h') : RepAll W h' v d :=
  x.gen (fun _ w => .inl w) fun b o hb e => (hs.2 b fun q => hb (q ▸ ha)).trans e
theorem bRep_upd {W : Addr → Prop} {h h' : Heap} {a : Addr} {v : Value} {b : Bd} (x : BRep W h v b) (ha : W a) (hs : Heap.SameBut a h h') (hnl : ∀ o xs n, h.get? a = some o → o.data = .seq xs n → False) : BRep W h' v b := by
  cases b with
  | dat d => exact rep_upd x ha hs
  | lst ds =>
    obtain ⟨l, vs, e, ⟨o, ho, hc, n, hd⟩, r⟩ := x
    refine ⟨l, vs, e, ⟨o, (hs.2 l fun q => ?_).trans ho, hc, n, hd⟩, repAll_upd r ha hs⟩
    subst q
    exact hnl o _ n ho hd
  | val u => exact x

/-- a change of one of the frame's own objects -/
theorem OpS.upd (p : OpS F W h0 Γ own l s) (ok : F.Ok W O) (gd : Gd F O h0) {a : Addr} {h' : Heap} {tk : Nat} {x : Str} {v : Value} {b : Bd} (ha : O a) (hs : Heap.SameBut a s.heap h') (hex : ∃ o, h'.get? a = some o)
    (hnl : ∀ o xs n, s.heap.get? a = some o → o.data = .seq xs n → False) (hns : ∃ m, h'.Ns F.env.locals m) (hcells : ∀ y c, F.env.cells.lookup y = some c → ∃ v, h'.IsCell c v)
    (hv : ∀ y v, y ≠ x → VarAt F.env s.heap y v → VarAt F.env h' y v) (hxv : VarAt F.env h' x v) (r : BRep (wid W l own) s.heap v b)
    (hx : ∀ y ds, own = some (y, ds) → y ≠ x) (hΓ : ∀ q ∈ Γ', q = (x, b) ∨ (q ∈ Γ ∧ q.1 ≠ x)) : OpS F W h0 Γ' own l { s with heap := h', toks := tk } := by
  have hW : wid W l own a := wid_le a (ok.OW a ha)
  refine ⟨fun c o e => (hs.2 c ?_).trans (p.g c o e), ⟨⟨fun c o e => (hs.2 c ?_).trans (p.pre.st.g c o e), fun c w => ?_⟩, fun q hq => ?_, hns, hcells⟩, fun y ds e => ?_⟩
  · rintro rfl; rw [gd.O _ ha] at e; cases e
  · rintro rfl; rw [ok.Og _ ha] at e; cases e
  · by_cases hc : c = a
    · subst hc; exact hex
    · obtain ⟨o, ho⟩ := p.pre.st.W c w
      exact ⟨o, (hs.2 c hc).trans ho⟩
  · rcases hΓ q hq with rfl | ⟨hm, hn⟩
    · exact ⟨v, hxv, bRep_upd r hW hs hnl⟩
    · obtain ⟨u, a1, a2⟩ := p.pre.vars q hm
      exact ⟨u, hv _ _ hn a1, bRep_upd a2 hW hs hnl⟩
  · subst e
    obtain ⟨a1, a2, a3, vs, n, a4, a5⟩ := p.own y ds rfl
    have hla : l ≠ a := fun q => a2 (q ▸ ok.OW a ha)
    exact ⟨a1, a2, hv _ _ (hx y ds rfl) a3, vs, n, (hs.2 l hla).trans a4, repAll_upd a5 (.inl (ok.OW a ha)) hs⟩

theorem ns_isDict {h : Heap} {a : Addr} {m : Str → Option Value} (n : h.Ns a m) : ∀ o xs k, h.get? a = some o → o.data = .seq xs k → False := by
  obtain ⟨o, es, ep, ho, hd, _⟩ := n
  intro o' xs k ho' hd'
  rw [ho] at ho'; cases ho'; rw [hd] at hd'; cases hd'
theorem cell_noSeq {h : Heap} {a : Addr} {v : Option Value} (n : h.IsCell a v) : ∀ o xs k, h.get? a = some o → o.data = .seq xs k → False := by
  obtain ⟨o, ho, hd⟩ := n
  intro o' xs k ho' hd'
  rw [ho] at ho'; cases ho'; rw [hd] at hd'; cases hd'

/-- a name of the frame's own is stored -/
theorem OpS.store (p : OpS F W h0 Γ own l s) (ok : F.Ok W O) (gd : Gd F O h0) {x : Str} {v : Value} {b : Bd} (r : BRep (wid W l own) s.heap v b)
    (hk : F.env.kindOf x = some .local ∨ (F.sto = true ∧ F.env.kindOf x = some .cell ∧ (F.env.cells.lookup x).isSome = true)) (hx : ∀ y ds, own = some (y, ds) → y ≠ x) (hΓ : ∀ q ∈ Γ', q = (x, b) ∨ (q ∈ Γ ∧ q.1 ≠ x))
    {Q : Unit → Shared → Prop} {E : Value → Shared → Prop} (h : ∀ s', Same s s' → OpS F W h0 Γ' own l s' → Q () s') : wpAny (model F.prog F.w) F.A (storeName F.env x v) Q E s := by
  rcases hk with hk | ⟨hst, hk, hc⟩
  · obtain ⟨m, hn⟩ := p.pre.ns
    refine wpAny_storeName_local hk hn (fun h' hn' hs' => h _ ⟨h', _, rfl⟩ (p.upd ok gd ok.loc hs' ?_ (ns_isDict hn) ⟨_, hn'⟩ (fun y c e => ?_) (fun y u hy a => ?_) (.loc hk hn' (by simp)) r hx hΓ)) (by rw [ok.kind]; rfl)
    · obtain ⟨o, _, _, ho, _⟩ := hn'; exact ⟨o, ho⟩
    · obtain ⟨u, hu⟩ := p.pre.cells y c e
      exact ⟨u, hu.sameBut hs' (ok.cne y c e)⟩
    · cases a with
      | loc a1 a2 a3 =>
        have e1 := a2.eq_nsMap
        have e2 := hn.eq_nsMap
        exact .loc a1 hn' (by simp only [if_neg hy]; rw [e2, ← e1]; exact a3)
      | cell a1 a2 a3 => exact .cell a1 a2 (a3.sameBut hs' (ok.cne _ _ a2))
      | free a1 a2 a3 a4 => exact .free a1 a2 a3 (a4.sameBut hs' (ok.cne _ _ a3))
  · obtain ⟨c, hc⟩ := Option.isSome_iff_exists.mp hc
    obtain ⟨v₀, hv₀⟩ := p.pre.cells x c hc
    obtain ⟨m, hn⟩ := p.pre.ns
    refine wpAny_storeName_cell ok.kind hk hc hv₀ (fun h' hc' hs' => h _ ⟨h', _, rfl⟩ (p.upd ok gd (ok.cO hst x c hk hc) hs' ?_ (cell_noSeq hv₀) ⟨_, hn.sameBut hs' (Ne.symm (ok.cne x c hc))⟩ (fun y c' e => ?_) (fun y u hy a => ?_) (.cell hk hc hc') r hx hΓ))
    · obtain ⟨o, ho, _⟩ := hc'; exact ⟨o, ho⟩
    · by_cases q : c' = c
      · subst q; exact ⟨_, hc'⟩
      · obtain ⟨u, hu⟩ := p.pre.cells y c' e
        exact ⟨u, hu.sameBut hs' q⟩
    · cases a with
      | loc a1 a2 a3 => exact .loc a1 (a2.sameBut hs' (Ne.symm (ok.cne x c hc))) a3
      | cell a1 a2 a3 => exact .cell a1 a2 (a3.sameBut hs' fun q => hy (ok.cinj _ _ _ a2 (q ▸ hc)))
      | free a1 a2 a3 a4 => exact .free a1 a2 a3 (a4.sameBut hs' fun q => hy (ok.cinj _ _ _ a3 (q ▸ hc)))
end

/-! ### Statements -/
inductive Out where
  | next (Γ : List (Str × Bd)) (own : Own)
  | ret (b : Bd)
def OutS (F : Fm) (W : Addr → Prop) (h0 : Gh) : Out → Flow → Shared → Prop
  | .next Γ own, f, s' => f = .next ∧ PreS F W h0 Γ own s'
  | .ret b, f, s' => ∃ v, f = .ret v ∧ GIn h0 s'.heap ∧ BRep W s'.heap v b
abbrev ExG (F : Fm) (Γ : List (Str × Bd)) (own : Own) (t : Sem Flow) (out : Out) : Prop := Wrap (∀ W O, F.Ok W O → ∀ h0, Gd F O h0 → ∀ s, PreS F W h0 Γ own s →
  wpAny (model F.prog F.w) F.A t (fun f s' => Same s s' ∧ OutS F W h0 out f s') (fun _ _ => False) s)

section
variable {F : Fm} {Γ Γ' : List (Str × Bd)} {own : Own} {out : Out}

theorem ex_sub {t : Sem Flow} (h : ∀ p ∈ Γ', p ∈ Γ) (x : ExG F Γ' own t out) : ExG F Γ own t out := .mk fun W O ok h0 gd s ⟨l, p⟩ =>
  x.run W O ok h0 gd s ⟨l, p.g, p.pre.sub h, p.own⟩
theorem ex_nil : ExG F Γ own (execs [] F.env) (.next Γ own) := .mk fun W O ok h0 gd s p => wpAny_execs_nil ⟨same_refl s, rfl, p⟩
theorem ex_cons {st : Stmt} {rest : List Stmt} {own₁ : Own} {Γ₁ : List (Str × Bd)} (x : ExG F Γ own (exec st F.env) (.next Γ₁ own₁)) (y : ExG F Γ₁ own₁ (execs rest F.env) out) : ExG F Γ own (execs (st :: rest) F.env) out := .mk fun W O ok h0 gd s p =>
  wpAny_execs_cons (wpAny_mono (x.run W O ok h0 gd s p) (fun f s₁ ⟨sm, e, p₁⟩ => by
    subst e
    exact wpAny_mono (y.run W O ok h0 gd s₁ p₁) (fun f s₂ ⟨sm₂, q⟩ => ⟨same_trans sm sm₂, q⟩) fun _ _ f => f) fun _ _ f => f)
theorem ex_cons_ret {st : Stmt} {rest : List Stmt} {b : Bd} (x : ExG F Γ own (exec st F.env) (.ret b)) : ExG F Γ own (execs (st :: rest) F.env) (.ret b) := .mk fun W O ok h0 gd s p =>
  wpAny_execs_cons (wpAny_mono (x.run W O ok h0 gd s p) (fun f s₁ ⟨sm, v, e, q⟩ => by
    subst e
    exact ⟨sm, v, rfl, q⟩) fun _ _ f => f)
theorem ex_one {st : Stmt} (x : ExG F Γ own (exec st F.env) out) : ExG F Γ own (execs [st] F.env) out := by
  cases out with
  | next Γ₁ own₁ => exact ex_cons x ex_nil
  | ret b => exact ex_cons_ret x

/-- may x be stored in this frame -/
def Sto (F : Fm) (x : Str) : Prop := F.env.kindOf x = some .local ∨ (F.sto = true ∧ F.env.kindOf x = some .cell ∧ (F.env.cells.lookup x).isSome = true)

theorem ex_assign {x : Str} {px pos : Pos} {e : Expr} {b : Bd} (v : EvB F (gam Γ own) e b) (hk : Sto F x) (hx : ∀ y ds, own = some (y, ds) → y ≠ x) (hΓ : ∀ q ∈ Γ', q = (x, b) ∨ (q ∈ Γ ∧ q.1 ≠ x))
    (hs : swapsWith e (some (.Name x px)) pos.line F.env = pure false := by rfl) : ExG F Γ own (exec (.Assign [.Name x px] e pos) F.env) (.next Γ' own) := .mk fun W O ok h0 gd s ⟨l, p⟩ =>
  wpAny_Assign_Name (p.ev ok gd v fun v s₁ k₁ p₁ r₁ => p₁.store ok gd r₁ hk hx hΓ fun s₂ sm p₂ => ⟨same_trans (same_keeps k₁) sm, rfl, l, p₂⟩) hs
theorem ex_return {e : Expr} {pos : Pos} {b : Bd} (v : EvB F (gam Γ own) e b) : ExG F Γ own (exec (.Return (some e) pos) F.env) (.ret b) := .mk fun W O ok h0 gd s ⟨l, p⟩ =>
  wpAny_Return_some (p.ev ok gd v fun v s₁ k₁ p₁ r₁ => ⟨same_keeps k₁, v, rfl, p₁.g, r₁.less wid_le⟩)
theorem ex_if_true {t : Expr} {body orelse : List Stmt} {pos : Pos} (c : EvT F (gam Γ own) t true) (x : ExG F Γ own (execs body F.env) out) : ExG F Γ own (exec (.If t body orelse pos) F.env) out := .mk fun W O ok h0 gd s ⟨l, p⟩ =>
  wpAny_If (p.test ok gd c fun s₁ k₁ p₁ => by
    simp only [if_true]
    exact wpAny_mono (x.run W O ok h0 gd s₁ ⟨l, p₁⟩) (fun f s₂ ⟨sm, q⟩ => ⟨same_trans (same_keeps k₁) sm, q⟩) fun _ _ f => f)
theorem ex_if_false {t : Expr} {body orelse : List Stmt} {pos : Pos} (c : EvT F (gam Γ own) t false) (x : ExG F Γ own (execs orelse F.env) out) : ExG F Γ own (exec (.If t body orelse pos) F.env) out := .mk fun W O ok h0 gd s ⟨l, p⟩ =>
  wpAny_If (p.test ok gd c fun s₁ k₁ p₁ => by
    simp only [Bool.false_eq_true, if_false]
    exact wpAny_mono (x.run W O ok h0 gd s₁ ⟨l, p₁⟩) (fun f s₂ ⟨sm, q⟩ => ⟨same_trans (same_keeps k₁) sm, q⟩) fun _ _ f => f)
theorem ex_if {t : Expr} {body orelse : List Stmt} {pos : Pos} {c : Bool} (ht : EvT F (gam Γ own) t c) (x : c = true → ExG F Γ own (execs body F.env) out) (y : c = false → ExG F Γ own (execs orelse F.env) out) : ExG F Γ own (exec (.If t body orelse pos) F.env) out := by
  cases c with
  | true => exact ex_if_true ht (x rfl)
  | false => exact ex_if_false ht (y rfl)

/-- a while by an invariant σ and a measure -/
theorem ex_while {σ : Type} {test : Expr} {body rest : List Stmt} {pos : Pos} (G : σ → List (Str × Bd)) (I : σ → Prop) (μ : σ → Nat) (c : σ → Bool)
    (ht : ∀ x, I x → EvT F (gam (G x) own) test (c x)) (hb : ∀ x, I x → c x = true → ∃ y, I y ∧ μ y < μ x ∧ ExG F (G x) own (execs body F.env) (.next (G y) own))
    (x₀ : σ) (h₀ : I x₀) (hd : ∀ x, I x → c x = false → ExG F (G x) own (execs rest F.env) out) : ExG F (G x₀) own (execs (.While test body [] pos :: rest) F.env) out := .mk fun W O ok h0 gd s p => by
  refine wpAny_execs_cons (wpAny_While ?_)
  refine codeAny_whileLoop (fun n s' => Same s s' ∧ ∃ x, μ x = n ∧ I x ∧ PreS F W h0 (G x) own s') (fun n s₁ hh₀ => ?_) (μ x₀) ⟨same_refl s, x₀, rfl, h₀, p⟩
  obtain ⟨sm₁, x, hn, hI, l, p₁⟩ := hh₀
  refine p₁.test ok gd (ht x hI) fun s₂ k₂ p₂ => ?_
  have sm₂ := same_trans sm₁ (same_keeps k₂)
  cases hc : c x with
  | true =>
    simp only [if_true]
    obtain ⟨y, hy, hm, hx⟩ := hb x hI hc
    refine wpAny_mono (hx.run W O ok h0 gd s₂ ⟨l, p₂⟩) (fun f s₃ hh₀ => ?_) fun _ _ f => f.elim
    obtain ⟨sm₃, e, p₃⟩ := hh₀
    subst e
    exact ⟨μ y, hn ▸ hm, same_trans sm₂ sm₃, y, rfl, hy, p₃⟩
  | false =>
    simp only [Bool.false_eq_true, if_false]
    refine wpAny_execs_nil ?_
    exact wpAny_mono ((hd x hI hc).run W O ok h0 gd s₂ ⟨l, p₂⟩) (fun f s₃ ⟨sm₃, q⟩ => ⟨same_trans sm₂ sm₃, q⟩) fun _ _ f => f
end
end Mine

namespace Mine
open PySem PySem.W PyProof.Rows PySem.Calls

/-! ### Into a def -/
def Cx.into (C : Cx) (env : Env) : Fm := { C with A := C.A.deeper env, fuel := C.fuel - 1, env := env, sto := true }

theorem Cx.Ok.into {C : Cx} (ok : C.Ok) (hf : 0 < C.fuel) (env : Env) : (C.into env).toCx.Ok where
  hh := ok.hh
  depth := by have := ok.depth; show C.A.depth + 1 + (C.fuel - 1) ≤ 600; (first | lia | omega)
  units := by have := ok.units; show C.A.units + 3 + 8 * (C.fuel - 1) ≤ 2000; (first | lia | omega)
  KIn := ok.KIn
  gns := ok.gns
  bns := ok.bns
  nolimit := ok.nolimit
  boot := ok.boot

theorem bindL_skip {k : Str → Option NameKind} {x : Str} : ∀ {binds : List (Str × Value)} {m : Str → Option Value}, x ∉ binds.map (·.1) → bindL k binds m x = m x
  | [], _, _ => rfl
  | (n, v) :: r, m, h => by
    have h1 : x ≠ n := fun e => h (by simp [e])
    have h2 : x ∉ r.map (·.1) := fun e => h (by simp at e ⊢; exact .inr e)
    unfold bindL
    rw [bindL_skip h2]
    split
    · simp only [if_neg h1]
    · rfl
theorem bindC_skip {k : Str → Option NameKind} {x : Str} : ∀ {binds : List (Str × Value)} {m : Str → Option Value}, x ∉ binds.map (·.1) → bindC k binds m x = m x
  | [], _, _ => rfl
  | (n, v) :: r, m, h => by
    have h1 : x ≠ n := fun e => h (by simp [e])
    have h2 : x ∉ r.map (·.1) := fun e => h (by simp at e ⊢; exact .inr e)
    unfold bindC
    rw [bindC_skip h2]
    split
    · rfl
    · simp only [if_neg h1]
theorem bindL_at {k : Str → Option NameKind} {x : Str} {v : Value} (hk : k x = some .local) : ∀ {binds : List (Str × Value)} {m : Str → Option Value}, (binds.map (·.1)).Nodup → (x, v) ∈ binds → bindL k binds m x = some v
  | (n, u) :: r, m, hn, h => by
    rw [List.map_cons, List.nodup_cons] at hn
    unfold bindL
    rcases List.mem_cons.mp h with e | h
    · cases e
      rw [if_pos hk, bindL_skip hn.1]; simp
    · exact bindL_at hk hn.2 h
theorem bindC_at {k : Str → Option NameKind} {x : Str} {v : Value} (hk : k x = some .cell) : ∀ {binds : List (Str × Value)} {m : Str → Option Value}, (binds.map (·.1)).Nodup → (x, v) ∈ binds → bindC k binds m x = some v
  | (n, u) :: r, m, hn, h => by
    rw [List.map_cons, List.nodup_cons] at hn
    unfold bindC
    rcases List.mem_cons.mp h with e | h
    · cases e
      rw [if_neg (by rw [hk]; decide), bindC_skip hn.1]; simp
    · exact bindC_at hk hn.2 h

theorem ball_zip {W : Addr → Prop} {h : Heap} : ∀ {binds : List (Str × Value)} {bs : List Bd}, BAll W h (binds.map (·.2)) bs → ∀ p ∈ (binds.map (·.1)).zip bs, ∃ v, (p.1, v) ∈ binds ∧ BRep W h v p.2
  | [], _, _, p, hp => by simp at hp
  | (n, v) :: r, _, .cons a q, p, hp => by
    rw [List.map_cons, List.zip_cons_cons] at hp
    rcases List.mem_cons.mp hp with rfl | hp
    · exact ⟨v, .head _, a⟩
    · obtain ⟨u, hu, b⟩ := ball_zip q p hp
      exact ⟨u, .tail _ hu, b⟩

section
variable {C : Cx} {W : Addr → Prop} {s : Shared} {f : Addr} {oc : Value} {od : Option Addr} {osl : Array (Option Value)} {name qual : Str} {params : Arguments} {body : List Stmt} {scope : Scope} {dV kV doc pm cdv ct : Value} {an : Option Addr}
  {args : Args} {binds : List (Str × Value)} {bs : List Bd} {b : Bd}

/-- the frame just made -/
theorem entered (ok : C.Ok) (S : C.St W s) {env : Env} {cells : List (Str × Addr)} (hL : env.locals = s.heap.objs.size) (hcl : env.cells = cells) (hk : env.scope.kind = .function) (eg : env.globals = mainGlobals) (eb : env.builtins = builtinsNs) (hf : 0 < C.fuel)
    {s' : Shared} (x : InCallC s env.locals (bindL env.kindOf binds fun _ => none) env.cells (bindC env.kindOf binds fun _ => none) s')
    (hb : BAll W s.heap (binds.map (·.2)) bs) (hn : (binds.map (·.1)).Nodup) (hkind : ∀ y ∈ binds, env.kindOf y.1 = some .local ∨ (env.kindOf y.1 = some .cell ∧ (env.cells.lookup y.1).isSome = true)) :
    ∃ W' O, (∀ a, W a → W' a) ∧ (∀ a, W' a → W a ∨ O a) ∧ (C.into env).Ok W' O ∧ Gd (C.into env) O s.heap.get? ∧ PreS (C.into env) W' s.heap.get? ((binds.map (·.1)).zip bs) none s' := by
  have above : ∀ n c, (n, c) ∈ env.cells → s.heap.objs.size < c := fun n c h => hL ▸ x.above n c h
  have hnew : ∀ a, s.heap.objs.size ≤ a → s.heap.get? a = none := fun a ha => by
    cases e : s.heap.get? a with
    | none => rfl
    | some o => exact absurd (Heap.lt_size e) (Nat.not_lt.mpr ha)
  have hgn : ∀ a, s.heap.get? a = none → C.g a = none := fun a ha => by
    cases e : C.g a with
    | none => rfl
    | some o => rw [S.g a o e] at ha; cases ha
  have hO : ∀ a, (a = env.locals ∨ ∃ y, env.cells.lookup y = some a) → s.heap.get? a = none := fun a h => by
    rcases h with rfl | ⟨y, hy⟩
    · exact hnew _ (hL ▸ Nat.le_refl _)
    · exact hnew _ (Nat.le_of_lt (above _ _ (mem_of_lookup hy)))
  have kept := x.toInCall.keep
  refine ⟨fun a => W a ∨ (a = env.locals ∨ ∃ y, env.cells.lookup y = some a), fun a => a = env.locals ∨ ∃ y, env.cells.lookup y = some a, fun a w => .inl w, fun a w => w, ?_, ⟨fun b o e => S.g b o e, hO⟩, env.locals, ?_⟩
  · refine ⟨ok.into hf env, hk, eg, eb, .inl rfl, fun a h => .inr h, fun a h => hgn a (hO a h), fun y c e q => ?_, fun y z c e1 e2 => ?_, fun y c e => .inr (.inr ⟨y, e⟩), fun _ y c _ e => .inr ⟨y, e⟩⟩
    · exact absurd (x.above y c (mem_of_lookup e)) (by rw [q]; exact Nat.lt_irrefl _)
    · exact name_of_addr x.apart (mem_of_lookup e1) (mem_of_lookup e2)
  · refine ⟨fun b o e => kept b o e, ⟨⟨fun b o e => kept b o (S.g b o e), fun a w => ?_⟩, fun p hp => ?_, ⟨_, x.toInCall.ns⟩, fun y c e => ⟨_, x.cell y c e⟩⟩, fun y ds e => by cases e⟩
    · rcases w with w | rfl | ⟨y, hy⟩
      · obtain ⟨o, ho⟩ := S.W a w; exact ⟨o, kept a o ho⟩
      · obtain ⟨o, _, _, ho, _⟩ := x.toInCall.ns; exact ⟨o, ho⟩
      · obtain ⟨o, ho, _⟩ := x.cell y a hy; exact ⟨o, ho⟩
    · obtain ⟨v, hv, r⟩ := ball_zip hb p hp
      refine ⟨v, ?_, ?_⟩
      · rcases hkind _ hv with hl | ⟨hl, hc⟩
        · exact .loc hl x.toInCall.ns (bindL_at hl hn hv)
        · obtain ⟨c, hc⟩ := Option.isSome_iff_exists.mp hc
          exact .cell hl hc (by rw [← bindC_at (m := fun _ => none) hl hn hv]; exact x.cell _ _ hc)
      · have hg : ∀ {v : Value} {d : PyData}, Rep W s.heap v d → Rep (fun a => W a ∨ (a = env.locals ∨ ∃ y, env.cells.lookup y = some a)) s'.heap v d := fun r => r.gen (fun a w => w.imp id (hO a)) fun b o _ e => kept b o e
        have hg' : ∀ {v : List Value} {d : List PyData}, RepAll W s.heap v d → RepAll (fun a => W a ∨ (a = env.locals ∨ ∃ y, env.cells.lookup y = some a)) s'.heap v d := fun r => r.gen (fun a w => w.imp id (hO a)) fun b o _ e => kept b o e
        cases hb : p.2 with
        | dat d => rw [hb] at r; exact hg r
        | lst ds => rw [hb] at r; obtain ⟨l, vs, e, hl, q⟩ := r; exact ⟨l, vs, e, isList_keeps hl (kept l), hg' q⟩
        | val u => rw [hb] at r; exact r

theorem enter (ok : C.Ok) (hf : 0 < C.fuel) (S : C.St W s) (ho : C.K.lookup f = some ⟨oc, od, .func (fnOf name qual params body scope dV kV doc pm an cdv ct), osl⟩) (hcd : codeIn C.K cdv qual = true)
    (hbind : BindsTo s (fnOf name qual params body scope dV kV doc pm an cdv ct) args binds) (hb : BAll W s.heap (binds.map (·.2)) bs) (hn : (binds.map (·.1)).Nodup)
    (hkind : (binds.all fun y => scope.names.lookup y.1 == some .local || scope.names.lookup y.1 == some .cell) = true)
    (hbody : ∀ L, ExG (C.into (envOfC qual scope L f cdv)) ((binds.map (·.1)).zip bs) none (execs body (envOfC qual scope L f cdv)) (.ret b))
    (hco : scope.isCoroutine = false := by rfl) (hgen : scope.isGenerator = false := by rfl) (hk : scope.kind = .function := by rfl) :
    codeAny (model C.prog C.w) C.A (.call (.ref f) args) (fun r s' => ∃ v, r = .ok (.ret v) ∧ Keeps s s' ∧ BRep W s'.heap v b) s := by
  have hK : s.heap.get? f = some ⟨oc, od, .func (fnOf name qual params body scope dV kV doc pm an cdv ct), osl⟩ := S.g _ _ (ok.KIn _ _ ho)
  have hkk := kindsX hkind
  refine codeAny_call_function (by have := ok.depth; show C.A.depth < 1000; (first | lia | omega)) hK rfl hco hgen rfl ((codeRec_of (h := s.heap) (fun a o e => S.g _ _ (ok.KIn a o e)) hcd)) (hbind _ _ _ _ ?_)
  refine wpAny_newFunctionEnv_cells hk (hkk _) fun env' he s' x => ?_
  subst he
  refine ⟨(ok.nolimit _ S.g).keeps x.toInCall.keep, codeAny_func ?_⟩
  obtain ⟨W', O, hW, hW2, ok', gd, p⟩ := entered (bs := bs) ok S (env := envOfC qual scope s.heap.objs.size f cdv) rfl rfl hk rfl rfl hf x hb hn (hkk _)
  obtain ⟨h₁, tk, rfl⟩ := x.toInCall.same
  refine wpAny_mono ((hbody s.heap.objs.size).run W' O ok' _ gd _ p) (fun fl s₂ hh₀ => ?_) fun _ _ f => f.elim
  obtain ⟨⟨h₂, t₂, e₂⟩, v, e, hG, r⟩ := hh₀
  subst e
  refine ⟨v, rfl, ?_, r.less hW⟩
  subst e₂
  exact ⟨h₂, t₂, rfl, hG⟩

theorem callOk_of {kn : List Str} {kb ab : List Bd} (h : C.Ok → ∀ W s vs ks, C.St W s → BAll W s.heap vs ab → BAll W s.heap ks kb → codeAny (model C.prog C.w) C.A (.call (.ref f) ⟨vs, kn.zip ks⟩) (fun r s' => ∃ v, r = .ok (.ret v) ∧ Keeps s s' ∧ BRep W s'.heap v b) s) :
    CallOk C (.ref f) ab kn kb b := .mk fun ok W s vs ks S x y =>
  wpAny_call (codeAny_mono (h ok W s vs ks S x y) fun r s' ⟨v, e, k, q⟩ => by subst e; exact ⟨k, q⟩)
end

/-! ### Owned lists -/
/-- a list just made -/
abbrev EvN (F : Fm) (Γ : List (Str × Bd)) (e : Expr) (ds : List PyData) : Prop := Wrap (∀ W O, F.Ok W O → ∀ s, F.Pre W Γ s →
  wpAny (model F.prog F.w) F.A (eval e F.env) (fun v s' => Keeps s s' ∧ ∃ l vs n, v = .ref l ∧ s.heap.get? l = none ∧ ¬ W l ∧ s'.heap.get? l = some (listOf vs.toArray n) ∧ RepAll (fun a => W a ∨ a = l) s'.heap vs ds) (fun _ _ => False) s)

section
variable {F : Fm} {Γ Γ' : List (Str × Bd)} {own : Own} {out : Out}

theorem evn_nil {pos : Pos} : EvN F Γ (.List [] pos) [] := .mk fun W O ok s p =>
  List_ (Calls.spliced_nil (wpAny_newObj_type ⟨keeps_push s _, _, [], 0, rfl, get?_size _, newList_lt p.st.W, Heap.get?_push_size _ rfl, .nil⟩ (by show (0 : Nat) ≤ sizeLine; (first | lia | omega))))
theorem evn_add {l r : Expr} {pos : Pos} {a b : List PyData} (x : EvB F Γ l (.lst a)) (y : EvB F Γ r (.lst b)) (h : a.length + b.length ≤ 100000) : EvN F Γ (.BinOp l .Add r pos) (a ++ b) := .mk fun _ _ ok s p =>
  wpAny_BinOp (x.use ok p fun v s₁ k₁ p₁ r₁ => y.use ok p₁ fun u s₂ k₂ p₂ r₂ => by
    have r₁ := r₁.keeps (keeps_heap k₂)
    obtain ⟨l, vs, rfl, hl, rl⟩ := r₁
    obtain ⟨l', ws, rfl, hl', rl'⟩ := r₂
    obtain ⟨⟨cls, dd, data, sl⟩, ho, hc, n, hd⟩ := id hl
    obtain ⟨⟨cls2, dd2, data2, sl2⟩, ho2, hc2, n2, hd2⟩ := id hl'
    simp only at hc hd hc2 hd2
    subst hc hd hc2 hd2
    have e : vs.toArray ++ ws.toArray = (vs ++ ws).toArray := by simp
    refine concat_meets ⟨_, ho, rfl⟩ ⟨_, ho2, rfl⟩ noFill_list_add seq_list_add PySem.F.slot_list_add PySem.F.entry_list_add (PySem.F.args_list_add_2 _ _)
      (list_addW l l' vs.toArray ws.toArray n n2 dd dd2 sl sl2 (by have := rl.length; have := rl'.length; simp; rw [sizeLine_eq]; (first | lia | omega))) ⟨ho, ho2, ?_⟩
    rw [e]
    have k12 := keeps_trans k₁ k₂
    refine ⟨keeps_trans k12 (keeps_push s₂ _), _, _, 0, rfl, ?_, newList_lt p₂.st.W, Heap.get?_push_size _ rfl, (rl.append rl').gen (fun a w => w.imp id fun q => by rw [q]; exact get?_size _) fun b o _ e => Heap.get?_push_of_some _ e⟩
    cases q : s.heap.get? s₂.heap.objs.size with
    | none => rfl
    | some o => have := keeps_heap k12 _ _ q; rw [get?_size] at this; cases this)

theorem OpS.drop {W : Addr → Prop} {h0 : Gh} {l : Addr} {s : Shared} (p : OpS F W h0 Γ own l s) : OpS F W h0 Γ none l s :=
  ⟨p.g, ⟨⟨p.pre.st.g, fun a w => p.pre.st.W a (wid_le a w)⟩, fun q hq => let ⟨v, a, b⟩ := p.pre.vars q hq; ⟨v, a, b.less wid_le⟩, p.pre.ns, p.pre.cells⟩, fun x ds e => by cases e⟩
/-- the owned list is now data like any other -/
theorem ex_freeze {t : Sem Flow} {x : Str} {ds : List PyData} (h : ExG F ((x, .dat (.list ds)) :: Γ) none t out) : ExG F Γ (some (x, ds)) t out := .mk fun W O ok h0 gd s ⟨l, p⟩ => by
  obtain ⟨a1, a2, a3, vs, n, a4, a5⟩ := p.own x ds rfl
  have q := p.drop
  refine h.run W O ok h0 gd s ⟨l, q.g, ⟨q.pre.st, fun r hr => ?_, q.pre.ns, q.pre.cells⟩, fun x ds e => by cases e⟩
  rcases List.mem_cons.mp hr with rfl | hr
  · exact ⟨_, a3, Rep.list a2 (.of a4) (a5.less fun a w => .inl w)⟩
  · exact q.pre.vars r hr

/-- a stronger ghost: all but the frame's own -/
theorem ghost_strong {W O : Addr → Prop} {h0 : Gh} {l : Addr} {s : Shared} (ok : F.Ok W O) (gd : Gd F O h0) (p : OpS F W h0 Γ none l s) :
    ∃ h1 : Gh, Gd F O h1 ∧ OpS F W h1 Γ none l s ∧ (∀ b o, h0 b = some o → h1 b = some o) ∧ (∀ b o, ¬ O b → s.heap.get? b = some o → h1 b = some o) := by
  classical
  refine ⟨fun b => if O b then none else s.heap.get? b, ⟨fun b o e => ?_, fun a h => by simp [h]⟩, ⟨fun b o e => ?_, p.pre, fun x ds e => by cases e⟩, fun b o e => ?_, fun b o hb e => by simp [hb, e]⟩
  · have : ¬ O b := fun h => by rw [ok.Og b h] at e; cases e
    simp only [if_neg this]; exact p.pre.st.g b o e
  · by_cases hb : O b
    · simp [hb] at e
    · simpa [hb] using e
  · have : ¬ O b := fun h => by rw [gd.O b h] at e; cases e
    simp only [if_neg this]; exact p.g b o e

/-- x becomes the name of a list of its own -/
theorem ex_assign_own {x : Str} {px pos : Pos} {e : Expr} {ds : List PyData} (v : EvN F (gam Γ own) e ds) (hk : Sto F x) (hΓ : ∀ q ∈ Γ', q ∈ Γ ∧ q.1 ≠ x)
    (hs : swapsWith e (some (.Name x px)) pos.line F.env = pure false := by rfl) : ExG F Γ own (exec (.Assign [.Name x px] e pos) F.env) (.next Γ' (some (x, ds))) := .mk fun W O ok h0 gd s ⟨l, p⟩ => by
  refine wpAny_Assign_Name (wpAny_mono (v.run _ _ (p.ok ok gd) s p.gam) (fun u s₁ hh₀ => ?_) fun _ _ f => f.elim) hs
  obtain ⟨k₁, l', vs, n, e₁, hnew, hnW, ho, hr⟩ := hh₀
  subst e₁
  have p₁ := (p.keeps k₁).drop
  have hnW' : ¬ W l' := fun w => hnW (wid_le _ w)
  have hnO : ¬ O l' := fun w => hnW' (ok.OW _ w)
  have hl0 : h0 l' = none := by
    cases q : h0 l' with
    | none => rfl
    | some o => have := p.g _ _ q; rw [hnew] at this; cases this
  -- what is known avoids l'
  have avoid : ∀ q ∈ Γ, ∃ v, VarAt F.env s₁.heap q.1 v ∧ BRep (fun a => W a ∨ a = l') s₁.heap v q.2 := fun q hq => by
    obtain ⟨v, a, b⟩ := p.drop.pre.vars q hq
    refine ⟨v, a.keeps (keeps_heap k₁), ?_⟩
    have hg : ∀ {v : Value} {d : PyData}, Rep W s.heap v d → Rep (fun a => W a ∨ a = l') s₁.heap v d := fun r => r.gen (fun a w => w.imp id fun e => by rw [e]; exact hnew) fun b o _ e => keeps_heap k₁ b o e
    have hg' : ∀ {v : List Value} {d : List PyData}, RepAll W s.heap v d → RepAll (fun a => W a ∨ a = l') s₁.heap v d := fun r => r.gen (fun a w => w.imp id fun e => by rw [e]; exact hnew) fun b o _ e => keeps_heap k₁ b o e
    cases hb : q.2 with
    | dat d => rw [hb] at b; exact hg b
    | lst ds => rw [hb] at b; obtain ⟨l, vs, e, hl, r⟩ := b; exact ⟨l, vs, e, isList_keeps hl (keeps_heap k₁ l), hg' r⟩
    | val u => rw [hb] at b; exact b
  -- a frame that owns l' too
  have okW : F.Ok (fun a => W a ∨ a = l') O := ⟨ok.cx, ok.kind, ok.eg, ok.eb, ok.loc, fun a h => .inl (ok.OW a h), ok.Og, ok.cne, ok.cinj, fun x c e => .inl (ok.cW x c e), ok.cO⟩
  have pW : OpS F (fun a => W a ∨ a = l') h0 Γ none l' s₁ := ⟨p₁.g, ⟨⟨p₁.pre.st.g, fun a w => w.elim (p₁.pre.st.W a) fun e => ⟨_, e ▸ ho⟩⟩, avoid, p₁.pre.ns, p₁.pre.cells⟩, fun x ds e => by cases e⟩
  obtain ⟨h1, gd1, q1, up, all⟩ := ghost_strong okW gd pW
  refine q1.store (Γ' := (x, .val (.ref l')) :: Γ') okW gd1 (b := .val (.ref l')) rfl hk (fun y ds e => by cases e) (fun q hq => ?_) fun s₂ sm₂ q₂ => ?_
  · rcases List.mem_cons.mp hq with rfl | hq
    · exact .inl rfl
    · exact .inr (hΓ q hq)
  · refine ⟨same_trans (same_keeps k₁) sm₂, rfl, l', ⟨fun b o e => q₂.g b o (up b o e), q₂.pre.sub fun q hq => .tail _ hq, fun y ds' e => ?_⟩⟩
    cases e
    obtain ⟨v, a, b⟩ := q₂.pre.vars (x, .val (.ref l')) (.head _)
    have b : v = .ref l' := b
    subst b
    refine ⟨hl0, hnW', a, vs, n, q₂.g _ _ (all _ _ hnO ho), hr.gen (fun _ w => .inl (w.imp (wid_le _) id)) fun b o hb e => q₂.g _ _ (all _ _ (fun w => hb (.inl (wid_le _ (ok.OW _ w)))) e)⟩

/-- what a callable does to a list of its caller's own -/
abbrev MutOk (C : Cx) (f : Value) (args : List Bd) (kn : List Str) (kb : List Bd) (ds ds' : List PyData) : Prop := Wrap (C.Ok → ∀ W s l lv n vs ks, C.St W s → W l → C.g l = none → s.heap.get? l = some (listOf lv.toArray n) → RepAll W s.heap lv ds →
  BAll W s.heap vs args → BAll W s.heap ks kb →
  wpAny (model C.prog C.w) C.A (call f (.ref l :: vs) (kn.zip ks)) (fun r s' => r = .none ∧ Same s s' ∧ (∀ b o, b ≠ l → s.heap.get? b = some o → s'.heap.get? b = some o) ∧ ∃ lv' n', s'.heap.get? l = some (listOf lv'.toArray n') ∧ RepAll W s'.heap lv' ds') (fun _ _ => False) s)

/-- a statement that calls such a one with the owned list -/
theorem ex_mut {x : Str} {fe : Expr} {es : List Expr} {ks : List Keyword} {px pos pos' : Pos} {a : Addr} {o : Obj} {fd : FuncData} {args : List Bd} {kn : List Str} {kb : List Bd} {ds ds' : List PyData}
    (hf : EvB F (gam Γ (some (x, ds))) fe (.val (.ref a))) (ha : EvL F (gam Γ (some (x, ds))) pos es args) (hkw : EvKw F (gam Γ (some (x, ds))) pos ks kn kb)
    (ho : ∀ W s, F.Pre W Γ s → s.heap.get? a = some o ∧ o.data = .func fd) (h : MutOk F.toCx (.ref a) args kn kb ds ds') (hd : (x == ("__debug__" : Str)) = false := by decide) (hno : ∀ p ∈ Γ, ∀ ds, p.2 ≠ .lst ds)
    (hn : ∀ env, starEach (.Name x px :: es) env = (false, eval (.Name x px) env) :: starEach es env := by intro _; rfl) (hn' : ∀ env, (starEach es env).any (·.1) = false := by intro _; rfl)
    (harm : ∀ env, eval (.Call fe (.Name x px :: es) ks pos) env = (do callWith pos (← eval fe env) [] (backTo pos (starEach (.Name x px :: es) env)) (backToKw pos (keywordEach ks env))) := by intro _; rfl)
    (hi : interactive F.env = false) (hs : swapsWith (.Call fe (.Name x px :: es) ks pos) none pos'.line F.env = pure false := by rfl) :
    ExG F Γ (some (x, ds)) (exec (.Expr (.Call fe (.Name x px :: es) ks pos) pos') F.env) (.next Γ (some (x, ds'))) := .mk fun W O ok h0 gd s ⟨l, p⟩ => by
  refine wpAny_Expr ?_ hi hs
  rw [harm]
  have okl := p.ok ok gd
  refine wpAny_bind (p.ev ok gd hf fun f s₁ k₁ p₁ r₁ => ?_)
  have r₁ : f = .ref a := r₁
  subst r₁
  obtain ⟨a1, a2, a3, _⟩ := p₁.own x ds rfl
  have hst : (backTo pos (starEach (.Name x px :: es) F.env)) = (false, eval (.Name x px) F.env) :: backTo pos (starEach es F.env) := by rw [hn]; rfl
  refine callWith_function_kw (o := o) (fd := fd) (evalArgs_any (by rw [backTo_plain, hn]; simpa using hn' _) hkw.1 ?_)
  rw [hst]
  refine Calls.spliced_cons (wpAny_Name (a3.load ok.kind ?_) hd)
  refine wpAny_mono (ha.run _ _ okl s₁ p₁.gam) (fun vs s₂ hh₀ => ?_) fun _ _ f => f.elim
  obtain ⟨k₂, r₂⟩ := hh₀
  have p₂ := p₁.keeps k₂
  refine wpAny_mono (hkw.2.2 _ _ okl s₂ p₂.gam) (fun ks s₃ hh₀ => ?_) fun _ _ f => f.elim
  obtain ⟨k₃, r₃⟩ := hh₀
  have p₃ := p₂.keeps k₃
  refine ⟨ho _ _ p₃.pre, ?_⟩
  rw [hkw.2.1]
  obtain ⟨c1, c2, c3, lv, n, c4, c5⟩ := p₃.own x ds rfl
  refine wpAny_mono (h.run ok.cx _ s₃ l lv n vs ks p₃.pre.st (.inr rfl) (okl.Og l (.inr rfl)) c4 c5 (r₂.keeps (keeps_heap k₃)) r₃) (fun r s₄ hh₀ => ?_) fun _ _ f => f.elim
  obtain ⟨e, sm, kp, lv', n', hl', rl'⟩ := hh₀
  subst e
  refine ⟨same_trans (same_trans (same_trans (same_keeps k₁) (same_keeps k₂)) (same_keeps k₃)) sm, rfl, l, ⟨fun b o e => kp b o (fun q => by rw [q, c1] at e; cases e) (p₃.g b o e), ⟨⟨fun b o e => kp b o (fun q => ?_) (p₃.pre.st.g b o e), fun b w => ?_⟩, fun q hq => ?_, ?_, fun y c e => ?_⟩, fun y ds'' e => ?_⟩⟩
  · have := okl.Og l (.inr rfl); rw [q, this] at e; cases e
  · by_cases q : b = l
    · exact ⟨_, q ▸ hl'⟩
    · obtain ⟨o, ho⟩ := p₃.pre.st.W b w; exact ⟨o, kp b o q ho⟩
  · obtain ⟨v, b1, b2⟩ := p₃.pre.vars q hq
    refine ⟨v, ?_, ?_⟩
    · cases b1 with
      | loc d1 d2 d3 => exact .loc d1 (d2.at' fun o e => kp _ o (fun q => a2 (q ▸ ok.OW _ ok.loc)) e) d3
      | cell d1 d2 d3 => obtain ⟨o, ho, hd⟩ := d3; exact .cell d1 d2 ⟨o, kp _ o (fun q => a2 (q ▸ ok.cW _ _ d2)) ho, hd⟩
      | free d1 d2 d3 d4 => obtain ⟨o, ho, hd⟩ := d4; exact .free d1 d2 d3 ⟨o, kp _ o (fun q => a2 (q ▸ ok.cW _ _ d3)) ho, hd⟩
    · cases hb : q.2 with
      | dat d => rw [hb] at b2; exact Rep.gen (fun _ w => .inl w) (fun b o hb e => kp b o (fun q => hb (.inr q)) e) b2
      | lst ds => exact absurd hb (hno q hq ds)
      | val u => rw [hb] at b2; exact b2
  · obtain ⟨m, hm⟩ := p₃.pre.ns
    exact ⟨m, hm.at' fun o e => kp _ o (fun q => a2 (q ▸ ok.OW _ ok.loc)) e⟩
  · obtain ⟨v, o, ho, hd⟩ := p₃.pre.cells y c e
    exact ⟨v, o, kp _ o (fun q => a2 (q ▸ ok.cW _ _ e)) ho, hd⟩
  · cases e
    refine ⟨c1, c2, ?_, lv', n', hl', rl'⟩
    cases c3 with
    | loc d1 d2 d3 => exact .loc d1 (d2.at' fun o e => kp _ o (fun q => a2 (q ▸ ok.OW _ ok.loc)) e) d3
    | cell d1 d2 d3 => obtain ⟨o, ho, hd⟩ := d3; exact .cell d1 d2 ⟨o, kp _ o (fun q => a2 (q ▸ ok.cW _ _ d2)) ho, hd⟩
    | free d1 d2 d3 d4 => obtain ⟨o, ho, hd⟩ := d4; exact .free d1 d2 d3 ⟨o, kp _ o (fun q => a2 (q ▸ ok.cW _ _ d3)) ho, hd⟩
end
end Mine

namespace Mine
open PySem PySem.W PyProof.Rows PySem.Calls

def ownedTypes : List String := ["enumerate", "zip", "dict_itemiterator", "dict_reverseitemiterator", "odict_iterator", "itertools.zip_longest", "itertools.pairwise"]
theorem wpAny_letOwned {M : Model} {A : Around} {E : Value → Shared → Prop} {s : Shared} {target : Expr} {I : Addr} {v : Value} {o : Obj} {T : String} {Q : Unit → Shared → Prop} (ho : s.heap.get? I = some o) (hc : o.cls = .type T) (hT : ownedTypes.contains T = false) (h : Q () s) :
    wpAny M A (letOwnedTupleGo target (.ref I) v) Q E s := by
  have key : wpAny M A (do
      let (.ref r, .ref a) := (Value.ref I, v) | return
      let o ← load r
      match o.cls, o.data with
      | .type n, .fields vs =>
        if ownedTypes.contains n && vs[0]? == some (rawInt a) then
          rule "for.unpacks-the-owned-tuple"
          updateField r 0 .none
      | _, _ => pure () : Sem Unit) Q E s := by
    cases v with
    | ref a =>
      refine wpAny_bind (wpAny_load ho ?_)
      rw [hc]
      cases o.data with
      | fields vs => simp only [hT, Bool.false_and, Bool.false_eq_true, if_false]; exact wpAny_pure h
      | _ => exact wpAny_pure h
    | _ => exact wpAny_pure h
  cases target <;> first | exact wpAny_pure h | exact key

/-! ### What a loop runs over -/
abbrev EvI (F : Fm) (Γ : List (Str × Bd)) (e : Expr) (items : List PyData) : Prop := Wrap (∀ W O, F.Ok W O → ∀ s, F.Pre W Γ s →
  wpAny (model F.prog F.w) F.A (eval e F.env) (fun v s₁ => Keeps s s₁ ∧ wpAny (model F.prog F.w) F.A (pyIter v) (fun it s₂ => Keeps s₁ s₂ ∧ ∃ I fp wr P St, it = .ref I ∧ Walks F.prog F.w F.A I fp wr items.length P St ∧ St 0 s₂.heap ∧
    (∀ b ∈ wr, s₁.heap.get? b = none) ∧ (∀ b ∈ fp, ¬ W b ∧ ∃ o, s₂.heap.get? b = some o) ∧ (∀ i v, i < items.length → P i v → ∃ d, items[i]? = some d ∧ Rep W s₁.heap v d) ∧
    (∀ i h, St i h → ∃ o T, h.get? I = some o ∧ o.cls = .type T ∧ ownedTypes.contains T = false ∧ T ≠ "list") ∧ (∀ b ∈ wr, b = I) ∧ I ∈ wr) (fun _ _ => False) s₁) (fun _ _ => False) s)

section
variable {F : Fm} {Γ Γ' : List (Str × Bd)} {own : Own} {out : Out}

theorem evi_list {e : Expr} {ds : List PyData} (x : EvE F Γ e (.list ds)) : EvI F Γ e ds := .mk fun W O ok s p =>
  x.use ok p fun v s₁ k₁ p₁ r => by
    refine ⟨k₁, ?_⟩
    cases r with
    | list hn hl0 r =>
      rename_i a vs
      have hl := hl0.1
      have hlen := r.length
      have hne : a ≠ s₁.heap.objs.size := by obtain ⟨o, ho, _⟩ := hl; exact Nat.ne_of_lt (Heap.lt_size ho)
      refine wpAny_pyIter_list hl ?_
      refine ⟨keeps_push s₁ _, s₁.heap.objs.size, [s₁.heap.objs.size, a], [s₁.heap.objs.size], fun i v => vs.toArray[i]? = some v, fun i h => h.IsListIter s₁.heap.objs.size a i ∧ h.IsList a vs.toArray, rfl, ?_, ⟨⟨_, Heap.get?_push_size _ rfl, rfl, rfl⟩, hl.push _⟩, ?_, ?_, ?_, ?_, fun b hb => by simpa using hb, .head _⟩
      · have W' := Walks.list (prog := F.prog) (w := F.w) ok.cx.hh s₁.heap.objs.size a hne vs.toArray
        rw [show vs.toArray.size = ds.length by simp [hlen]] at W'
        exact W'
      · intro b hb; simp at hb; subst hb; exact get?_size _
      · intro b hb
        simp at hb
        rcases hb with rfl | rfl
        · exact ⟨newList_lt p₁.st.W, _, Heap.get?_push_size _ rfl⟩
        · obtain ⟨o, ho, _⟩ := hl; exact ⟨hn, o, Heap.get?_push_of_some _ ho⟩
      · intro i v _ hv
        exact r.get' (by simpa using hv)
      · rintro i h ⟨⟨o, ho, hc, _⟩, _⟩
        exact ⟨o, _, ho, hc, by decide, by decide⟩

theorem evi_of_range {fe : Expr} {es : List Expr} {pos : Pos} {args : List Bd} {a b c : Int} {n : Nat} (hf : EvB F Γ fe (.val (.type "range"))) (x : EvL F Γ pos es args)
    (h : ∀ W s vs, F.toCx.Ok → F.toCx.St W s → BAll W s.heap vs args → wpAny (model F.prog F.w) F.A (call (.type "range") vs []) (fun v s' => Keeps s s' ∧ ∃ t u k, v = .ref s.heap.objs.size ∧ IsRange s'.heap s.heap.objs.size a b c t u k) (fun _ _ => False) s)
    (hsmall : Builtin.Range.small a b c = true) (hn : Builtin.Range.rangeSize a b c = (n : Int))
    (hns : ∀ env, (starEach es env).any (·.1) = false := by intro _; rfl)
    (harm : ∀ env, eval (.Call fe es [] pos) env = (do callWith pos (← eval fe env) [] (backTo pos (starEach es env)) (backToKw pos (keywordEach [] env))) := by intro _; rfl) :
    EvI F Γ (.Call fe es [] pos) ((List.range n).map fun i : Nat => .int (a + (i : Int) * c)) := .mk fun W O ok s p => by
  rw [harm]
  refine wpAny_bind (hf.use ok p fun f s₁ k₁ p₁ r₁ => ?_)
  have r₁ : f = .type "range" := r₁
  subst r₁
  refine PySem.callWith_type (by rw [backTo_plain]; exact hns _) (evalArgs_any (by rw [backTo_plain]; exact hns _) rfl (wpAny_mono (x.run _ _ ok s₁ p₁) (fun vs s₂ hh₀ => ?_) fun _ _ f => f.elim))
  obtain ⟨k₂, r₂⟩ := hh₀
  refine wpAny_evalAll_nil ?_
  have p₂ := p₁.keeps k₂
  refine wpAny_mono (h W s₂ vs ok.cx p₂.st r₂) (fun v s₃ ⟨k₃, t, u, k, e, hr⟩ => ⟨keeps_trans (keeps_trans k₁ k₂) k₃, ?_⟩) fun _ _ f => f
  subst e
  have p₃ := p₂.keeps k₃
  refine wpAny_pyIter_range hr hsmall ?_
  refine ⟨keeps_push s₃ _, s₃.heap.objs.size, [s₃.heap.objs.size], [s₃.heap.objs.size], fun i v => ∃ t, v = .int (a + (i : Int) * c) t, fun i h => IsRangeIter h s₃.heap.objs.size (a + (i : Nat) * c) ((n : Int) - (i : Nat)) c, rfl, ?_, ?_, ?_, ?_, ?_, ?_, fun b hb => by simpa using hb, .head _⟩
  · have hl : ((List.range n).map fun i : Nat => PyData.int (a + (i : Int) * c)).length = n := by simp
    rw [hl]
    exact Walks.range (prog := F.prog) (w := F.w) ok.cx.hh s₃.heap.objs.size a c n
  · have : IsRangeIter (s₃.heap.push { cls := .type "range_iterator", data := .fields #[rawInt a, rawInt (Builtin.Range.rangeSize a b c), rawInt c] }) s₃.heap.objs.size a (Builtin.Range.rangeSize a b c) c := Heap.get?_push_size _ rfl
    rw [hn] at this
    simpa [hn] using this
  · intro b hb; simp at hb; subst hb; exact get?_size _
  · intro b hb
    simp at hb
    subst hb
    exact ⟨newList_lt p₃.st.W, _, Heap.get?_push_size _ rfl⟩
  · rintro i v hi ⟨t, rfl⟩
    have hi : i < n := by simpa using hi
    exact ⟨_, by simp [hi], .int _ _⟩
  · intro i h hi
    exact ⟨_, _, hi, rfl, by decide, by decide⟩

theorem range_small {a b c : Int} (ha : -1000000 ≤ a ∧ a ≤ 1000000) (hb : -1000000 ≤ b ∧ b ≤ 1000000) (hc : c = 1 ∨ c = -1) : Builtin.Range.small a b c = true := by
  have hs : 0 ≤ Builtin.Range.rangeSize a b c ∧ Builtin.Range.rangeSize a b c ≤ 2000001 := by
    unfold Builtin.Range.rangeSize
    rcases hc with rfl | rfl
    · simp only [show (1 : Int) > 0 by decide, if_true, Int.ediv_one]; split <;> (first | lia | omega)
    · simp only [show ¬ (-1 : Int) > 0 by decide, if_false, show (- -1 : Int) = 1 by decide, Int.ediv_one]; split <;> (first | lia | omega)
  have f : ∀ x : Int, -3000000 ≤ x → x ≤ 3000000 → Builtin.Range.rangeFitsLong x = true := by
    intro x h1 h2
    simp [Builtin.Range.rangeFitsLong]; (first | lia | omega)
  unfold Builtin.Range.small
  rw [f a (by first | decide | assumption | with_reducible exact Int.natCast_nonneg _ | with_reducible exact Nat.le_trans (by assumption) (by decide) | with_reducible exact Nat.lt_of_lt_of_le (by assumption) (by decide) | with_reducible exact lt_mil (Nat.lt_of_lt_of_le (by assumption) (by decide)) | with_reducible exact lt_mil (Nat.lt_of_le_of_lt (by assumption) (by decide)) | with_reducible exact Nat.le_trans (Nat.le_of_lt (by assumption)) (by decide) | (first | lia | omega)) (by first | decide | assumption | with_reducible exact Int.natCast_nonneg _ | with_reducible exact Nat.le_trans (by assumption) (by decide) | with_reducible exact Nat.lt_of_lt_of_le (by assumption) (by decide) | with_reducible exact lt_mil (Nat.lt_of_lt_of_le (by assumption) (by decide)) | with_reducible exact lt_mil (Nat.lt_of_le_of_lt (by assumption) (by decide)) | with_reducible exact Nat.le_trans (Nat.le_of_lt (by assumption)) (by decide) | (first | lia | omega)), f b (by first | decide | assumption | with_reducible exact Int.natCast_nonneg _ | with_reducible exact Nat.le_trans (by assumption) (by decide) | with_reducible exact Nat.lt_of_lt_of_le (by assumption) (by decide) | with_reducible exact lt_mil (Nat.lt_of_lt_of_le (by assumption) (by decide)) | with_reducible exact lt_mil (Nat.lt_of_le_of_lt (by assumption) (by decide)) | with_reducible exact Nat.le_trans (Nat.le_of_lt (by assumption)) (by decide) | (first | lia | omega)) (by first | decide | assumption | with_reducible exact Int.natCast_nonneg _ | with_reducible exact Nat.le_trans (by assumption) (by decide) | with_reducible exact Nat.lt_of_lt_of_le (by assumption) (by decide) | with_reducible exact lt_mil (Nat.lt_of_lt_of_le (by assumption) (by decide)) | with_reducible exact lt_mil (Nat.lt_of_le_of_lt (by assumption) (by decide)) | with_reducible exact Nat.le_trans (Nat.le_of_lt (by assumption)) (by decide) | (first | lia | omega)), f c (by first | decide | assumption | with_reducible exact Int.natCast_nonneg _ | with_reducible exact Nat.le_trans (by assumption) (by decide) | with_reducible exact Nat.lt_of_lt_of_le (by assumption) (by decide) | with_reducible exact lt_mil (Nat.lt_of_lt_of_le (by assumption) (by decide)) | with_reducible exact lt_mil (Nat.lt_of_le_of_lt (by assumption) (by decide)) | with_reducible exact Nat.le_trans (Nat.le_of_lt (by assumption)) (by decide) | (first | lia | omega)) (by first | decide | assumption | with_reducible exact Int.natCast_nonneg _ | with_reducible exact Nat.le_trans (by assumption) (by decide) | with_reducible exact Nat.lt_of_lt_of_le (by assumption) (by decide) | with_reducible exact lt_mil (Nat.lt_of_lt_of_le (by assumption) (by decide)) | with_reducible exact lt_mil (Nat.lt_of_le_of_lt (by assumption) (by decide)) | with_reducible exact Nat.le_trans (Nat.le_of_lt (by assumption)) (by decide) | (first | lia | omega)), f _ (by first | decide | assumption | with_reducible exact Int.natCast_nonneg _ | with_reducible exact Nat.le_trans (by assumption) (by decide) | with_reducible exact Nat.lt_of_lt_of_le (by assumption) (by decide) | with_reducible exact lt_mil (Nat.lt_of_lt_of_le (by assumption) (by decide)) | with_reducible exact lt_mil (Nat.lt_of_le_of_lt (by assumption) (by decide)) | with_reducible exact Nat.le_trans (Nat.le_of_lt (by assumption)) (by decide) | (first | lia | omega)) (by first | decide | assumption | with_reducible exact Int.natCast_nonneg _ | with_reducible exact Nat.le_trans (by assumption) (by decide) | with_reducible exact Nat.lt_of_lt_of_le (by assumption) (by decide) | with_reducible exact lt_mil (Nat.lt_of_lt_of_le (by assumption) (by decide)) | with_reducible exact lt_mil (Nat.lt_of_le_of_lt (by assumption) (by decide)) | with_reducible exact Nat.le_trans (Nat.le_of_lt (by assumption)) (by decide) | (first | lia | omega))]
  simp only [Bool.and_true, Bool.true_and]
  rcases hc with rfl | rfl
  · rw [if_pos (by decide), f _ (by first | decide | assumption | with_reducible exact Int.natCast_nonneg _ | with_reducible exact Nat.le_trans (by assumption) (by decide) | with_reducible exact Nat.lt_of_lt_of_le (by assumption) (by decide) | with_reducible exact lt_mil (Nat.lt_of_lt_of_le (by assumption) (by decide)) | with_reducible exact lt_mil (Nat.lt_of_le_of_lt (by assumption) (by decide)) | with_reducible exact Nat.le_trans (Nat.le_of_lt (by assumption)) (by decide) | (first | lia | omega)) (by first | decide | assumption | with_reducible exact Int.natCast_nonneg _ | with_reducible exact Nat.le_trans (by assumption) (by decide) | with_reducible exact Nat.lt_of_lt_of_le (by assumption) (by decide) | with_reducible exact lt_mil (Nat.lt_of_lt_of_le (by assumption) (by decide)) | with_reducible exact lt_mil (Nat.lt_of_le_of_lt (by assumption) (by decide)) | with_reducible exact Nat.le_trans (Nat.le_of_lt (by assumption)) (by decide) | (first | lia | omega))]; simp
  · rw [if_neg (by decide), f _ (by first | decide | assumption | with_reducible exact Int.natCast_nonneg _ | with_reducible exact Nat.le_trans (by assumption) (by decide) | with_reducible exact Nat.lt_of_lt_of_le (by assumption) (by decide) | with_reducible exact lt_mil (Nat.lt_of_lt_of_le (by assumption) (by decide)) | with_reducible exact lt_mil (Nat.lt_of_le_of_lt (by assumption) (by decide)) | with_reducible exact Nat.le_trans (Nat.le_of_lt (by assumption)) (by decide) | (first | lia | omega)) (by first | decide | assumption | with_reducible exact Int.natCast_nonneg _ | with_reducible exact Nat.le_trans (by assumption) (by decide) | with_reducible exact Nat.lt_of_lt_of_le (by assumption) (by decide) | with_reducible exact lt_mil (Nat.lt_of_lt_of_le (by assumption) (by decide)) | with_reducible exact lt_mil (Nat.lt_of_le_of_lt (by assumption) (by decide)) | with_reducible exact Nat.le_trans (Nat.le_of_lt (by assumption)) (by decide) | (first | lia | omega))]; simp

theorem evi_range1 {fe e : Expr} {pos : Pos} {n : Int} (hf : EvB F Γ fe (.val (.type "range"))) (x : EvE F Γ e (.int n)) (hz : -1000000 ≤ n ∧ n ≤ 1000000)
    (hs : ∀ env, starEach [e] env = (false, eval e env) :: starEach [] env := by intro _; rfl)
    (harm : ∀ env, eval (.Call fe [e] [] pos) env = (do callWith pos (← eval fe env) [] (backTo pos (starEach [e] env)) (backToKw pos (keywordEach [] env))) := by intro _; rfl) :
    EvI F Γ (.Call fe [e] [] pos) ((List.range n.toNat).map fun i : Nat => .int (i : Int)) := by
  have h := evi_of_range (F := F) (Γ := Γ) (pos := pos) (es := [e]) (args := [.dat (.int n)]) (a := 0) (b := n) (c := 1) (n := n.toNat) hf (evl_cons x evl_nil hs) ?_ (range_small (by first | decide | assumption | with_reducible exact Int.natCast_nonneg _ | with_reducible exact Nat.le_trans (by assumption) (by decide) | with_reducible exact Nat.lt_of_lt_of_le (by assumption) (by decide) | with_reducible exact lt_mil (Nat.lt_of_lt_of_le (by assumption) (by decide)) | with_reducible exact lt_mil (Nat.lt_of_le_of_lt (by assumption) (by decide)) | with_reducible exact Nat.le_trans (Nat.le_of_lt (by assumption)) (by decide) | (first | lia | omega)) hz (.inl rfl)) ?_ (fun env => by rw [hs]; rfl) harm
  · simpa using h
  · intro W s vs ok S r
    cases r with
    | cons r q =>
      cases q
      cases r
      exact call_range_1 ⟨⟨_, _, rfl, fun _ _ e => Heap.get?_push_of_some _ e⟩, _, _, _, rfl, Heap.get?_push_size _ rfl⟩
  · unfold Builtin.Range.rangeSize
    simp only [show (1 : Int) > 0 by decide, if_true, Int.ediv_one]
    split <;> (first | lia | omega)
theorem evi_rangeDown {fe e₁ e₂ e₃ : Expr} {pos : Pos} {n : Int} (hf : EvB F Γ fe (.val (.type "range"))) (x : EvE F Γ e₁ (.int (n - 1))) (y : EvE F Γ e₂ (.int (-1))) (z : EvE F Γ e₃ (.int (-1))) (hz : -1000 ≤ n ∧ n ≤ 1000000)
    (hs₁ : ∀ env, starEach [e₁, e₂, e₃] env = (false, eval e₁ env) :: starEach [e₂, e₃] env := by intro _; rfl) (hs₂ : ∀ env, starEach [e₂, e₃] env = (false, eval e₂ env) :: starEach [e₃] env := by intro _; rfl)
    (hs₃ : ∀ env, starEach [e₃] env = (false, eval e₃ env) :: starEach [] env := by intro _; rfl)
    (harm : ∀ env, eval (.Call fe [e₁, e₂, e₃] [] pos) env = (do callWith pos (← eval fe env) [] (backTo pos (starEach [e₁, e₂, e₃] env)) (backToKw pos (keywordEach [] env))) := by intro _; rfl) :
    EvI F Γ (.Call fe [e₁, e₂, e₃] [] pos) ((List.range n.toNat).reverse.map fun i : Nat => .int (i : Int)) := by
  have h := evi_of_range (F := F) (Γ := Γ) (pos := pos) (es := [e₁, e₂, e₃]) (args := [.dat (.int (n - 1)), .dat (.int (-1)), .dat (.int (-1))]) (a := n - 1) (b := -1) (c := -1) (n := n.toNat) hf (evl_cons x (evl_cons y (evl_cons z evl_nil hs₃) hs₂) hs₁) ?_ (range_small (by first | decide | assumption | with_reducible exact Int.natCast_nonneg _ | with_reducible exact Nat.le_trans (by assumption) (by decide) | with_reducible exact Nat.lt_of_lt_of_le (by assumption) (by decide) | with_reducible exact lt_mil (Nat.lt_of_lt_of_le (by assumption) (by decide)) | with_reducible exact lt_mil (Nat.lt_of_le_of_lt (by assumption) (by decide)) | with_reducible exact Nat.le_trans (Nat.le_of_lt (by assumption)) (by decide) | (first | lia | omega)) (by first | decide | assumption | with_reducible exact Int.natCast_nonneg _ | with_reducible exact Nat.le_trans (by assumption) (by decide) | with_reducible exact Nat.lt_of_lt_of_le (by assumption) (by decide) | with_reducible exact lt_mil (Nat.lt_of_lt_of_le (by assumption) (by decide)) | with_reducible exact lt_mil (Nat.lt_of_le_of_lt (by assumption) (by decide)) | with_reducible exact Nat.le_trans (Nat.le_of_lt (by assumption)) (by decide) | (first | lia | omega)) (.inr rfl)) ?_ (fun env => by rw [hs₁, hs₂, hs₃]; rfl) harm
  · have e : (List.range n.toNat).reverse.map (fun i : Nat => PyData.int (i : Int)) = (List.range n.toNat).map fun i : Nat => PyData.int (n - 1 + (i : Int) * -1) := by
      rw [← krv_range, List.map_map]
      apply List.map_congr_left
      intro i hi
      have := List.mem_range.mp hi
      simp only [Function.comp]
      congr 1; (first | lia | omega)
    rw [e]; exact h
  · intro W s vs ok S r
    cases r with
    | cons r q =>
      cases q with
      | cons r2 q =>
        cases q with
        | cons r3 q =>
          cases q
          cases r; cases r2; cases r3
          exact call_range_3 (by decide) ⟨⟨_, _, rfl, fun _ _ e => Heap.get?_push_of_some _ e⟩, _, _, _, rfl, Heap.get?_push_size _ rfl⟩ (.inl (PyProof.noPylong_small (by first | decide | assumption | with_reducible exact Int.natCast_nonneg _ | with_reducible exact Nat.le_trans (by assumption) (by decide) | with_reducible exact Nat.lt_of_lt_of_le (by assumption) (by decide) | with_reducible exact lt_mil (Nat.lt_of_lt_of_le (by assumption) (by decide)) | with_reducible exact lt_mil (Nat.lt_of_le_of_lt (by assumption) (by decide)) | with_reducible exact Nat.le_trans (Nat.le_of_lt (by assumption)) (by decide) | (first | lia | omega))))
  · unfold Builtin.Range.rangeSize
    simp only [show ¬ (-1 : Int) > 0 by decide, if_false, show (- -1 : Int) = 1 by decide, Int.ediv_one]
    split <;> (first | lia | omega)
/-! ### Targets -/
/-- an assignment of an item to a target -/
abbrev Asg (F : Fm) (Γ : List (Str × Bd)) (own : Own) (target : Expr) (d : PyData) (Γ' : List (Str × Bd)) : Prop := Wrap (∀ W O, F.Ok W O → ∀ h0, Gd F O h0 → ∀ l s v, OpS F W h0 Γ own l s → Rep (wid W l own) s.heap v d →
  wpAny (model F.prog F.w) F.A (assign target F.env v) (fun _ s' => Same s s' ∧ OpS F W h0 Γ' own l s') (fun _ _ => False) s)
theorem asg_name {x : Str} {pos : Pos} {d : PyData} (hk : Sto F x) (hx : ∀ y ds, own = some (y, ds) → y ≠ x) (hΓ : ∀ q ∈ Γ', q = (x, .dat d) ∨ (q ∈ Γ ∧ q.1 ≠ x)) : Asg F Γ own (.Name x pos) d Γ' := .mk fun W O ok h0 gd l s v p r =>
  wpAny_assign_Name (p.store ok gd (b := .dat d) r hk hx hΓ fun s' sm q => ⟨sm, q⟩)

/-- the targets of a row, one after the other -/
abbrev AsgAll (F : Fm) (Γ : List (Str × Bd)) (own : Own) (ts : List Expr) (ds : List PyData) (Γ' : List (Str × Bd)) : Prop := Wrap (∀ W O, F.Ok W O → ∀ h0, Gd F O h0 → ∀ l s vs, OpS F W h0 Γ own l s → RepAll (wid W l own) s.heap vs ds →
  wpAny (model F.prog F.w) F.A (assignInOrder ((assignEach ts F.env).map (·.2)) vs) (fun _ s' => Same s s' ∧ OpS F W h0 Γ' own l s') (fun _ _ => False) s)
theorem asgAll_nil : AsgAll F Γ own [] [] Γ := .mk fun W O ok h0 gd l s vs p r => by
  cases r
  exact wpAny_pure ⟨same_refl s, p⟩
theorem asgAll_cons {x : Str} {pos : Pos} {ts : List Expr} {d : PyData} {ds : List PyData} {Γ₁ : List (Str × Bd)} (a : Asg F Γ own (.Name x pos) d Γ₁) (b : AsgAll F Γ₁ own ts ds Γ') : AsgAll F Γ own (.Name x pos :: ts) (d :: ds) Γ' := .mk fun W O ok h0 gd l s vs p r => by
  cases r with
  | cons r q =>
    rename_i v vs
    show wpAny _ _ (do holding vs (assign (.Name x pos) F.env v); assignInOrder ((assignEach ts F.env).map (·.2)) vs) _ _ s
    -- everything but the frame's own is kept by the store
    classical
    have ok' := p.ok ok gd
    let h1 : Gh := fun b => if O b then none else if (own.isSome = true ∧ b = l) then none else s.heap.get? b
    have gd1 : Gd F O h1 := ⟨fun b o e => by
      have n1 : ¬ O b := fun h => by rw [ok.Og b h] at e; cases e
      have n2 : ¬ (own.isSome = true ∧ b = l) := fun h => by
        cases own with
        | none => simp at h
        | some y => rw [h.2, ok'.Og l (.inr rfl)] at e; cases e
      show (if O b then none else if (own.isSome = true ∧ b = l) then none else s.heap.get? b) = some o
      rw [if_neg n1, if_neg n2]; exact p.pre.st.g b o e, fun b h => by show (if O b then none else _) = none; rw [if_pos h]⟩
    have p1 : OpS F W h1 Γ own l s := ⟨fun b o e => by
        have e : (if O b then none else if (own.isSome = true ∧ b = l) then none else s.heap.get? b) = some o := e
        by_cases q1 : O b
        · rw [if_pos q1] at e; cases e
        · by_cases q2 : (own.isSome = true ∧ b = l)
          · rw [if_neg q1, if_pos q2] at e; cases e
          · rw [if_neg q1, if_neg q2] at e; exact e, p.pre, fun y ds' e => by
        obtain ⟨a1, a2, a3, a4⟩ := p.own y ds' e
        refine ⟨?_, a2, a3, a4⟩
        subst e
        show (if O l then none else if ((some (y, ds')).isSome = true ∧ l = l) then none else s.heap.get? l) = none
        split
        · rfl
        · rw [if_pos ⟨rfl, rfl⟩]⟩
    refine wpAny_bind (wpAny_holding (wpAny_mono (a.run W O ok h1 gd1 l s v p1 r) (fun _ s₁ hh₀ => ?_) fun _ _ f => f))
    obtain ⟨sm₁, p₁⟩ := hh₀
    have back : OpS F W h0 Γ₁ own l s₁ := ⟨fun b o e => p₁.g b o (by
        have n1 : ¬ O b := fun h => by rw [gd.O b h] at e; cases e
        have n2 : ¬ (own.isSome = true ∧ b = l) := fun h => by
          cases hown : own with
          | none => rw [hown] at h; simp at h
          | some y =>
            obtain ⟨a1, _⟩ := p.own y.1 y.2 (by rw [hown])
            rw [h.2, a1] at e; cases e
        show (if O b then none else if (own.isSome = true ∧ b = l) then none else s.heap.get? b) = some o
        rw [if_neg n1, if_neg n2]; exact p.g b o e), p₁.pre, fun y ds' e => by
          obtain ⟨a1, a2, a3, a4⟩ := p₁.own y ds' e
          exact ⟨(p.own y ds' e).nh, a2, a3, a4⟩⟩
    have q₁ : RepAll (wid W l own) s₁.heap vs _ := q.gen (fun _ w => .inl w) fun b o hb e => p₁.g b o (by
      have n1 : ¬ O b := fun h => hb (wid_le _ (ok.OW b h))
      have n2 : ¬ (own.isSome = true ∧ b = l) := fun h => hb (by
        cases own with
        | none => simp at h
        | some y => exact .inr h.2)
      show (if O b then none else if (own.isSome = true ∧ b = l) then none else s.heap.get? b) = some o
      rw [if_neg n1, if_neg n2]; exact e)
    exact wpAny_mono (b.run W O ok h0 gd l s₁ vs back q₁) (fun _ s₂ ⟨sm₂, p₂⟩ => ⟨same_trans sm₁ sm₂, p₂⟩) fun _ _ f => f

theorem draw_walks {prog : Program} {w : World} {A : Around} {E : Value → Shared → Prop} {I : Addr} {fp wr : List Addr} {n : Nat} {P : Nat → Value → Prop} {St : Nat → Heap → Prop} (Wk : Walks prog w A I fp wr n P St) : ∀ (k i : Nat) (s : Shared) (Q : List Value → Shared → Prop), i + k ≤ n → St i s.heap →
    (∀ vs h' tk, vs.length = k → (∀ j v, vs[j]? = some v → P (i + j) v) → St (i + k) h' → (∀ b o, b ∉ wr → s.heap.get? b = some o → h'.get? b = some o) → Q vs { s with heap := h', toks := tk }) → wpAny (model prog w) A (draw (.ref I) k) Q E s
  | 0, i, s, Q, _, hst, hQ => by
    show wpAny _ _ (pure []) Q E s
    exact wpAny_pure (hQ [] s.heap s.toks rfl (by simp) hst fun _ _ _ e => e)
  | k + 1, i, s, Q, hle, hst, hQ => by
    show wpAny _ _ (pyNext (.ref I) >>= _) Q E s
    refine wpAny_bind (Wk.item i s _ _ (by first | decide | assumption | with_reducible exact Int.natCast_nonneg _ | with_reducible exact Nat.le_trans (by assumption) (by decide) | with_reducible exact Nat.lt_of_lt_of_le (by assumption) (by decide) | with_reducible exact lt_mil (Nat.lt_of_lt_of_le (by assumption) (by decide)) | with_reducible exact lt_mil (Nat.lt_of_le_of_lt (by assumption) (by decide)) | with_reducible exact Nat.le_trans (Nat.le_of_lt (by assumption)) (by decide) | (first | lia | omega)) hst fun v h₁ tk₁ hP hst₁ hk₁ => ?_)
    refine wpAny_bind (wpAny_holding (draw_walks Wk k (i + 1) _ _ (by first | decide | assumption | with_reducible exact Int.natCast_nonneg _ | with_reducible exact Nat.le_trans (by assumption) (by decide) | with_reducible exact Nat.lt_of_lt_of_le (by assumption) (by decide) | with_reducible exact lt_mil (Nat.lt_of_lt_of_le (by assumption) (by decide)) | with_reducible exact lt_mil (Nat.lt_of_le_of_lt (by assumption) (by decide)) | with_reducible exact Nat.le_trans (Nat.le_of_lt (by assumption)) (by decide) | (first | lia | omega)) hst₁ fun vs h₂ tk₂ hl hPs hst₂ hk₂ => wpAny_pure ?_))
    refine hQ (v :: vs) h₂ tk₂ (by simp [hl]) (fun j u hj => ?_) (by rw [show i + (k + 1) = i + 1 + k by (first | lia | omega)]; exact hst₂) fun b o hb e => hk₂ b o hb (hk₁ b o hb e)
    cases j with
    | zero => simp at hj; subst hj; exact hP
    | succ j => simp at hj; have := hPs j u hj; rw [show i + (j + 1) = i + 1 + j by (first | lia | omega)]; exact this

theorem noStars : ∀ {ts : List Expr} {env : Env}, (∀ t ∈ ts, ∃ x pos, t = .Name x pos) → ((assignEach ts env).length = ts.length ∧ (assignEach ts env).findIdx? (·.1) = none)
  | [], env, _ => ⟨rfl, rfl⟩
  | t :: ts, env, h => by
    obtain ⟨x, pos, rfl⟩ := h t (.head _)
    obtain ⟨h1, h2⟩ := noStars (env := env) fun t ht => h t (.tail _ ht)
    have e : assignEach (.Name x pos :: ts) env = (false, assign (.Name x pos) env) :: assignEach ts env := rfl
    rw [e]
    refine ⟨by simp [h1], ?_⟩
    rw [List.findIdx?_cons]; simp [h2]

/-- a row of names takes a list apart -/
theorem asg_tuple {ts : List Expr} {k : Nat} {pos : Pos} {ds : List PyData} (hn : ∀ t ∈ ts, ∃ x pos, t = .Name x pos) (hl : ts.length = ds.length) (a : AsgAll F Γ own ts ds Γ') : Asg F Γ own (.Tuple ts k pos) (.list ds) Γ' := .mk fun W O ok h0 gd l s v p r => by
  cases r with
  | list hW hlst0 r =>
    rename_i a' vs
    have hlst := hlst0.1
    obtain ⟨h1, h2⟩ := noStars (env := F.env) hn
    have hlen := r.length
    have hne : a' ≠ s.heap.objs.size := by obtain ⟨o, ho, _⟩ := hlst; exact Nat.ne_of_lt (Heap.lt_size ho)
    rw [arm_assign_Tuple]
    refine wpAny_bind (wpAny_standAt ?_)
    unfold unpack
    rw [h2, h1]
    refine wpAny_bind (wpAny_holding ?_)
    unfold unpackItems
    refine wpAny_bind ?_
    unfold notIterableAtAll
    refine wpAny_bind (wpAny_specialOf hlst.typeIs slot_list_iter.lookup ?_)
    refine wpAny_pure ?_
    simp only [Bool.false_eq_true, if_false]
    refine wpAny_bind (wpAny_holding (wpAny_pyIter_list hlst ?_))
    have Wk := Walks.list (prog := F.prog) (w := F.w) ok.cx.hh s.heap.objs.size a' hne vs.toArray
    have hsz : vs.toArray.size = ts.length := by simp [hlen, hl]
    rw [hsz] at Wk
    refine wpAny_bind (wpAny_holding (draw_walks Wk ts.length 0 _ _ (by first | decide | assumption | with_reducible exact Int.natCast_nonneg _ | with_reducible exact Nat.le_trans (by assumption) (by decide) | with_reducible exact Nat.lt_of_lt_of_le (by assumption) (by decide) | with_reducible exact lt_mil (Nat.lt_of_lt_of_le (by assumption) (by decide)) | with_reducible exact lt_mil (Nat.lt_of_le_of_lt (by assumption) (by decide)) | with_reducible exact Nat.le_trans (Nat.le_of_lt (by assumption)) (by decide) | (first | lia | omega)) ⟨⟨_, Heap.get?_push_size _ rfl, rfl, rfl⟩, hlst.push _⟩ fun us h₁ tk₁ hul hPs hst₁ hk₁ => ?_))
    have eus : us = vs := by
      apply List.ext_getElem?
      intro j
      rcases Nat.lt_or_ge j us.length with q | q
      · have := hPs j us[j] (by simp [q])
        simp at this
        rw [List.getElem?_eq_getElem q, ← this]
      · rw [List.getElem?_eq_none q, List.getElem?_eq_none (by first | decide | assumption | with_reducible exact Int.natCast_nonneg _ | with_reducible exact Nat.le_trans (by assumption) (by decide) | with_reducible exact Nat.lt_of_lt_of_le (by assumption) (by decide) | with_reducible exact lt_mil (Nat.lt_of_lt_of_le (by assumption) (by decide)) | with_reducible exact lt_mil (Nat.lt_of_le_of_lt (by assumption) (by decide)) | with_reducible exact Nat.le_trans (Nat.le_of_lt (by assumption)) (by decide) | (first | lia | omega))]
    subst eus
    rw [if_neg (by first | decide | assumption | with_reducible exact Int.natCast_nonneg _ | with_reducible exact Nat.le_trans (by assumption) (by decide) | with_reducible exact Nat.lt_of_lt_of_le (by assumption) (by decide) | with_reducible exact lt_mil (Nat.lt_of_lt_of_le (by assumption) (by decide)) | with_reducible exact lt_mil (Nat.lt_of_le_of_lt (by assumption) (by decide)) | with_reducible exact Nat.le_trans (Nat.le_of_lt (by assumption)) (by decide) | (first | lia | omega))]
    refine wpAny_bind (wpAny_holding (Wk.done _ _ _ (by simpa using hst₁) fun h₂ tk₂ hk₂ => ?_))
    simp only [Option.isSome_none, Bool.false_eq_true, if_false]
    refine wpAny_pure ?_
    have hk : KeepAll s.heap h₂ := fun b o e => by
      have hb : b ≠ s.heap.objs.size := Nat.ne_of_lt (Heap.lt_size e)
      exact hk₂ b o (by simpa using hb) (hk₁ b o (by simpa using hb) (Heap.get?_push_of_some _ e))
    have kk : Keeps s { s with heap := h₂, toks := tk₂ } := ⟨h₂, tk₂, rfl, hk⟩
    exact wpAny_mono (a.run W O ok h0 gd l _ us (p.keeps kk) (r.keeps hk)) (fun _ s' ⟨sm, q⟩ => ⟨same_trans (same_keeps kk) sm, q⟩) fun _ _ f => f
end
end Mine

namespace Mine
open PySem PySem.W PyProof.Rows PySem.Calls

section
variable {F : Fm} {Γ Γ' : List (Str × Bd)} {own : Own} {out : Out} {W O : Addr → Prop} {h0 : Gh} {l : Addr} {s : Shared}

theorem bRep_but {W : Addr → Prop} {h h' : Heap} {I : Addr} {v : Value} {b : Bd} (x : BRep W h v b) (hI : W I) (hk : ∀ b o, b ≠ I → h.get? b = some o → h'.get? b = some o) (hnl : ∀ xs, ¬ h.IsList I xs) : BRep W h' v b := by
  cases b with
  | dat d => exact Rep.gen (fun _ w => .inl w) (fun b o hb e => hk b o (fun q => hb (q ▸ hI)) e) x
  | lst ds =>
    obtain ⟨l, vs, e, hl, r⟩ := x
    have hlI : l ≠ I := fun q => hnl _ (q ▸ hl)
    exact ⟨l, vs, e, isList_keeps hl fun o => hk l o hlI, r.gen (fun _ w => .inl w) fun b o hb e => hk b o (fun q => hb (q ▸ hI)) e⟩
  | val u => exact x
theorem varAt_but {env : Env} {h h' : Heap} {I : Addr} {x : Str} {v : Value} (a : VarAt env h x v) (hk : ∀ b o, b ≠ I → h.get? b = some o → h'.get? b = some o) (hL : I ≠ env.locals) (hc : ∀ y c, env.cells.lookup y = some c → I ≠ c) : VarAt env h' x v := by
  cases a with
  | loc d1 d2 d3 => exact .loc d1 (d2.at' fun o e => hk _ o (Ne.symm hL) e) d3
  | cell d1 d2 d3 => obtain ⟨o, ho, hd⟩ := d3; exact .cell d1 d2 ⟨o, hk _ o (Ne.symm (hc _ _ d2)) ho, hd⟩
  | free d1 d2 d3 d4 => obtain ⟨o, ho, hd⟩ := d4; exact .free d1 d2 d3 ⟨o, hk _ o (Ne.symm (hc _ _ d3)) ho, hd⟩

/-- one object that nothing known reaches has changed -/
theorem OpS.but (p : OpS F W h0 Γ own l s) {I : Addr} {h' : Heap} {tk : Nat} (hI : W I) (hh : h0 I = none) (hk : ∀ b o, b ≠ I → s.heap.get? b = some o → h'.get? b = some o) (hex : ∃ o, h'.get? I = some o)
    (hnl : ∀ xs, ¬ s.heap.IsList I xs) (hL : I ≠ F.env.locals) (hc : ∀ y c, F.env.cells.lookup y = some c → I ≠ c) (hg : F.g I = none) : OpS F W h0 Γ own l { s with heap := h', toks := tk } := by
  refine ⟨fun b o e => hk b o (fun q => by rw [q, hh] at e; cases e) (p.g b o e), ⟨⟨fun b o e => hk b o (fun q => by rw [q, hg] at e; cases e) (p.pre.st.g b o e), fun b w => ?_⟩, fun q hq => ?_, ?_, fun y c e => ?_⟩, fun y ds e => ?_⟩
  · by_cases q : b = I
    · exact q ▸ hex
    · obtain ⟨o, ho⟩ := p.pre.st.W b w; exact ⟨o, hk b o q ho⟩
  · obtain ⟨v, a, b⟩ := p.pre.vars q hq
    exact ⟨v, varAt_but a hk hL hc, bRep_but b (wid_le _ hI) hk hnl⟩
  · obtain ⟨m, hm⟩ := p.pre.ns
    exact ⟨m, hm.at' fun o e => hk _ o (Ne.symm hL) e⟩
  · obtain ⟨v, o, ho, hd⟩ := p.pre.cells y c e
    exact ⟨v, o, hk _ o (Ne.symm (hc _ _ e)) ho, hd⟩
  · obtain ⟨a1, a2, a3, vs, n, a4, a5⟩ := p.own y ds e
    have hlI : l ≠ I := fun q => a2 (q ▸ hI)
    exact ⟨a1, a2, varAt_but a3 hk hL hc, vs, n, hk _ _ hlI a4, a5.gen (fun _ w => .inl w) fun b o hb e => hk b o (fun q => hb (.inl (q ▸ hI))) e⟩

/-- all that the frame does not own, as it lies -/
noncomputable def ghostOff (O : Addr → Prop) (own : Own) (l : Addr) (h : Heap) : Gh := open Classical in fun b => if O b ∨ (own.isSome = true ∧ b = l) then none else h.get? b
theorem ghostOff_in {h : Heap} {b : Addr} (hO : ¬ O b) (hl : own.isSome = true → b ≠ l) : ghostOff O own l h b = h.get? b := by
  unfold ghostOff
  rw [if_neg]
  rintro (q | ⟨q1, q2⟩)
  · exact hO q
  · exact hl q1 q2
theorem ghostOff_some {h : Heap} {b : Addr} {o : Obj} (e : ghostOff O own l h b = some o) : ¬ O b ∧ (own.isSome = true → b ≠ l) ∧ h.get? b = some o := by
  unfold ghostOff at e
  by_cases q : O b ∨ (own.isSome = true ∧ b = l)
  · rw [if_pos q] at e; cases e
  · rw [if_neg q] at e
    exact ⟨fun h => q (.inl h), fun h1 h2 => q (.inr ⟨h1, h2⟩), e⟩
theorem ghostOff_own {h : Heap} (e : own.isSome = true) : ghostOff O own l h l = none := by
  unfold ghostOff; rw [if_pos (.inr ⟨e, rfl⟩)]
theorem ghostOff_gd (ok : F.Ok W O) (gd : Gd F O h0) (p : OpS F W h0 Γ own l s) : Gd F O (ghostOff O own l s.heap) := by
  refine ⟨fun b o e => ?_, fun a h => by unfold ghostOff; rw [if_pos (.inl h)]⟩
  have okl := p.ok ok gd
  rw [ghostOff_in (fun h => by rw [ok.Og b h] at e; cases e) fun h q => ?_]
  · exact p.pre.st.g b o e
  · cases hown : own with
    | none => rw [hown] at h; simp at h
    | some y => subst hown; rw [q, okl.Og l (.inr rfl)] at e; cases e
theorem OpS.reghost (p : OpS F W h0 Γ own l s) : OpS F W (ghostOff O own l s.heap) Γ own l s :=
  ⟨fun b o e => (ghostOff_some e).2.2, p.pre, fun y ds e => by
    obtain ⟨_, a2, a3, a4⟩ := p.own y ds e
    exact ⟨ghostOff_own (by rw [e]; rfl), a2, a3, a4⟩⟩

/-- a Rep that avoids the owned list still does so after a statement -/
theorem rep_next {own' : Own} {l' : Addr} {h h' : Heap} {v : Value} {d : PyData} (ok : F.Ok W O) (r : Rep (wid W l own) h v d) (g : GIn (ghostOff O own l h) h') (hl' : own'.isSome = true → ghostOff O own l h l' = none) : Rep (wid W l' own') h' v d := by
  have inn : ∀ b, ¬ wid W l own b → ghostOff O own l h b = h.get? b := fun b hb => ghostOff_in (fun q => hb (wid_le _ (ok.OW _ q))) fun q e => hb (by
    cases own with
    | none => simp at q
    | some y => exact .inr e)
  refine r.gen (fun a w => ?_) fun b o hb e => g b o ((inn b hb).trans e)
  cases own' with
  | none => exact .inl (wid_le _ w)
  | some y =>
    rcases w with w | w
    · exact .inl (wid_le _ w)
    · subst w
      by_cases q : wid W l own a
      · exact .inl q
      · exact .inr ((inn a q).symm.trans (hl' rfl))

structure LoopI (F : Fm) (W2 O : Addr → Prop) (h0x : Gh) (P : Nat → Value → Prop) (St : Nat → Heap → Prop) (fp : List Addr) (items : List PyData) (Γ : List (Str × Bd)) (own : Own) (i : Nat) (l : Addr) (s : Shared) : Prop where
  op : OpS F W2 h0x Γ own l s
  st : St i s.heap
  fp : ∀ b ∈ fp, (∃ o, s.heap.get? b = some o) ∧ ¬ O b ∧ (own.isSome = true → b ≠ l)
  items : ∀ j v, j < items.length → P j v → ∃ d, items[j]? = some d ∧ Rep (wid W2 l own) s.heap v d

/-- a for -/
theorem ex_for {target iter : Expr} {body : List Stmt} {pos : Pos} {items : List PyData} (G Gb : Nat → List (Str × Bd)) (ow : Nat → Own) (k : Nat) (hi : EvI F (gam (G 0) (ow 0)) iter items)
    (ha : ∀ i (h : i < items.length), i ≤ k → Asg F (G i) (ow i) target items[i] (Gb i))
    (hb : ∀ i, i < items.length → i < k → ExG F (Gb i) (ow i) (execs body F.env) (.next (G (i + 1)) (ow (i + 1))))
    (hend : (k = items.length ∧ out = .next (G k) (ow k)) ∨ (k < items.length ∧ ∃ b, out = .ret b ∧ ExG F (Gb k) (ow k) (execs body F.env) (.ret b)))
    (hs : ∀ x, foldedSetIterable iter F.env x = pure x := by intro _; rfl) : ExG F (G 0) (ow 0) (exec (.For target iter body [] pos) F.env) out := .mk fun W O ok h0 gd s ⟨l, p⟩ => by
  refine wpAny_For ?_ hs
  have okl := p.ok ok gd
  refine wpAny_mono (hi.run _ _ okl s p.gam) (fun x s₁ hh₀ => ?_) fun _ _ f => f.elim
  obtain ⟨k₁, hit⟩ := hh₀
  refine wpAny_mono hit (fun it s₂ hh₀ => ?_) fun _ _ f => f.elim
  obtain ⟨k₂, I, fp, wr, P, St, e, Wk, hst, hwr, hfp, hP, hT, hwI, hIw⟩ := hh₀
  subst e
  have p₁ := p.keeps k₁
  have hIfp : I ∈ fp := Wk.sub I hIw
  have hIW : ¬ wid W l (ow 0) I := (hfp I hIfp).1
  have hI1 : s₁.heap.get? I = none := hwr I hIw
  have k12 := keeps_trans k₁ k₂
  have p₂ := p.keeps k12
  have okI : F.Ok (fun a => W a ∨ a = I) O := ⟨ok.cx, ok.kind, ok.eg, ok.eb, ok.loc, fun a h => .inl (ok.OW a h), ok.Og, ok.cne, ok.cinj, fun x c e => .inl (ok.cW x c e), ok.cO⟩
  have hIL : I ≠ F.env.locals := fun q => hIW (wid_le _ (q ▸ ok.OW _ ok.loc))
  have hIc : ∀ y c, F.env.cells.lookup y = some c → I ≠ c := fun y c e q => hIW (wid_le _ (q ▸ ok.cW _ _ e))
  have hIg : F.g I = none := by
    cases q : F.g I with
    | none => rfl
    | some o => rw [p₁.pre.st.g _ _ q] at hI1; cases hI1
  have hIO : ¬ O I := fun h => hIW (wid_le _ (ok.OW _ h))
  obtain ⟨oI, TI, hoI, _⟩ := hT 0 _ hst
  -- the ghost of the whole loop: all that lay there but the frame's own
  let hx : Gh := fun b => if b = I then none else ghostOff O (ow 0) l s₂.heap b
  have hx_h0 : ∀ b o, h0 b = some o → hx b = some o := fun b o e => by
    have hb1 := p₁.g b o e
    have n1 : b ≠ I := fun q => by rw [q, hI1] at hb1; cases hb1
    show (if b = I then none else ghostOff O (ow 0) l s₂.heap b) = some o
    rw [if_neg n1, ghostOff_in (fun h => by rw [gd.O b h] at e; cases e) fun h q => ?_]
    · exact p₂.g b o e
    · obtain ⟨y, hy⟩ := Option.isSome_iff_exists.mp h
      have := (p.own y.1 y.2 hy).nh
      rw [q, this] at e; cases e
  have hxI : hx I = none := by show (if I = I then none else _) = none; rw [if_pos rfl]
  have gdx : Gd F O hx := ⟨fun b o e => by
    have n1 : b ≠ I := fun q => by rw [q, hIg] at e; cases e
    show (if b = I then none else ghostOff O (ow 0) l s₂.heap b) = some o
    rw [if_neg n1]; exact (ghostOff_gd ok gd p₂).g b o e, fun a h => by
    show (if a = I then none else ghostOff O (ow 0) l s₂.heap a) = none
    split
    · rfl
    · exact (ghostOff_gd ok gd p₂).O a h⟩
  have up1 : ∀ {v : Value} {d : PyData}, Rep (wid W l (ow 0)) s₁.heap v d → Rep (wid (fun a => W a ∨ a = I) l (ow 0)) s₂.heap v d := fun r => r.gen (fun a w => by
    cases hown : ow 0 with
    | none => rw [hown] at w; exact w.imp id fun q => by rw [q]; exact hI1
    | some y =>
      rw [hown] at w
      rcases w with (w | w) | w
      · exact .inl (.inl w)
      · exact .inr (by rw [w]; exact hI1)
      · exact .inl (.inr w)) fun b o _ e => keeps_heap k₂ b o e
  have up1' : ∀ {v : List Value} {d : List PyData}, RepAll (wid W l (ow 0)) s₁.heap v d → RepAll (wid (fun a => W a ∨ a = I) l (ow 0)) s₂.heap v d := fun r => r.gen (fun a w => by
    cases hown : ow 0 with
    | none => rw [hown] at w; exact w.imp id fun q => by rw [q]; exact hI1
    | some y =>
      rw [hown] at w
      rcases w with (w | w) | w
      · exact .inl (.inl w)
      · exact .inr (by rw [w]; exact hI1)
      · exact .inl (.inr w)) fun b o _ e => keeps_heap k₂ b o e
  have opx : OpS F (fun a => W a ∨ a = I) hx (G 0) (ow 0) l s₂ := by
    refine ⟨fun b o e => ?_, ⟨⟨p₂.pre.st.g, fun a w => ?_⟩, fun q hq => ?_, p₂.pre.ns, p₂.pre.cells⟩, fun y ds e => ?_⟩
    · have e : (if b = I then none else ghostOff O (ow 0) l s₂.heap b) = some o := e
      by_cases q : b = I
      · rw [if_pos q] at e; cases e
      · rw [if_neg q] at e; exact (ghostOff_some e).2.2
    · have : wid W l (ow 0) a ∨ a = I := by
        cases hown : ow 0 with
        | none => rw [hown] at w; exact w
        | some y =>
          rw [hown] at w
          rcases w with (w | w) | w
          · exact .inl (.inl w)
          · exact .inr w
          · exact .inl (.inr w)
      rcases this with w | w
      · exact p₂.pre.st.W a w
      · exact ⟨oI, w ▸ hoI⟩
    · obtain ⟨v, a, b⟩ := p₁.pre.vars q hq
      refine ⟨v, a.keeps (keeps_heap k₂), ?_⟩
      cases hb : q.2 with
      | dat d => rw [hb] at b; exact up1 b
      | lst ds => rw [hb] at b; obtain ⟨l', vs, e, hl, r⟩ := b; exact ⟨l', vs, e, isList_keeps hl (keeps_heap k₂ l'), up1' r⟩
      | val u => rw [hb] at b; exact b
    · obtain ⟨a1, a2, a3, vs, n, a4, a5⟩ := p₁.own y ds e
      refine ⟨?_, fun w => w.elim a2 fun q => ?_, a3.keeps (keeps_heap k₂), vs, n, keeps_heap k₂ _ _ a4, ?_⟩
      · show (if l = I then none else ghostOff O (ow 0) l s₂.heap l) = none
        split
        · rfl
        · exact ghostOff_own (by rw [e]; rfl)
      · rw [q, hI1] at a4; cases a4
      · have := up1' (by rw [e]; exact a5 : RepAll (wid W l (ow 0)) s₁.heap vs ds)
        rw [e] at this; exact this
  have inv0 : LoopI F (fun a => W a ∨ a = I) O hx P St fp items (G 0) (ow 0) 0 l s₂ := by
    refine ⟨opx, hst, fun b hb => ⟨(hfp b hb).2, fun h => (hfp b hb).1 (wid_le _ (ok.OW _ h)), fun h q => (hfp b hb).1 ?_⟩, fun j v hj hv => ?_⟩
    · cases hown : ow 0 with
      | none => rw [hown] at h; simp at h
      | some y => exact .inr q
    · obtain ⟨d, hd, r⟩ := hP j v hj hv
      exact ⟨d, hd, up1 r⟩
  -- what is left when the loop is over
  have leave : ∀ {i l s' h' tk}, OpS F (fun a => W a ∨ a = I) hx (G i) (ow i) l s' → (∀ b o, b ≠ I → s'.heap.get? b = some o → h'.get? b = some o) → (∀ xs, ¬ s'.heap.IsList I xs) → PreS F W h0 (G i) (ow i) { s' with heap := h', toks := tk } := fun {i l s' h' tk} q hk hnl => by
    have le : ∀ a, wid W l (ow i) a → wid (fun a => W a ∨ a = I) l (ow i) a := fun a w => by
      cases hown : ow i with
      | none => rw [hown] at w; exact .inl w
      | some y => rw [hown] at w; exact w.imp .inl id
    have WI : wid (fun a => W a ∨ a = I) l (ow i) I := wid_le _ (.inr rfl)
    refine ⟨l, fun b o e => hk b o (fun q => ?_) (q.g b o (hx_h0 b o e)), ⟨⟨fun b o e => hk b o (fun q => ?_) (q.pre.st.g b o e), fun a w => ?_⟩, fun r hr => ?_, ?_, fun y c e => ?_⟩, fun y ds e => ?_⟩
    · have := hx_h0 b o e; rw [q, hxI] at this; cases this
    · rw [q, hIg] at e; cases e
    · obtain ⟨o, ho⟩ := q.pre.st.W a (le a w)
      refine ⟨o, hk a o (fun qq => ?_) ho⟩
      subst qq
      cases hown : ow i with
      | none => rw [hown] at w; exact hIW (wid_le _ w)
      | some y =>
        rw [hown] at w
        rcases w with w | w
        · exact hIW (wid_le _ w)
        · exact (q.own y.1 y.2 (by rw [hown])).nW (.inr w.symm)
    · obtain ⟨v, a, b⟩ := q.pre.vars r hr
      exact ⟨v, varAt_but a hk hIL hIc, (bRep_but b WI hk hnl).less le⟩
    · obtain ⟨m, hm⟩ := q.pre.ns
      exact ⟨m, hm.at' fun o e => hk _ o (Ne.symm hIL) e⟩
    · obtain ⟨v, o, ho, hd⟩ := q.pre.cells y c e
      exact ⟨v, o, hk _ o (Ne.symm (hIc _ _ e)) ho, hd⟩
    · obtain ⟨a1, a2, a3, vs, n, a4, a5⟩ := q.own y ds e
      have hlI : l ≠ I := fun q => a2 (.inr q)
      refine ⟨?_, fun w => a2 (.inl w), varAt_but a3 hk hIL hIc, vs, n, hk _ _ hlI a4, a5.gen (fun a w => .inl (w.imp .inl id)) fun b o hb e => hk b o (fun q => hb (.inl (.inr q))) e⟩
      cases hh : h0 l with
      | none => rfl
      | some o => rw [hx_h0 l o hh] at a1; cases a1
  refine codeAny_forLoop_any (fun m s' => Same s s' ∧ ∃ i l, m = items.length - i ∧ i ≤ items.length ∧ i ≤ k ∧ LoopI F (fun a => W a ∨ a = I) O hx P St fp items (G i) (ow i) i l s') ?_ items.length ⟨same_keeps k12, 0, l, rfl, Nat.zero_le _, Nat.zero_le _, inv0⟩
  rintro m s' ⟨sm, i, l', rfl, hin, hik, inv⟩
  have hnl : ∀ xs, ¬ s'.heap.IsList I xs := fun xs ⟨o, ho, hc, _⟩ => by
    obtain ⟨o', T, ho', hc', _, hT'⟩ := hT i _ inv.st
    rw [ho] at ho'; cases ho'; rw [hc] at hc'; cases hc'; exact hT' rfl
  rcases Nat.lt_or_ge i items.length with hlt | hge
  · refine Wk.item i s' _ _ hlt inv.st fun v h' tk hPv hst' hk' => ?_
    have hkI : ∀ b o, b ≠ I → s'.heap.get? b = some o → h'.get? b = some o := fun b o hb e => hk' b o (fun q => hb (hwI b q)) e
    obtain ⟨oI', TI', hoI', hcI', hTI', _⟩ := hT (i + 1) _ hst'
    refine wpAny_letOwned hoI' hcI' hTI' ?_
    have op' := inv.op.but (h' := h') (tk := tk) (.inr rfl) hxI hkI ⟨_, hoI'⟩ hnl hIL hIc hIg
    obtain ⟨d, hd, rd⟩ := inv.items i v hlt hPv
    have hdi : d = items[i] := by rw [List.getElem?_eq_getElem hlt] at hd; exact (Option.some.inj hd).symm
    have wI : wid (fun a => W a ∨ a = I) l' (ow i) I := wid_le _ (.inr rfl)
    have butR : ∀ {v : Value} {d : PyData}, Rep (wid (fun a => W a ∨ a = I) l' (ow i)) s'.heap v d → Rep (wid (fun a => W a ∨ a = I) l' (ow i)) h' v d := fun r => r.gen (fun _ w => .inl w) fun b o hb e => hkI b o (fun q => hb (by rw [q]; exact wI)) e
    have rd' := butR rd
    rw [hdi] at rd'
    refine wpAny_mono ((ha i hlt hik).run _ _ okI _ (ghostOff_gd okI gdx op') l' _ v (op'.reghost (O := O)) rd') (fun _ s₃ hh₀ => ?_) fun _ _ f => f.elim
    obtain ⟨sm₃, p₃⟩ := hh₀
    -- what the target's store has kept
    have keptN : ∀ (o₃ : Own) (l₃ : Addr) (s₄ : Shared) (G₃ : List (Str × Bd)), OpS F (fun a => W a ∨ a = I) (ghostOff O (ow i) l' h') G₃ o₃ l₃ s₄ → LoopI F (fun a => W a ∨ a = I) O hx P St fp items G₃ o₃ (i + 1) l₃ s₄ := fun o₃ l₃ s₄ G₃ q => by
      have hgl : o₃.isSome = true → ghostOff O (ow i) l' h' l₃ = none := fun h => by
        obtain ⟨y, hy⟩ := Option.isSome_iff_exists.mp h
        exact (q.own y.1 y.2 hy).nh
      have fpk : ∀ b ∈ fp, ∃ o, h'.get? b = some o ∧ ghostOff O (ow i) l' h' b = some o := fun b hb => by
        obtain ⟨⟨o, ho⟩, n1, n2⟩ := inv.fp b hb
        by_cases q : b = I
        · subst q; exact ⟨oI', hoI', (ghostOff_in n1 n2).trans hoI'⟩
        · exact ⟨o, hkI b o q ho, (ghostOff_in n1 n2).trans (hkI b o q ho)⟩
      refine ⟨⟨fun b o e => ?_, q.pre, fun y ds e => ?_⟩, Wk.frame _ _ _ hst' fun b hb o e => ?_, fun b hb => ?_, fun j u hj hu => ?_⟩
      · have e1 := e
        have e : (if b = I then none else ghostOff O (ow 0) l s₂.heap b) = some o := e
        by_cases qI : b = I
        · rw [if_pos qI] at e; cases e
        · rw [if_neg qI] at e
          have g1 := ghostOff_some e
          have g2 := inv.op.g b o e1
          refine q.g b o ((ghostOff_in g1.1 fun h q2 => ?_).trans (hkI b o qI g2))
          obtain ⟨y, hy⟩ := Option.isSome_iff_exists.mp h
          have := (inv.op.own y.1 y.2 hy).nh
          rw [q2] at e1; rw [this] at e1; cases e1
      · obtain ⟨a1, a2, a3, a4⟩ := q.own y ds e
        refine ⟨?_, a2, a3, a4⟩
        cases hh : hx l₃ with
        | none => rfl
        | some o =>
          have e1 := hh
          have hh : (if l₃ = I then none else ghostOff O (ow 0) l s₂.heap l₃) = some o := hh
          by_cases qI : l₃ = I
          · rw [if_pos qI] at hh; cases hh
          · rw [if_neg qI] at hh
            have g1 := ghostOff_some hh
            have g2 := inv.op.g _ o e1
            rw [(ghostOff_in g1.1 fun h q2 => ?_).trans (hkI _ o qI g2)] at a1
            · cases a1
            · obtain ⟨y', hy'⟩ := Option.isSome_iff_exists.mp h
              have := (inv.op.own y'.1 y'.2 hy').nh
              rw [q2] at e1; rw [this] at e1; cases e1
      · obtain ⟨o', ho', hg'⟩ := fpk b hb
        rw [ho'] at e; cases e
        exact q.g b _ hg'
      · obtain ⟨o', ho', hg'⟩ := fpk b hb
        refine ⟨⟨o', q.g b _ hg'⟩, (inv.fp b hb).2.1, fun h qq => ?_⟩
        have := hgl h
        rw [← qq, hg'] at this; cases this
      · obtain ⟨d', hd', r'⟩ := inv.items j u hj hu
        exact ⟨d', hd', rep_next okI (butR r') q.g hgl⟩
    have sm3 : Same s s₃ := same_trans sm (same_trans ⟨h', tk, rfl⟩ sm₃)
    have inv3 := keptN _ _ _ _ p₃
    -- the ghost for the body
    rcases Nat.lt_or_ge i k with hlk | hgk
    · refine wpAny_mono ((hb i hlt hlk).run _ _ okI _ (ghostOff_gd okI gdx inv3.op) s₃ ⟨l', inv3.op.reghost (O := O)⟩) (fun f s₄ hh₀ => ?_) fun _ _ f => f.elim
      obtain ⟨sm₄, e, l₄, p₄⟩ := hh₀
      subst e
      refine ⟨items.length - (i + 1), by omega, same_trans sm3 sm₄, i + 1, l₄, rfl, hlt, hlk, ?_⟩
      -- from s₃ to s₄
      have hgl : (ow (i + 1)).isSome = true → ghostOff O (ow i) l' s₃.heap l₄ = none := fun h => by
        obtain ⟨y, hy⟩ := Option.isSome_iff_exists.mp h
        exact (p₄.own y.1 y.2 hy).nh
      have fpk : ∀ b ∈ fp, ∃ o, s₃.heap.get? b = some o ∧ ghostOff O (ow i) l' s₃.heap b = some o := fun b hb => by
        obtain ⟨⟨o, ho⟩, n1, n2⟩ := inv3.fp b hb
        exact ⟨o, ho, (ghostOff_in n1 n2).trans ho⟩
      have hxk : ∀ b o, hx b = some o → ghostOff O (ow i) l' s₃.heap b = some o := fun b o e => by
        refine (ghostOff_in (fun h => by rw [gdx.O b h] at e; cases e) fun h q2 => ?_).trans (inv3.op.g b o e)
        obtain ⟨y, hy⟩ := Option.isSome_iff_exists.mp h
        have := (inv3.op.own y.1 y.2 hy).nh
        rw [q2, this] at e; cases e
      refine ⟨⟨fun b o e => p₄.g b o (hxk b o e), p₄.pre, fun y ds e => ?_⟩, Wk.frame _ _ _ inv3.st fun b hb o e => ?_, fun b hb => ?_, fun j u hj hu => ?_⟩
      · obtain ⟨a1, a2, a3, a4⟩ := p₄.own y ds e
        refine ⟨?_, a2, a3, a4⟩
        cases hh : hx l₄ with
        | none => rfl
        | some o => rw [hxk _ _ hh] at a1; cases a1
      · obtain ⟨o', ho', hg'⟩ := fpk b hb
        rw [ho'] at e; cases e
        exact p₄.g b _ hg'
      · obtain ⟨o', ho', hg'⟩ := fpk b hb
        refine ⟨⟨o', p₄.g b _ hg'⟩, (inv3.fp b hb).2.1, fun h qq => ?_⟩
        have := hgl h
        rw [← qq, hg'] at this; cases this
      · obtain ⟨d', hd', r'⟩ := inv3.items j u hj hu
        exact ⟨d', hd', rep_next okI r' p₄.g hgl⟩
    · have hki : k = i := by omega
      subst hki
      rcases hend with ⟨e1, _⟩ | ⟨_, b, eo, hret⟩
      · omega
      · subst eo
        refine wpAny_mono (hret.run _ _ okI _ gdx s₃ ⟨l', inv3.op⟩) (fun f s₄ hh₀ => ?_) fun _ _ f => f.elim
        obtain ⟨sm₄, v, e, g4, r4⟩ := hh₀
        subst e
        exact ⟨same_trans sm3 sm₄, v, rfl, fun b o e => g4 b o (hx_h0 b o e), r4.less fun a w => .inl w⟩
  · have hin' : i = items.length := by omega
    subst hin'
    refine Wk.done s' _ _ inv.st fun h' tk hk' => ?_
    have hkI : ∀ b o, b ≠ I → s'.heap.get? b = some o → h'.get? b = some o := fun b o hb e => hk' b o (fun q => hb (hwI b q)) e
    refine wpAny_execs_nil ?_
    rcases hend with ⟨e1, e2⟩ | ⟨hlt, _⟩
    · subst e2
      subst e1
      exact ⟨same_trans sm ⟨h', tk, rfl⟩, rfl, leave inv.op hkI hnl⟩
    · omega
end
end Mine

namespace Mine
open PySem PySem.W PyProof.Rows PySem.Calls

section
variable {prog : Program} {w : World} {A : Around} {E : Value → Shared → Prop} {R : Result → Shared → Prop} {s : Shared}
theorem codeAny_compLoop_any {elt target iter : Expr} {ifs : List Expr} {scope : Scope} {pos : Pos} {it acc : Value} {env : Env} (I : Nat → Shared → Prop)
    (turn : ∀ n s, I n s → wpAny (model prog w) A (pyNext it) (fun r s₁ => match r with
      | none => R (.ok .next) s₁
      | some v => wpAny (model prog w) A (letOwnedTupleGo target it v) (fun _ s₁' => wpAny (model prog w) A (assign target env v) (fun _ s₂ =>
          wpAny (model prog w) A (forIn ifs true fun c r => if r = true then do let ok ← isTrue c env (eval c env); pure (ForInStep.yield ok) else pure (ForInStep.yield r)) (fun ok s₃ =>
            if ok = true then wpAny (model prog w) A (eval elt env) (fun x s₄ =>
              wpAny (model prog w) A (call (.builtin "list.append") [acc, x]) (fun _ s₅ => ∃ m, m < n ∧ I m s₅) (notedBy (model prog w) A env fun e s' => R (.error e) s') s₄) (notedBy (model prog w) A env fun e s' => R (.error e) s') s₃
            else ∃ m, m < n ∧ I m s₃) (notedBy (model prog w) A env fun e s' => R (.error e) s') s₂) (notedBy (model prog w) A env fun e s' => R (.error e) s') s₁') (notedBy (model prog w) A env fun e s' => R (.error e) s') s₁) (notedBy (model prog w) A env fun e s' => R (.error e) s') s)
    (n : Nat) (h : I n s) : codeAny (model prog w) A (.compLoop (.ListComp elt [⟨target, iter, ifs, 0⟩] scope pos) 0 it acc env) R s := by
  refine codeAny_loop rfl I (fun n s hI => ?_) n h
  show wpAny _ A ((compTurn (.ListComp elt [⟨target, iter, ifs, 0⟩] scope pos) 0 it acc env).onRaise (fun x => do noteFrame x env; theTreesLotGoes x)) _ _ s
  refine wpAny_noted ?_
  rw [compTurn_list]
  refine wpAny_bind (wpAny_standAt (wpAny_bind (wpAny_mono (turn n s hI) (fun r s₁ h₁ => ?_) fun _ _ h' => h')))
  cases r with
  | none => exact wpAny_pure h₁
  | some v =>
    refine wpAny_bind (wpAny_mono h₁ (fun _ s₁' h₁' => ?_) fun _ _ h' => h')
    refine wpAny_bind (wpAny_mono h₁' (fun _ s₂ h₂ => wpAny_bind (wpAny_mono h₂ (fun ok s₃ h₃ => ?_) fun _ _ h' => h')) fun _ _ h' => h')
    cases ok with
    | false => exact wpAny_pure ⟨rfl, h₃⟩
    | true =>
      exact wpAny_bind (wpAny_bind (wpAny_mono h₃ (fun x s₄ h₄ => wpAny_bind (wpAny_mono h₄ (fun _ s₅ h₅ => wpAny_pure (wpAny_pure ⟨rfl, h₅⟩)) fun _ _ h' => h')) fun _ _ h' => h'))
end

/-- the tests of a comprehension -/
abbrev EvTs (F : Fm) (Γ : List (Str × Bd)) (ifs : List Expr) (b : Bool) : Prop := Wrap (∀ W O, F.Ok W O → ∀ s, F.Pre W Γ s →
  wpAny (model F.prog F.w) F.A (forIn ifs true fun c r => if r = true then do let ok ← isTrue c F.env (eval c F.env); pure (ForInStep.yield ok) else pure (ForInStep.yield r)) (fun r s' => Keeps s s' ∧ r = b) (fun _ _ => False) s)
theorem evts_nil {F : Fm} {Γ : List (Str × Bd)} : EvTs F Γ [] true := .mk fun _ _ _ s _ => wpAny_tests_nil ⟨keeps_refl s, rfl⟩
theorem evts_one {F : Fm} {Γ : List (Str × Bd)} {c : Expr} {b : Bool} (x : EvT F Γ c b) : EvTs F Γ [c] b := .mk fun _ _ ok s p => wpAny_tests_one (x.run _ _ ok s p)

def Fm.comp (F : Fm) (scope : Scope) (cl : List (Str × Addr)) (L : Addr) : Fm := { F with env := compEnvC scope cl L F.env, sto := false }

/-- a name that a comprehension sees from without -/
def CompSees (F : Fm) (scope : Scope) (cl : List (Str × Addr)) (x : Str) : Prop :=
  F.env.kindOf x ≠ some .local ∧ ((relabel scope F.env).names.lookup x = some .cell ∨ ((relabel scope F.env).names.lookup x = some .free ∧ (x == ("__classdict__" : Str)) = false)) ∧ cl.lookup x = F.env.cells.lookup x

theorem varAt_comp {F : Fm} {scope : Scope} {cl : List (Str × Addr)} {L : Addr} {h : Heap} {x : Str} {v : Value} (c : CompSees F scope cl x) (a : VarAt F.env h x v) : VarAt (compEnvC scope cl L F.env) h x v := by
  obtain ⟨h1, h2, h3⟩ := c
  cases a with
  | loc k => exact absurd k h1
  | cell k e i =>
    rw [← h3] at e
    rcases h2 with h2 | ⟨h2, h4⟩
    · exact .cell h2 e i
    · exact .free h2 h4 e i
  | free k k' e i =>
    rw [← h3] at e
    rcases h2 with h2 | ⟨h2, h4⟩
    · exact .cell h2 e i
    · exact .free h2 h4 e i

section
variable {F : Fm} {Γ Γc : List (Str × Bd)} {W O : Addr → Prop} {s : Shared}

structure CompI (F : Fm) (W2 : Addr → Prop) (s₁ : Shared) (I D : Addr) (St : Nat → Heap → Prop) (Γc : List (Str × Bd)) (done : List PyData) (i : Nat) (s : Shared) : Prop where
  kept : ∀ b o, b ≠ I → s₁.heap.get? b = some o → s.heap.get? b = some o
  pre : F.Pre W2 Γc s
  st : St i s.heap
  acc : ∃ vs n, s.heap.get? D = some (listOf vs.toArray n) ∧ RepAll W2 s.heap vs done
  one : ∀ xs, ¬ s.heap.IsList I xs

/-- a list comprehension, up to what is done with the list -/
theorem comp_core {elt target iter : Expr} {ifs : List Expr} {scope : Scope} {pos : Pos} {cl : List (Str × Addr)} {items : List PyData} {p : PyData → Bool} {f : PyData → PyData} {use : Option (Value → Sem Unit)} {Q : Value → Shared → Prop} {E : Value → Shared → Prop}
    (ok : F.Ok W O) (pr : F.Pre W Γ s) (hi : EvI F Γ iter items) (hz : items.length ≤ 100000)
    (hcl : closureFor scope F.env = pure cl) (hcell : (scope.names.all fun y => y.2 != .cell) = true) (hkind : scope.kind = .function) (hnames : (scope.names.all fun y => y.2 != .local || scope.names.lookup y.1 == some .local) = true)
    (hsub : ∀ y c, cl.lookup y = some c → F.env.cells.lookup y = some c) (hv : ∀ q ∈ Γc, q ∈ Γ ∧ CompSees F scope cl q.1)
    (hb : ∀ L, ∀ d ∈ items, ∃ Γd, Asg (F.comp scope cl L) Γc none target d Γd ∧ EvTs (F.comp scope cl L) Γd ifs (p d) ∧ (p d = true → EvE (F.comp scope cl L) Γd elt (f d)))
    (hs : ∀ x, foldedSetIterable iter F.env x = pure x)
    (hQ : ∀ C D s', Same s s' → KeepAll s.heap s'.heap → s.heap.get? C = none → s.heap.get? D = none → C ≠ D → (∃ m, s'.heap.Ns C m) → Rep (fun a => W a ∨ a = C) s'.heap (.ref D) (.list ((items.filter p).map f)) → compPost (model F.prog F.w) F.A E use Q (.ref D) C (.ok .next) s') :
    wpAny (model F.prog F.w) F.A (comprehension (.ListComp elt [⟨target, iter, ifs, 0⟩] scope pos) scope F.env (firstIterPos [⟨target, iter, ifs, 0⟩] pos) (newList []) false (eval iter F.env) use) Q E s := by
  have hcell' : ∀ y ∈ scope.names, y.2 ≠ .cell := fun y hy => by simpa using List.all_eq_true.mp hcell y hy
  have hnames' : ∀ y ∈ scope.names, y.2 = .local → scope.names.lookup y.1 = some .local := fun y hy e => by
    have := List.all_eq_true.mp hnames y hy
    simpa [e] using this
  refine wpAny_comprehension_free (g := ⟨target, iter, ifs, 0⟩) (gs := []) rfl hs hcl hkind hnames' ?_
  refine wpAny_mono (hi.run W O ok s pr) (fun x s₁ hh₀ => ?_) fun _ _ f => f.elim
  obtain ⟨k₁, hit⟩ := hh₀
  refine wpAny_mono hit (fun it s₂ hh₀ => ?_) fun _ _ f => f.elim
  obtain ⟨k₂, I, fp, wr, P, St, e, Wk, hst, hwr, hfp, hP, hT, hwI, hIw⟩ := hh₀
  subst e
  have k12 := keeps_trans k₁ k₂
  have p₁ := pr.keeps k₁
  have p₂ := pr.keeps k12
  have hIfp : I ∈ fp := Wk.sub I hIw
  have hIW : ¬ W I := (hfp I hIfp).1
  have hI1 : s₁.heap.get? I = none := hwr I hIw
  refine wpAny_newObj_type ?_
  generalize hH2 : s₂.heap.push { cls := .type "list", dict := none, data := .seq ([] : List Value).toArray } = H2
  have hC : H2.objs.size = s₂.heap.objs.size + 1 := by rw [← hH2, Heap.size_push]
  refine wpAny_newFunctionEnv hcell' (by intro y hy; simp at hy) (fun h₁ hns₁ hsb₁ => ?_) hkind
  dsimp only at hns₁ hsb₁ ⊢
  have hDC : s₂.heap.objs.size ≠ H2.objs.size := by rw [hC]; exact Nat.ne_of_lt (Nat.lt_succ_self _)
  have old : KeepAll s₂.heap h₁ := fun b o e => hsb₁.extBut b o (by rw [hC]; exact Nat.ne_of_lt (Nat.lt_succ_of_lt (Heap.lt_size e))) (Heap.get?_push_of_some _ (hH2 ▸ Heap.get?_push_of_some _ e))
  have hacc : h₁.get? s₂.heap.objs.size = some (listOf ([] : List Value).toArray 0) := hsb₁.extBut _ _ hDC (Heap.get?_push_of_some _ (hH2 ▸ Heap.get?_push_size _ rfl))
  have new₂ : ∀ a, s₂.heap.objs.size ≤ a → s₂.heap.get? a = none := fun a ha => by
    cases e : s₂.heap.get? a with
    | none => rfl
    | some o' => exact absurd (Heap.lt_size e) (Nat.not_lt.mpr ha)
  have hD2 : s₂.heap.get? s₂.heap.objs.size = none := get?_size _
  have hC2 : s₂.heap.get? H2.objs.size = none := new₂ _ (by rw [hC]; exact Nat.le_succ _)
  generalize s₂.heap.objs.size = D at hDC hacc hD2 ⊢
  generalize H2.objs.size = C at hns₁ hsb₁ hDC hC2 ⊢
  clear hH2 hC
  have none1 : ∀ a, s₂.heap.get? a = none → s₁.heap.get? a = none := fun a ha => by
    cases e : s₁.heap.get? a with
    | none => rfl
    | some o => rw [keeps_heap k₂ _ _ e] at ha; cases ha
  have none0 : ∀ a, s₁.heap.get? a = none → s.heap.get? a = none := fun a ha => by
    cases e : s.heap.get? a with
    | none => rfl
    | some o => rw [keeps_heap k₁ _ _ e] at ha; cases ha
  have nW : ∀ a, s₁.heap.get? a = none → ¬ W a := fun a ha w => by obtain ⟨o, ho⟩ := p₁.st.W a w; rw [ha] at ho; cases ho
  have hCI : C ≠ I := fun q => by obtain ⟨_, o, ho⟩ := hfp I hIfp; rw [q, ho] at hC2; cases hC2
  have hDI : D ≠ I := fun q => by obtain ⟨_, o, ho⟩ := hfp I hIfp; rw [q, ho] at hD2; cases hD2
  have hcells : ∀ y c, cl.lookup y = some c → ∃ o, s₁.heap.get? c = some o := fun y c e => by
    obtain ⟨v, o, ho, _⟩ := p₁.cells y c (hsub y c e); exact ⟨o, ho⟩
  -- the frame of the comprehension
  let W2 : Addr → Prop := fun a => W a ∨ (a = C ∨ a = D ∨ a = I)
  have newW2 : ∀ a, W2 a → W a ∨ s₁.heap.get? a = none := fun a w => w.imp id fun w => by
    rcases w with rfl | rfl | rfl
    · exact none1 _ hC2
    · exact none1 _ hD2
    · exact hI1
  have hgC : F.g C = none := by
    cases e : F.g C with
    | none => rfl
    | some o => rw [p₂.st.g _ _ e] at hC2; cases hC2
  have okc : (F.comp scope cl C).Ok W2 (fun a => a = C) := by
    refine ⟨ok.cx, ?_, ok.eg, ok.eb, rfl, fun a h => .inr (.inl h), fun a h => h ▸ hgC, fun y c e q => ?_, fun y z c e1 e2 => ok.cinj y z c (hsub y c e1) (hsub z c e2), fun y c e => .inl (ok.cW y c (hsub y c e)), fun h => by cases h⟩
    · show (relabel scope F.env).kind = .function
      exact hkind
    · obtain ⟨o, ho⟩ := hcells y c e
      have q : c = C := q
      rw [q, none1 _ hC2] at ho; cases ho
  have rep1 : ∀ {h : Heap} {v : Value} {d : PyData}, KeepAll s₁.heap h → Rep W s₁.heap v d → Rep W2 h v d := fun hk r => r.gen newW2 fun b o _ e => hk b o e
  have rep1' : ∀ {h : Heap} {v : List Value} {d : List PyData}, KeepAll s₁.heap h → RepAll W s₁.heap v d → RepAll W2 h v d := fun hk r => r.gen newW2 fun b o _ e => hk b o e
  have kk : KeepAll s₁.heap h₁ := (keeps_heap k₂).trans old
  obtain ⟨oI, TI, hoI, hcI, _, hTI⟩ := hT 0 _ hst
  have notL : ∀ {h : Heap} {i : Nat}, St i h → ∀ xs, ¬ h.IsList I xs := fun {h i} hs' xs ⟨o, ho, hc, _⟩ => by
    obtain ⟨o', T, ho', hc', _, hT'⟩ := hT i h hs'
    rw [ho] at ho'; cases ho'; rw [hc] at hc'; cases hc'; exact hT' rfl
  have hst₁ : St 0 h₁ := Wk.frame _ _ _ hst fun b hb o e => old b o e
  have inv0 : CompI (F.comp scope cl C) W2 s₁ I D St Γc [] 0 { s₂ with heap := h₁, toks := s₂.toks + ([] : List (Str × Value)).length } := by
    refine ⟨fun b o _ e => kk b o e, ⟨⟨fun b o e => kk b o (p₁.st.g b o e), fun a w => ?_⟩, fun q hq => ?_, ⟨_, hns₁⟩, fun y c e => ?_⟩, hst₁, ⟨[], 0, hacc, .nil⟩, notL hst₁⟩
    · rcases w with w | rfl | rfl | rfl
      · obtain ⟨o, ho⟩ := p₁.st.W a w; exact ⟨o, kk a o ho⟩
      · obtain ⟨o, _, _, ho, _⟩ := hns₁; exact ⟨o, ho⟩
      · exact ⟨_, hacc⟩
      · exact ⟨oI, old _ _ hoI⟩
    · obtain ⟨hm, hsees⟩ := hv q hq
      obtain ⟨v, a, b⟩ := p₁.vars q hm
      refine ⟨v, varAt_comp hsees (a.keeps kk), ?_⟩
      cases hb' : q.2 with
      | dat d => rw [hb'] at b; exact rep1 kk b
      | lst ds => rw [hb'] at b; obtain ⟨l', vs, e, hl, r⟩ := b; exact ⟨l', vs, e, isList_keeps hl (kk l'), rep1' kk r⟩
      | val u => rw [hb'] at b; exact b
    · obtain ⟨v, hv'⟩ := p₁.cells y c (hsub y c e)
      exact ⟨v, hv'.keeps kk⟩
  have loop : codeAny (model F.prog F.w) F.A (.compLoop (.ListComp elt [⟨target, iter, ifs, 0⟩] scope pos) 0 (.ref I) (.ref D) (F.comp scope cl C).env) (compPost (model F.prog F.w) F.A E use Q (.ref D) C) { s₂ with heap := h₁, toks := s₂.toks + ([] : List (Str × Value)).length } := by
    refine codeAny_compLoop_any (fun m s' => Same s s' ∧ ∃ i, m = items.length - i ∧ i ≤ items.length ∧ CompI (F.comp scope cl C) W2 s₁ I D St Γc (((items.take i).filter p).map f) i s') ?_ items.length ⟨same_trans (same_keeps k12) ⟨h₁, _, rfl⟩, 0, rfl, Nat.zero_le _, by simpa using inv0⟩
    rintro m s' ⟨sm, i, rfl, hin, inv⟩
    rcases Nat.lt_or_ge i items.length with hlt | hge
    · refine Wk.item i s' _ _ hlt inv.st fun v h' tk hPv hst' hk' => ?_
      have hkI : ∀ b o, b ≠ I → s'.heap.get? b = some o → h'.get? b = some o := fun b o hb e => hk' b o (fun q => hb (hwI b q)) e
      obtain ⟨oI', TI', hoI', hcI', hTI', _⟩ := hT (i + 1) _ hst'
      refine wpAny_letOwned hoI' hcI' hTI' ?_
      have IL : I ≠ (F.comp scope cl C).env.locals := Ne.symm hCI
      have Ic : ∀ y c, (F.comp scope cl C).env.cells.lookup y = some c → I ≠ c := fun y c e q => by obtain ⟨o, ho⟩ := hcells y c e; rw [← q, hI1] at ho; cases ho
      have WI : W2 I := .inr (.inr (.inr rfl))
      have hIg : F.g I = none := by
        cases q : F.g I with
        | none => rfl
        | some o => rw [p₁.st.g _ _ q] at hI1; cases hI1
      have pre' : (F.comp scope cl C).Pre W2 Γc { s' with heap := h', toks := tk } := by
        refine ⟨⟨fun b o e => hkI b o (fun q => by have e : F.g b = some o := e; rw [q, hIg] at e; cases e) (inv.pre.st.g b o e), fun b w => ?_⟩, fun q hq => ?_, ?_, fun y c e => ?_⟩
        · by_cases q : b = I
          · exact ⟨_, q ▸ hoI'⟩
          · obtain ⟨o, ho⟩ := inv.pre.st.W b w; exact ⟨o, hkI b o q ho⟩
        · obtain ⟨v, a, b⟩ := inv.pre.vars q hq
          exact ⟨v, varAt_but a hkI IL Ic, bRep_but b WI hkI inv.one⟩
        · obtain ⟨m, hm⟩ := inv.pre.ns; exact ⟨m, hm.at' fun o e => hkI _ o (Ne.symm IL) e⟩
        · obtain ⟨v, o, ho, hd⟩ := inv.pre.cells y c e
          exact ⟨v, o, hkI _ o (Ne.symm (Ic _ _ e)) ho, hd⟩
      obtain ⟨d, hd, rd⟩ := hP i v hlt hPv
      have hdi : items[i] = d := by rw [List.getElem?_eq_getElem hlt] at hd; exact Option.some.inj hd
      have rd' : Rep W2 h' v d := rd.gen newW2 fun b o hb e => hkI b o (fun q => by rw [q, hI1] at e; cases e) (inv.kept b o (fun q => by rw [q, hI1] at e; cases e) e)
      obtain ⟨Γd, a1, a2, a3⟩ := hb C d (hdi ▸ List.getElem_mem hlt)
      -- the ghost: all but the comprehension's names
      let gh : Gh := ghostOff (fun a => a = C) none 0 h'
      have ghg : Gd (F.comp scope cl C) (fun a => a = C) gh := ⟨fun b o e => by
        have hb' : b ≠ C := fun q => by
          have e : F.g b = some o := e
          rw [q, hgC] at e; cases e
        exact (ghostOff_in (O := fun a => a = C) (own := none) (l := 0) (h := h') hb' (fun h => by cases h)).trans (pre'.st.g b o e), fun a h => by show ghostOff _ _ _ _ a = none; unfold ghostOff; rw [if_pos (.inl h)]⟩
      have op' : OpS (F.comp scope cl C) W2 gh Γc none 0 { s' with heap := h', toks := tk } := ⟨fun b o e => (ghostOff_some e).2.2, pre', fun y ds e => by cases e⟩
      refine wpAny_mono (a1.run W2 _ okc gh ghg 0 _ v op' rd') (fun _ s₃ hh₀ => ?_) fun _ _ f => f.elim
      obtain ⟨sm₃, p₃⟩ := hh₀
      have kC : ∀ b o, b ≠ C → h'.get? b = some o → s₃.heap.get? b = some o := fun b o hb e => p₃.g b o ((ghostOff_in (O := fun a => a = C) (own := none) (l := 0) (h := h') hb (fun h => by cases h)).trans e)
      refine wpAny_mono (a2.run W2 _ okc s₃ p₃.pre) (fun b s₄ hh₀ => ?_) fun _ _ f => f.elim
      obtain ⟨k₄, eb⟩ := hh₀
      subst eb
      have p₄ := p₃.pre.keeps k₄
      have htake : (items.take (i + 1)) = items.take i ++ [d] := by rw [List.take_add_one, List.getElem?_eq_getElem hlt, hdi]; rfl
      obtain ⟨vs, n, hDo, hDr⟩ := inv.acc
      have accAt : ∀ {s₅ : Shared}, KeepAll s₃.heap s₅.heap → s₅.heap.get? D = some (listOf vs.toArray n) ∧ RepAll W2 s₅.heap vs (((items.take i).filter p).map f) := fun {s₅} k => by
        refine ⟨k _ _ (kC _ _ (fun q => hDC q) (hkI _ _ hDI hDo)), hDr.gen (fun _ w => .inl w) fun b o hb e => k _ _ (kC _ _ (fun q => hb (.inr (.inl q))) (hkI _ _ (fun q => hb (.inr (.inr (.inr q)))) e))⟩
      have stAt : ∀ {s₅ : Shared}, KeepAll s₃.heap s₅.heap → St (i + 1) s₅.heap := fun {s₅} k => Wk.frame _ _ _ hst' fun b hb o e => k _ _ (kC _ _ (fun q => by
        obtain ⟨nw, o', ho'⟩ := hfp b hb
        rw [q, hC2] at ho'; cases ho') e)
      have keptAt : ∀ {s₅ : Shared}, KeepAll s₃.heap s₅.heap → ∀ b o, b ≠ I → s₁.heap.get? b = some o → s₅.heap.get? b = some o := fun {s₅} k b o hb e => k _ _ (kC _ _ (fun q => by rw [q, none1 _ hC2] at e; cases e) (hkI _ _ hb (inv.kept b o hb e)))
      -- what holds of the outer names still does
      have preAt : ∀ {s₅ : Shared}, KeepAll s₃.heap s₅.heap → (F.comp scope cl C).Pre W2 Γc s₅ := fun {s₅} k => by
        refine ⟨p₃.pre.st.keeps k, fun q hq => ?_, ?_, fun y c e => ?_⟩
        · obtain ⟨hm, hsees⟩ := hv q hq
          obtain ⟨v, a, b⟩ := p₁.vars q hm
          have hk5 : ∀ b o, b ≠ I → s₁.heap.get? b = some o → s₅.heap.get? b = some o := keptAt k
          have hk5' : KeepAll s₁.heap s₅.heap := fun b o e => hk5 b o (fun q => by rw [q, hI1] at e; cases e) e
          refine ⟨v, varAt_comp hsees (a.keeps hk5'), ?_⟩
          cases hb' : q.2 with
          | dat d => rw [hb'] at b; exact rep1 hk5' b
          | lst ds => rw [hb'] at b; obtain ⟨l', vs, e, hl, r⟩ := b; exact ⟨l', vs, e, isList_keeps hl (hk5' l'), rep1' hk5' r⟩
          | val u => rw [hb'] at b; exact b
        · obtain ⟨m, hm⟩ := p₃.pre.ns; exact ⟨m, hm.keeps k⟩
        · obtain ⟨v, hv'⟩ := p₃.pre.cells y c e; exact ⟨v, hv'.keeps k⟩
      have sm4 : Same s s₄ := same_trans sm (same_trans ⟨h', tk, rfl⟩ (same_trans sm₃ (same_keeps k₄)))
      cases hpd : p d with
      | false =>
        simp only [Bool.false_eq_true, if_false]
        refine ⟨items.length - (i + 1), by omega, sm4, i + 1, rfl, hlt, keptAt (keeps_heap k₄), preAt (keeps_heap k₄), stAt (keeps_heap k₄), ⟨vs, n, ?_⟩, notL (stAt (keeps_heap k₄))⟩
        rw [htake, List.filter_append]
        simpa [hpd] using accAt (keeps_heap k₄)
      | true =>
        simp only [if_true]
        refine wpAny_mono ((a3 hpd).run W2 _ okc s₄ p₄) (fun y s₅ hh₀ => ?_) fun _ _ f => f.elim
        obtain ⟨k₅, ry⟩ := hh₀
        have k35 : KeepAll s₃.heap s₅.heap := (keeps_heap k₄).trans (keeps_heap k₅)
        obtain ⟨hD5, hR5⟩ := accAt k35
        have hlen := hR5.length
        have hszz : vs.toArray.size ≤ sizeLine := by
          have : (((items.take i).filter p).map f).length ≤ items.length := by
            rw [List.length_map]
            exact Nat.le_trans (List.length_filter_le _ _) (by rw [List.length_take]; exact Nat.min_le_right _ _)
          rw [List.size_toArray, sizeLine_eq]; omega
        refine wpAny_list_append_plain (hsz := hszz) ⟨n, hD5⟩ fun h₆ ⟨n₆, hl₆⟩ hs₆ => ?_
        have WD : W2 D := .inr (.inr (.inl rfl))
        have k6 : ∀ b o, b ≠ D → s₅.heap.get? b = some o → h₆.get? b = some o := fun b o hb e => (hs₆.2 b hb).trans e
        have hD5L : D ≠ (F.comp scope cl C).env.locals := fun q => hDC q
        have hDc : ∀ y c, (F.comp scope cl C).env.cells.lookup y = some c → D ≠ c := fun y c e q => by obtain ⟨o, ho⟩ := hcells y c e; rw [← q, none1 _ hD2] at ho; cases ho
        have p5 := preAt k35
        refine ⟨items.length - (i + 1), by omega, same_trans (same_trans sm4 (same_keeps k₅)) ⟨h₆, s₅.toks, rfl⟩, i + 1, rfl, hlt, ⟨fun b o hb e => k6 b o (fun q => by rw [q, none1 _ hD2] at e; cases e) (keptAt k35 b o hb e), ?_, ?_, ?_, ?_⟩⟩
        · refine ⟨⟨fun b o e => k6 b o (fun q => ?_) (p5.st.g b o e), fun b w => ?_⟩, fun q hq => ?_, ?_, fun y c e => ?_⟩
          · have := p₂.st.g b o e; rw [q, hD2] at this; cases this
          · by_cases q : b = D
            · exact ⟨_, q ▸ hl₆⟩
            · obtain ⟨o, ho⟩ := p5.st.W b w; exact ⟨o, k6 b o q ho⟩
          · obtain ⟨v, a, b⟩ := p5.vars q hq
            refine ⟨v, varAt_but a k6 hD5L hDc, ?_⟩
            cases hb' : q.2 with
            | dat d => rw [hb'] at b; exact Rep.gen (fun _ w => .inl w) (fun b o hb e => k6 b o (fun q => hb (q ▸ WD)) e) b
            | lst ds =>
              rw [hb'] at b
              obtain ⟨hm, _⟩ := hv q hq
              obtain ⟨v', a', b'⟩ := p₁.vars q hm
              rw [hb'] at b'
              obtain ⟨l', vs', e', hl', r'⟩ := b'
              have a5 : VarAt (compEnvC scope cl C F.env) s₅.heap q.1 v' := varAt_comp (hv q hq).2 (a'.keeps fun b o e => keptAt k35 b o (fun q => by rw [q, hI1] at e; cases e) e)
              have : v' = v := by
                cases a5 with
                | loc x1 x2 x3 =>
                  cases a with
                  | loc y1 y2 y3 => have h := x2.eq_nsMap.trans y2.eq_nsMap.symm; subst h; rw [x3] at y3; exact Option.some.inj y3
                  | cell y1 => have := x1.symm.trans y1; cases this
                  | free y1 => have := x1.symm.trans y1; cases this
                | cell x1 x2 x3 =>
                  cases a with
                  | loc y1 => have := x1.symm.trans y1; cases this
                  | cell y1 y2 y3 =>
                    obtain ⟨o1, g1, d1⟩ := x3
                    obtain ⟨o2, g2, d2⟩ := y3
                    have := x2.symm.trans y2; cases this
                    rw [g1] at g2; cases g2; rw [d1] at d2; cases d2; rfl
                  | free y1 => have := x1.symm.trans y1; cases this
                | free x1 x0 x2 x3 =>
                  cases a with
                  | loc y1 => have := x1.symm.trans y1; cases this
                  | cell y1 => have := x1.symm.trans y1; cases this
                  | free y1 y0 y2 y3 =>
                    obtain ⟨o1, g1, d1⟩ := x3
                    obtain ⟨o2, g2, d2⟩ := y3
                    have := x2.symm.trans y2; cases this
                    rw [g1] at g2; cases g2; rw [d1] at d2; cases d2; rfl
              subst this
              subst e'
              have hk6 : KeepAll s₁.heap h₆ := fun b o e => k6 b o (fun q => by rw [q, none1 _ hD2] at e; cases e) (keptAt k35 b o (fun q => by rw [q, hI1] at e; cases e) e)
              exact ⟨l', vs', rfl, isList_keeps hl' (hk6 l'), rep1' hk6 r'⟩
            | val u => rw [hb'] at b; exact b
          · obtain ⟨m, hm⟩ := p5.ns; exact ⟨m, hm.at' fun o e => k6 _ o (Ne.symm hD5L) e⟩
          · obtain ⟨v, o, ho, hd'⟩ := p5.cells y c e
            exact ⟨v, o, k6 _ o (Ne.symm (hDc _ _ e)) ho, hd'⟩
        · exact Wk.frame _ _ _ (stAt k35) fun b hb o e => k6 b o (fun q => by
            obtain ⟨nw, o', ho'⟩ := hfp b hb
            rw [q, hD2] at ho'; cases ho') e
        · refine ⟨vs ++ [y], n₆, by simpa using hl₆, ?_⟩
          have hd6 : ∀ {v : Value} {d : PyData}, Rep W2 s₅.heap v d → Rep W2 h₆ v d := fun r => r.gen (fun _ w => .inl w) fun b o hb e => k6 b o (fun q => hb (q ▸ WD)) e
          have hd6' : ∀ {v : List Value} {d : List PyData}, RepAll W2 s₅.heap v d → RepAll W2 h₆ v d := fun r => r.gen (fun _ w => .inl w) fun b o hb e => k6 b o (fun q => hb (q ▸ WD)) e
          rw [htake, List.filter_append, List.map_append]
          refine (hd6' hR5).append ?_
          simp only [List.filter_cons, hpd, if_true, List.filter_nil, List.map_cons, List.map_nil]
          exact .cons (hd6 ry) .nil
        · intro xs hx
          have h6 := Wk.frame _ _ h₆ (stAt k35) fun b hb o e => k6 b o (fun q => by
            obtain ⟨nw, o', ho'⟩ := hfp b hb
            rw [q, hD2] at ho'; cases ho') e
          exact notL h6 xs hx
    · have hin' : i = items.length := by omega
      subst hin'
      refine Wk.done s' _ _ inv.st fun h' tk hk' => ?_
      have hkI : ∀ b o, b ≠ I → s'.heap.get? b = some o → h'.get? b = some o := fun b o hb e => hk' b o (fun q => hb (hwI b q)) e
      obtain ⟨vs, n, hDo, hDr⟩ := inv.acc
      rw [List.take_length] at hDr
      refine hQ C D { s' with heap := h', toks := tk } (same_trans sm ⟨h', tk, rfl⟩) (fun b o e => hkI b o ?_ (inv.kept b o ?_ (keeps_heap k₁ b o e))) (none0 _ (none1 _ hC2)) (none0 _ (none1 _ hD2)) (Ne.symm hDC) ?_ ?_
      · intro q; rw [q, none0 _ hI1] at e; cases e
      · intro q; rw [q, none0 _ hI1] at e; cases e
      · obtain ⟨m, hm⟩ := inv.pre.ns
        exact ⟨m, hm.at' fun o e => hkI _ o hCI e⟩
      · refine .list (fun w => ?_) (.of (hkI _ _ hDI hDo)) (hDr.gen (fun a w => .inl ?_) fun b o hb e => hkI b o (fun q => hb (.inr (.inr (.inr q)))) e)
        · rcases w with w | w
          · exact nW _ (none1 _ hD2) w
          · exact hDC w
        · rcases w with w | w
          · exact .inl w
          · exact .inr (.inl w)
  exact codeAny_compStart_list loop (Wk.self 0 _ _ _ hst₁ loop)

/-- a list comprehension as an expression -/
theorem ev_comp {elt target iter : Expr} {ifs : List Expr} {scope : Scope} {pos : Pos} {cl : List (Str × Addr)} {items : List PyData} (Γc : List (Str × Bd)) (p : PyData → Bool) (f : PyData → PyData)
    (hcl : closureFor scope F.env = pure cl) (hsub : ∀ y c, cl.lookup y = some c → F.env.cells.lookup y = some c) (hi : EvI F Γ iter items) (hz : items.length ≤ 100000)
    (hv : ∀ q ∈ Γc, q ∈ Γ ∧ CompSees F scope cl q.1)
    (hb : ∀ L, ∀ d ∈ items, ∃ Γd, Asg (F.comp scope cl L) Γc none target d Γd ∧ EvTs (F.comp scope cl L) Γd ifs (p d) ∧ (p d = true → EvE (F.comp scope cl L) Γd elt (f d)))
    (hcell : (scope.names.all fun y => y.2 != .cell) = true := by decide) (hkind : scope.kind = .function := by rfl) (hnames : (scope.names.all fun y => y.2 != .local || scope.names.lookup y.1 == some .local) = true := by decide)
    (hs : ∀ x, foldedSetIterable iter F.env x = pure x := by intro _; rfl) :
    EvE F Γ (.ListComp elt [⟨target, iter, ifs, 0⟩] scope pos) (.list ((items.filter p).map f)) := .mk fun W O ok s pr => by
  rw [eval_ListComp]
  refine comp_core (use := none) ok pr hi hz hcl hcell hkind hnames hsub hv hb hs fun C D s' sm hk hC hD hCD hm r => ?_
  obtain ⟨m, hm⟩ := hm
  refine ⟨m, hm, fun h' hs' => ?_⟩
  obtain ⟨h₁, tk, rfl⟩ := sm
  exact ⟨⟨h', tk, rfl, fun b o e => (hs'.2 b (fun q => by rw [q, hC] at e; cases e)).trans (hk b o e)⟩, Rep.gen (fun a w => .inl (.inl w)) (fun b o hb e => (hs'.2 b fun q => hb (.inr q)).trans e) r⟩

/-- a frame's facts do not see a dead dict -/
theorem OpS.dead {h0 : Gh} {own : Own} {l C : Addr} {h' : Heap} {m : Str → Option Value} (p : OpS F W h0 Γ own l s) (hs : Heap.SameBut C s.heap h') (hm : s.heap.Ns C m) (h0C : h0 C = none) (hgC : F.g C = none) (hL : C ≠ F.env.locals) (hW : ¬ wid W l own C) : OpS F W h0 Γ own l { s with heap := h' } := by
  have hk : ∀ b o, b ≠ C → s.heap.get? b = some o → h'.get? b = some o := fun b o hb e => (hs.2 b hb).trans e
  have hlist : ∀ {a : Addr} {xs : Array Value}, s.heap.IsList a xs → a ≠ C := fun {a xs} ⟨o, ho, _, n, hd⟩ q => ns_isDict hm o xs n (q ▸ ho) hd
  have htup : ∀ {a : Addr} {xs : Array Value}, s.heap.IsTuple a xs → a ≠ C := fun {a xs} ⟨o, ho, _, n, hd⟩ q => ns_isDict hm o xs n (q ▸ ho) hd
  have hcell : ∀ {a : Addr} {v : Option Value}, s.heap.IsCell a v → a ≠ C := fun {a v} ⟨o, ho, hd⟩ q => by
    obtain ⟨o', es, ep, ho', hd', _⟩ := hm
    rw [q, ho'] at ho; cases ho; rw [hd'] at hd; cases hd
  have rep : ∀ {V : Addr → Prop} {v : Value} {d : PyData}, Rep V s.heap v d → Rep V h' v d := fun {V v d} r => by
    refine (Rep.gen (W := fun a => V a ∨ a = C) (fun a w => .inl (.inl w)) (fun b o hb e => hk b o (fun q => hb (.inr q)) e) ?_)
    exact Rep.rec (motive_1 := fun v d _ => Rep (fun a => V a ∨ a = C) s.heap v d) (motive_2 := fun vs ds _ => RepAll (fun a => V a ∨ a = C) s.heap vs ds) .none (fun b => .bool b) (fun i t => .int i t) (fun x t => .str x t)
      (fun hn hl _ ih => .list (fun w => w.elim hn (hlist hl.1)) hl ih) (fun hn hl _ ih => .tuple (fun w => w.elim hn (htup hl)) hl ih) .nil (fun _ _ ih1 ih2 => .cons ih1 ih2) r
  have repA : ∀ {V : Addr → Prop} {vs : List Value} {ds : List PyData}, RepAll V s.heap vs ds → RepAll V h' vs ds := fun {V vs ds} r => by
    induction vs generalizing ds with
    | nil => cases r; exact .nil
    | cons v vs ih => cases r with | cons a b => exact .cons (rep a) (ih b)
  have var : ∀ {x : Str} {v : Value}, VarAt F.env s.heap x v → VarAt F.env h' x v := fun {x v} a => by
    cases a with
    | loc d1 d2 d3 => exact .loc d1 (d2.at' fun o e => hk _ o (Ne.symm hL) e) d3
    | cell d1 d2 d3 => exact .cell d1 d2 (d3.sameBut hs (hcell d3))
    | free d1 d2 d3 d4 => exact .free d1 d2 d3 (d4.sameBut hs (hcell d4))
  refine ⟨fun b o e => hk b o (fun q => by rw [q, h0C] at e; cases e) (p.g b o e), ⟨⟨fun b o e => hk b o (fun q => by rw [q, hgC] at e; cases e) (p.pre.st.g b o e), fun b w => ?_⟩, fun q hq => ?_, ?_, fun y c e => ?_⟩, fun y ds e => ?_⟩
  · obtain ⟨o, ho⟩ := p.pre.st.W b w
    exact ⟨o, hk b o (fun q => hW (q ▸ w)) ho⟩
  · obtain ⟨v, a, b⟩ := p.pre.vars q hq
    refine ⟨v, var a, ?_⟩
    cases hb : q.2 with
    | dat d => rw [hb] at b; exact rep b
    | lst ds => rw [hb] at b; obtain ⟨l', vs, e, hl, r⟩ := b; exact ⟨l', vs, e, isList_keeps hl fun o => hk l' o (hlist hl), repA r⟩
    | val u => rw [hb] at b; exact b
  · obtain ⟨m', hm'⟩ := p.pre.ns; exact ⟨m', hm'.at' fun o e => hk _ o (Ne.symm hL) e⟩
  · obtain ⟨v, hv⟩ := p.pre.cells y c e; exact ⟨v, hv.sameBut hs (hcell hv)⟩
  · obtain ⟨a1, a2, a3, vs, n, a4, a5⟩ := p.own y ds e
    have : l ≠ C := hlist (xs := vs.toArray) ⟨_, a4, rfl, n, rfl⟩
    exact ⟨a1, a2, var a3, vs, n, hk _ _ this a4, repA a5⟩

/-- x = [ .. for .. ] where the store stands within the comprehension -/
theorem ex_assign_comp {Γ' : List (Str × Bd)} {own : Own} {x : Str} {px pos : Pos} {elt target iter : Expr} {ifs : List Expr} {scope : Scope} {cpos : Pos} {cl : List (Str × Addr)} {items : List PyData} (Γc : List (Str × Bd)) (p : PyData → Bool) (f : PyData → PyData)
    (hsw : swapsWith (.ListComp elt [⟨target, iter, ifs, 0⟩] scope cpos) (some (.Name x px)) pos.line F.env = pure true)
    (hcl : closureFor scope F.env = pure cl) (hsub : ∀ y c, cl.lookup y = some c → F.env.cells.lookup y = some c) (hi : EvI F (gam Γ own) iter items) (hz : items.length ≤ 100000)
    (hv : ∀ q ∈ Γc, q ∈ gam Γ own ∧ CompSees F scope cl q.1)
    (hb : ∀ L, ∀ d ∈ items, ∃ Γd, Asg (F.comp scope cl L) Γc none target d Γd ∧ EvTs (F.comp scope cl L) Γd ifs (p d) ∧ (p d = true → EvE (F.comp scope cl L) Γd elt (f d)))
    (hk : Sto F x) (hx : ∀ y ds, own = some (y, ds) → y ≠ x) (hΓ : ∀ q ∈ Γ', q = (x, .dat (.list ((items.filter p).map f))) ∨ (q ∈ Γ ∧ q.1 ≠ x))
    (hcell : (scope.names.all fun y => y.2 != .cell) = true := by decide) (hkind : scope.kind = .function := by rfl) (hnames : (scope.names.all fun y => y.2 != .local || scope.names.lookup y.1 == some .local) = true := by decide)
    (hs : ∀ x, foldedSetIterable iter F.env x = pure x := by intro _; rfl) :
    ExG F Γ own (exec (.Assign [.Name x px] (.ListComp elt [⟨target, iter, ifs, 0⟩] scope cpos) pos) F.env) (.next Γ' own) := .mk fun W O ok h0 gd s ⟨l, pr⟩ => by
  rw [exec_Assign_Name_used _ _ _ _ hsw]
  refine wpAny_bind (wpAny_standAt (wpAny_bind ?_))
  show wpAny _ _ (do let _ ← comprehension (.ListComp elt [⟨target, iter, ifs, 0⟩] scope cpos) scope F.env _ (newList []) false (eval iter F.env) (some (assign (.Name x px) F.env))) _ _ s
  refine wpAny_bind (wpAny_mono (Q := fun _ s' => Same s s' ∧ PreS F W h0 Γ' own s') ?_ (fun _ s' ⟨a, b⟩ => wpAny_pure (wpAny_pure ⟨a, rfl, b⟩)) fun _ _ e => e)
  refine comp_core (use := some (assign (.Name x px) F.env)) (pr.ok ok gd) pr.gam hi hz hcl hcell hkind hnames hsub hv hb hs fun C D s' sm hk' hC hD hCD hm r => ?_
  obtain ⟨h₁, tk, rfl⟩ := sm
  have kk : Keeps s { s with heap := h₁, toks := tk } := ⟨h₁, tk, rfl, hk'⟩
  have p' := pr.keeps kk
  have hCW : ¬ wid W l own C := fun w => by obtain ⟨o, ho⟩ := pr.pre.st.W C w; rw [hC] at ho; cases ho
  have h0C : h0 C = none := by
    cases e : h0 C with
    | none => rfl
    | some o => rw [pr.g _ _ e] at hC; cases hC
  have hgC : F.g C = none := by
    cases e : F.g C with
    | none => rfl
    | some o => rw [pr.pre.st.g _ _ e] at hC; cases hC
  have hCL : C ≠ F.env.locals := fun q => hCW (wid_le _ (q ▸ ok.OW _ ok.loc))
  obtain ⟨m, hm⟩ := hm
  -- the ghost keeps C's dict too
  have gd1 := ghostOff_gd ok gd p'
  have op1 := p'.reghost (O := O)
  have inC : ∀ o, h₁.get? C = some o → ghostOff O own l h₁ C = some o := fun o e => (ghostOff_in (fun h => hCW (wid_le _ (ok.OW _ h))) fun h q => hCW (by
    cases own with
    | none => simp at h
    | some y => exact .inr q)).trans e
  show wpAny _ _ (assign (.Name x px) F.env (.ref D)) _ _ _
  refine wpAny_assign_Name (op1.store ok gd1 (b := .dat (.list ((items.filter p).map f))) (Rep.less r fun a w => .inl w) hk hx hΓ fun s₂ sm₂ p₂ => ⟨m, ?_, fun h' hs' => ⟨?_, l, ?_⟩⟩)
  · exact hm.at' fun o e => p₂.g _ _ (inC o e)
  · obtain ⟨h₂, t₂, rfl⟩ := sm₂; exact ⟨h', t₂, rfl⟩
  · have hm₂ : s₂.heap.Ns C m := hm.at' fun o e => p₂.g _ _ (inC o e)
    have back : OpS F W h0 Γ' own l s₂ := ⟨fun b o e => p₂.g b o ((ghostOff_in (fun h => by rw [gd.O b h] at e; cases e) fun h q => by
        obtain ⟨y, hy⟩ := Option.isSome_iff_exists.mp h
        have := (pr.own y.1 y.2 hy).nh
        rw [q, this] at e; cases e).trans (p'.g b o e)), p₂.pre, fun y ds e => by
          obtain ⟨_, a2, a3, a4⟩ := p₂.own y ds e
          exact ⟨(pr.own y ds e).nh, a2, a3, a4⟩⟩
    exact back.dead hs' hm₂ h0C hgC hCL hCW
end
end Mine

namespace Mine
open PySem PySem.W PyProof.Rows PySem.Calls Builtin Builtin.Str Builtin.Float
set_option maxRecDepth 100000

def fspec (c a w : Nat) : FormatSpec := { fill := c, align := a, width := some w }
theorem parse_str {c a w : Nat} (ha : a = 60 ∨ a = 62) (h1 : 1 ≤ w) (h2 : w ≤ 7) (name : String) : parseFormatSpec [c, a, 48 + w] name 60 = .ok (fspec c a w) := by
  have hw : w = 1 ∨ w = 2 ∨ w = 3 ∨ w = 4 ∨ w = 5 ∨ w = 6 ∨ w = 7 := by (first | lia | omega)
  rcases ha with rfl | rfl <;> rcases hw with rfl | rfl | rfl | rfl | rfl | rfl | rfl <;> kernel_rfl
/-- a text filled up to a width -/
def fill (c a w : Nat) (l : List Nat) : List Nat := if a = 62 then List.replicate (w - l.length) c ++ l else l ++ List.replicate (w - l.length) c

theorem strSub_all (l : List Nat) : strSub (st l) 0 (st l).length = st l := by
  show Str.mk ((st l).cps.extract 0 (st l).length) = st l
  simp [st, Str.length]
theorem field_str {c a w : Nat} (ha : a = 60 ∨ a = 62) (l : List Nat) (name : String) : strField (st l) (fspec c a w) name = .ok (if w ≤ l.length then none else some (st (fill c a w l))) := by
  unfold strField fspec
  have hl : (st l).length = l.length := st_len l
  have e : ∀ c' : Option Nat, strSub (st l) 0 (c'.getD (st l).length) = strSub (st l) 0 (c'.getD (st l).length) := fun _ => rfl
  rcases ha with rfl | rfl
  · by_cases h : w ≤ l.length
    · simp [h, hl]; rfl
    · simp only [h, hl, if_false, Option.all_some, decide_false, Bool.false_and, Bool.false_eq_true]
      show Except.ok (some (padded (strSub (st l) 0 (Option.getD none (st l).length)) 0 (w - (strSub (st l) 0 (Option.getD none (st l).length)).length - 0) c)) = _
      rw [Option.getD_none, strSub_all, hl]
      simp [fill, padded, st]
  · by_cases h : w ≤ l.length
    · simp [h, hl]; rfl
    · simp only [h, hl, if_false, Option.all_some, decide_false, Bool.false_and, Bool.false_eq_true]
      show Except.ok (some (padded (strSub (st l) 0 (Option.getD none (st l).length)) (w - (strSub (st l) 0 (Option.getD none (st l).length)).length) ((w - (strSub (st l) 0 (Option.getD none (st l).length)).length) - (w - (strSub (st l) 0 (Option.getD none (st l).length)).length)) c)) = _
      rw [Option.getD_none, strSub_all, hl]
      simp [fill, padded, st]

theorem fill_le {c a w : Nat} {l : List Nat} (h : w ≤ l.length) : fill c a w l = l := by
  unfold fill
  rw [show w - l.length = 0 by (first | lia | omega)]
  split <;> simp

theorem gives_fmt {c a w : Nat} (hc : c < 128) (ha : a = 60 ∨ a = 62) (h1 : 1 ≤ w) (h2 : w ≤ 7) (l : List Nat) (t u : Tok) :
    Gives («str.__format__» ⟨[.str (st l) t, .str (st [c, a, 48 + w]) u], []⟩) (if w ≤ l.length then .val (.str (st l) t) else .str (st (fill c a w l))) := by
  have hp := parse_str (c := c) ha h1 h2
  have hf := field_str (c := c) (w := w) ha l
  have hsp : (st [c, a, 48 + w]).cps.toList = [c, a, 48 + w] := rfl
  have hasc : ((([c, a, 48 + w].drop 1).any fun x => decide (x ≥ 128)) || (decide ((st [c, a, 48 + w]).cps.getD 0 0 ≥ 128) && !([60, 62, 61, 94] : List Nat).contains ((st [c, a, 48 + w]).cps.getD 1 0))) = false := by
    have e1 : (st [c, a, 48 + w]).cps.getD 0 0 = c := rfl
    rw [e1]
    have e2 : decide (c ≥ 128) = false := by simp; omega
    have e3 : (([c, a, 48 + w].drop 1).any fun x => decide (x ≥ 128)) = false := by
      rcases ha with rfl | rfl <;> simp <;> omega
    rw [e3, e2]; rfl
  have hb : (st [c, a, 48 + w]).cps.back? = some (48 + w) := rfl
  have e0 : strOneArg "__format__" ⟨[.str (st l) t, .str (st [c, a, 48 + w]) u], []⟩ = pure (.str (st l) t, st l, .str (st [c, a, 48 + w]) u) := rfl
  have e1 : asStr? (.str (st [c, a, 48 + w]) u) = pure (some (st [c, a, 48 + w])) := rfl
  have e2 : ((st [c, a, 48 + w]).length == 0) = false := rfl
  have e3 : (some (48 + w) == some 0) = false := by simp
  have e4 : (fspec c a w).width.getD 0 = w := rfl
  have e5 : tooLong w = false := by simp [tooLong, sizeLine_eq]; omega
  have e6 : fspec c a w = fspec c a w := rfl
  intro prog wd A R s hq
  unfold «str.__format__»
  rw [e0]
  simp only [pure_bind, e1, e2, Bool.false_eq_true, if_false, hasc, hsp, hp, hb, e3, Bool.and_false]
  refine wpAny_bind (KXf.cut_str ?_)
  show wpAny _ _ (match (do if tooLong ((fspec c a w).width.getD 0) = true then pure none else (do let r ← strField (st l) (fspec c a w) "str"; pure (some r)) : Except String (Option (Option Str))) with
    | .error msg => _ | .ok none => _ | .ok (some none) => _ | .ok (some (some text)) => _) _ _ s
  rw [e4, e5, hf]
  by_cases h : w ≤ l.length
  · rw [if_pos h] at hq ⊢
    exact wpAny_bind (wpAny_rule (wpAny_pure hq))
  · rw [if_neg h] at hq ⊢
    exact wpAny_bind (wpAny_mkStr (wpAny_pure hq.2) hq.1)
end Mine

namespace Mine
open PySem PySem.W PyProof.Rows PySem.Calls
set_option maxRecDepth 100000

theorem kind_format : builtinKind "format" = none := by decide +kernel
theorem plain_format : plainId "format" = true := by decide +kernel
theorem entry_format : entryFor table "format" = some Builtin.«format» := entryFor_of_fast (by kernel_rfl)
theorem args_format (a b : Value) : argsOk "format" ⟨[a, b], []⟩ := by unfold argsOk; kernel_rfl

section
variable {C : Cx}

/-- the built-in format, once the type's own is known -/
theorem format_of {prog : Program} {w : World} {A : Around} {E : Value → Shared → Prop} {s : Shared} {v : Value} {sp : Str} {t : Tok} {Q : Value → Shared → Prop} (hne : (sp.length == 0) = false)
    (h : wpAny (model prog w) A.in1 (callSpecial? v "__format__" [.str sp t]) (fun r s' => ∃ y u, r = some (.str y u) ∧ Q (.str y u) s') E s) : wpAny (model prog w) A (call (.builtin "format") [v, .str sp t]) Q E s := by
  refine Calls.call_function_entry kind_format plain_format entry_format (args_format _ _) ?_
  unfold Builtin.«format»
  refine wpAny_bind (wpAny_of_eq (a := [v, Value.str sp t]) rfl ?_)
  refine wpAny_bind (wpAny_pure ?_)
  refine wpAny_bind (wpAny_typeNameOf (T := "str") (typeIs_str _ _ _) (by decide) fun _ => ?_)
  refine wpAny_bind (wpAny_of_eq (a := some sp) rfl ?_)
  simp only [hne, Bool.false_eq_true, if_false]
  refine wpAny_bind (wpAny_mono h (fun r s' hh₀ => ?_) fun _ _ e => e)
  obtain ⟨y, u, e, hq⟩ := hh₀
  subst e
  exact wpAny_bind (wpAny_isInstance (T := "str") (b := true) rfl isSubtype_str_str (wpAny_pure ⟨_, rfl, hq⟩))

theorem callOk_format_str {l : List Nat} {c a w : Nat} (hc : c < 128) (ha : a = 60 ∨ a = 62) (h1 : 1 ≤ w) (h2 : w ≤ 7) (hz : l.length ≤ 1000) :
    CallOk C (.builtin "format") [.dat (.str (st l)), .dat (.str (st [c, a, 48 + w]))] [] [] (.dat (.str (st (fill c a w l)))) := .mk fun ok W s vs ks S x y => by
  (first | obtain rfl := BAll.inv0 y | obtain ⟨_, rfl⟩ := Rep.inv_int y | obtain ⟨_, rfl⟩ := Rep.inv_str y | obtain rfl := Rep.inv_none y | cases y)
  obtain ⟨_, _, rfl, r1, x⟩ := BAll.inv_cons x
  obtain ⟨_, _, rfl, r2, x⟩ := BAll.inv_cons x
  (first | obtain rfl := BAll.inv0 x | obtain ⟨_, rfl⟩ := Rep.inv_int x | obtain ⟨_, rfl⟩ := Rep.inv_str x | obtain rfl := Rep.inv_none x | cases x)
  obtain ⟨t, rfl⟩ := Rep.inv_str r1
  obtain ⟨u, rfl⟩ := Rep.inv_str r2
  refine format_of rfl (wpAny_callSpecial?_slot (name := Str.ofString "__format__") (typeIs_str _ _ _) PySem.F.slot_str_format (call_gives PySem.F.slot_str_format (typeIs_str _ _ _) PySem.F.entry_str_format (PySem.F.args_str_format_2 _ _) (gives_fmt hc ha h1 h2 l t u) ?_))
  by_cases h : w ≤ l.length
  · rw [if_pos h]
    refine ⟨_, _, rfl, keeps_refl s, ?_⟩
    rw [fill_le h]; exact .str _ _
  · rw [if_neg h]
    refine ⟨?_, _, _, rfl, keeps_tok s _, .str _ _⟩
    rw [st_len, sizeLine_eq]; unfold fill; split <;> simp <;> (first | lia | omega)

/-! lists of ints -/
theorem intItems_of {W : Addr → Prop} {h : Heap} : ∀ {vs : List Value} {ns : List Int}, RepAll W h vs (ns.map .int) → ∃ xs : List (Int × Tok), vs = xs.map (fun p => Value.int p.1 p.2) ∧ xs.map (·.1) = ns
  | [], [], .nil => ⟨[], rfl, rfl⟩
  | [], _ :: _, r => by cases r
  | v :: vs, [], r => by cases r
  | v :: vs, n :: ns, .cons a b => by
    obtain ⟨xs, e1, e2⟩ := intItems_of b
    cases a with
    | int _ t => exact ⟨(n, t) :: xs, by simp [e1], by simp [e2]⟩
theorem isList_ints {h : Heap} {l : Addr} {vs : List Value} {xs : List (Int × Tok)} (e : vs = xs.map (fun p => Value.int p.1 p.2)) (hl : h.IsList l vs.toArray) : h.IsList l (intItems xs.toArray) := by
  subst e
  simpa [intItems] using hl
theorem numAt_list (xs : List (Int × Tok)) (i : Nat) (hi : i < xs.length) : numAt xs.toArray i = (xs.map (·.1))[i]'(by simpa using hi) := by
  simp [numAt, hi]

theorem callOk_min {ns : List Int} {m : Int} (hm : m ∈ ns) (hle : ∀ x ∈ ns, m ≤ x) : CallOk C (.builtin "min") [.lst (ns.map .int)] [] [] (.dat (.int m)) := .mk fun ok W s vs ks S x y => by
  (first | obtain rfl := BAll.inv0 y | obtain ⟨_, rfl⟩ := Rep.inv_int y | obtain ⟨_, rfl⟩ := Rep.inv_str y | obtain rfl := Rep.inv_none y | cases y)
  obtain ⟨_, _, rfl, r, x⟩ := BAll.inv_cons x
  (first | obtain rfl := BAll.inv0 x | obtain ⟨_, rfl⟩ := Rep.inv_int x | obtain ⟨_, rfl⟩ := Rep.inv_str x | obtain rfl := Rep.inv_none x | cases x)
  obtain ⟨l, vs, rfl, hl, r⟩ := r
  obtain ⟨xs, e1, e2⟩ := intItems_of r
  have hne : 0 < xs.length := by
    rw [← List.length_map (f := (·.1)), e2]; exact List.length_pos_of_mem hm
  refine min_intList ok.hh (isList_ints e1 hl) (by simpa using hne) fun v h' tk hv hk => ?_
  obtain ⟨t, ev⟩ := intItems_at hv
  subst ev
  obtain ⟨b1, b2⟩ := argBest_lt (numAt xs.toArray) (xs.toArray.size - 1)
  have hb : argBest (fun i j => decide (numAt xs.toArray i < numAt xs.toArray j)) (xs.toArray.size - 1) < xs.length := by simp at b1; simp; omega
  have e : numAt xs.toArray (argBest (fun i j => decide (numAt xs.toArray i < numAt xs.toArray j)) (xs.toArray.size - 1)) = m := by
    apply Int.le_antisymm
    · obtain ⟨i, hi, hi'⟩ := List.getElem_of_mem hm
      have hi2 : i < xs.length := by rw [← List.length_map (f := (·.1)), e2]; exact hi
      have := b2 i (by simp; omega)
      rw [numAt_list xs i hi2] at this
      simp only [e2, hi'] at this
      exact this
    · apply hle
      rw [numAt_list xs _ hb]
      simp only [e2]
      exact List.getElem_mem _
  rw [e]
  exact ⟨⟨h', tk, rfl, hk⟩, .int _ _⟩
theorem callOk_min2 {a b : Int} : CallOk C (.builtin "min") [.dat (.int a), .dat (.int b)] [] [] (.dat (.int (min a b))) := .mk fun ok W s vs ks S x y => by
  (first | obtain rfl := BAll.inv0 y | obtain ⟨_, rfl⟩ := Rep.inv_int y | obtain ⟨_, rfl⟩ := Rep.inv_str y | obtain rfl := Rep.inv_none y | cases y)
  obtain ⟨_, _, rfl, r1, x⟩ := BAll.inv_cons x
  obtain ⟨_, _, rfl, r2, x⟩ := BAll.inv_cons x
  (first | obtain rfl := BAll.inv0 x | obtain ⟨_, rfl⟩ := Rep.inv_int x | obtain ⟨_, rfl⟩ := Rep.inv_str x | obtain rfl := Rep.inv_none x | cases x); (first | obtain rfl := BAll.inv0 r1 | obtain ⟨_, rfl⟩ := Rep.inv_int r1 | obtain ⟨_, rfl⟩ := Rep.inv_str r1 | obtain rfl := Rep.inv_none r1 | cases r1); (first | obtain rfl := BAll.inv0 r2 | obtain ⟨_, rfl⟩ := Rep.inv_int r2 | obtain ⟨_, rfl⟩ := Rep.inv_str r2 | obtain rfl := Rep.inv_none r2 | cases r2)
  refine min_two_ints ok.hh fun h' tk hk => ⟨⟨h', tk, rfl, hk⟩, ?_⟩
  split
  · rw [show min a b = b by (first | lia | omega)]; exact .int _ _
  · rw [show min a b = a by (first | lia | omega)]; exact .int _ _
theorem callOk_max2 {a b : Int} : CallOk C (.builtin "max") [.dat (.int a), .dat (.int b)] [] [] (.dat (.int (max a b))) := .mk fun ok W s vs ks S x y => by
  (first | obtain rfl := BAll.inv0 y | obtain ⟨_, rfl⟩ := Rep.inv_int y | obtain ⟨_, rfl⟩ := Rep.inv_str y | obtain rfl := Rep.inv_none y | cases y)
  obtain ⟨_, _, rfl, r1, x⟩ := BAll.inv_cons x
  obtain ⟨_, _, rfl, r2, x⟩ := BAll.inv_cons x
  (first | obtain rfl := BAll.inv0 x | obtain ⟨_, rfl⟩ := Rep.inv_int x | obtain ⟨_, rfl⟩ := Rep.inv_str x | obtain rfl := Rep.inv_none x | cases x); (first | obtain rfl := BAll.inv0 r1 | obtain ⟨_, rfl⟩ := Rep.inv_int r1 | obtain ⟨_, rfl⟩ := Rep.inv_str r1 | obtain rfl := Rep.inv_none r1 | cases r1); (first | obtain rfl := BAll.inv0 r2 | obtain ⟨_, rfl⟩ := Rep.inv_int r2 | obtain ⟨_, rfl⟩ := Rep.inv_str r2 | obtain rfl := Rep.inv_none r2 | cases r2)
  refine max_two_ints ok.hh fun h' tk hk => ⟨⟨h', tk, rfl, hk⟩, ?_⟩
  split
  · rw [show max a b = b by (first | lia | omega)]; exact .int _ _
  · rw [show max a b = a by (first | lia | omega)]; exact .int _ _
theorem preSum_list (xs : List (Int × Tok)) : preSum (numAt xs.toArray) xs.toArray.size = (xs.map (·.1)).sum := by
  rw [preSum_eq, List.take_of_length_le (by simp)]
theorem callOk_sum {ns : List Int} : CallOk C (.builtin "sum") [.lst (ns.map .int)] [] [] (.dat (.int ns.sum)) := .mk fun ok W s vs ks S x y => by
  (first | obtain rfl := BAll.inv0 y | obtain ⟨_, rfl⟩ := Rep.inv_int y | obtain ⟨_, rfl⟩ := Rep.inv_str y | obtain rfl := Rep.inv_none y | cases y)
  obtain ⟨_, _, rfl, r, x⟩ := BAll.inv_cons x
  (first | obtain rfl := BAll.inv0 x | obtain ⟨_, rfl⟩ := Rep.inv_int x | obtain ⟨_, rfl⟩ := Rep.inv_str x | obtain rfl := Rep.inv_none x | cases x)
  obtain ⟨l, vs, rfl, hl, r⟩ := r
  obtain ⟨xs, e1, e2⟩ := intItems_of r
  refine sum_intListG ok.hh (isList_ints e1 hl) fun h' tk t' hk => ⟨⟨h', tk, rfl, hk⟩, ?_⟩
  rw [preSum_list, e2]
  exact .int _ _

theorem intsAre_of {W : Addr → Prop} {h : Heap} : ∀ {vs : List Value} {ns : List Int}, RepAll W h vs (ns.map .int) → IntsAre vs ns
  | [], [], .nil => by first | exact .nil | exact IntsAre.nil
  | [], _ :: _, r => by cases r
  | v :: vs, [], r => by cases r
  | v :: vs, n :: ns, .cons a b => by
    cases a with
    | int _ t => first | exact .cons (intsAre_of b) | exact IntsAre.cons _ _ (intsAre_of b)
theorem ints_rep {W : Addr → Prop} {h : Heap} {vs : List Value} {ns : List Int} (x : IntsAre vs ns) : RepAll W h vs (ns.map .int) := by
  induction x with
  | nil => exact .nil
  | cons _ _ _ ih => exact .cons (.int _ _) ih
theorem sorted_unique {a b : List Int} (h : a.Perm b) (ha : a.Pairwise (· ≤ ·)) (hb : b.Pairwise (· ≤ ·)) : a = b := h.eq_of_pairwise (fun _ _ _ _ h1 h2 => Int.le_antisymm h1 h2) ha hb
theorem callOk_sorted {ns ns' : List Int} (hp : ns'.Perm ns) (hs : ns'.Pairwise (· ≤ ·)) (hz : ns.length < 64) : CallOk C (.builtin "sorted") [.lst (ns.map .int)] [] [] (.dat (.list (ns'.map .int))) := .mk fun ok W s vs ks S x y => by
  (first | obtain rfl := BAll.inv0 y | obtain ⟨_, rfl⟩ := Rep.inv_int y | obtain ⟨_, rfl⟩ := Rep.inv_str y | obtain rfl := Rep.inv_none y | cases y)
  obtain ⟨_, _, rfl, r, x⟩ := BAll.inv_cons x
  (first | obtain rfl := BAll.inv0 x | obtain ⟨_, rfl⟩ := Rep.inv_int x | obtain ⟨_, rfl⟩ := Rep.inv_str x | obtain rfl := Rep.inv_none x | cases x)
  obtain ⟨l, vs, rfl, hl, r⟩ := r
  have hI := intsAre_of r
  refine sorted_ints hl hI (by rw [r.length]; simpa using hz) fun out ns₂ a1 a2 a3 => ?_
  obtain ⟨e, he⟩ := sortedAll_at s.heap vs out
  have : ns₂ = ns' := sorted_unique (a2.trans hp.symm) a3 hs
  subst this
  refine ⟨⟨_, s.toks, rfl, fun _ _ => sortedAll_old⟩, .list (vs := out.toList) (fun w => ?_) ⟨⟨_, he, rfl, e, by simp⟩, _, he, rfl⟩ (ints_rep a1)⟩
  obtain ⟨o, ho⟩ := S.W _ w
  exact absurd (Heap.lt_size ho) (Nat.not_lt.mpr (Nat.le_succ _))

theorem callOk_str_int {n : Int} (h : n.natAbs < 1000000) : CallOk C (.type "str") [.dat (.int n)] [] [] (.dat (.str (toString n))) := .mk fun ok W s vs ks S x y => by
  (first | obtain rfl := BAll.inv0 y | obtain ⟨_, rfl⟩ := Rep.inv_int y | obtain ⟨_, rfl⟩ := Rep.inv_str y | obtain rfl := Rep.inv_none y | cases y)
  obtain ⟨_, _, rfl, r, x⟩ := BAll.inv_cons x
  (first | obtain rfl := BAll.inv0 x | obtain ⟨_, rfl⟩ := Rep.inv_int x | obtain ⟨_, rfl⟩ := Rep.inv_str x | obtain rfl := Rep.inv_none x | cases x)
  (first | obtain rfl := BAll.inv0 r | obtain ⟨_, rfl⟩ := Rep.inv_int r | obtain ⟨_, rfl⟩ := Rep.inv_str r | obtain rfl := Rep.inv_none r | cases r)
  refine P.str_of_int ?_ ⟨keeps_tok s _, .str _ _⟩
  by_cases h0 : n.natAbs = 0
  · rw [h0]; decide
  · have : n.natAbs.log2 < 20 := (Nat.log2_lt h0).mpr (by first | decide | assumption | with_reducible exact Int.natCast_nonneg _ | with_reducible exact Nat.le_trans (by assumption) (by decide) | with_reducible exact Nat.lt_of_lt_of_le (by assumption) (by decide) | with_reducible exact lt_mil (Nat.lt_of_lt_of_le (by assumption) (by decide)) | with_reducible exact lt_mil (Nat.lt_of_le_of_lt (by assumption) (by decide)) | with_reducible exact Nat.le_trans (Nat.le_of_lt (by assumption)) (by decide) | (first | lia | omega))
    (first | lia | omega)

end

section
variable {F : Fm} {Γ : List (Str × Bd)}
/-- a builtin type's method -/
def MethIs (F : Fm) (name : Str) (id : String) (a : Bd) : Prop := ∀ W s v, F.toCx.St W s → BRep W s.heap v a →
  ∃ T, PlainAttrs T ∧ Slot T name id ∧ typeOf (.builtin id) = pure (.type "method_descriptor") ∧ s.TypeIs v T ∧ (∀ a, v = .ref a → ∃ ob, s.heap.get? a = some ob ∧ ob.dict = none)
theorem ev_meth {o : Expr} {es : List Expr} {name : Str} {id : String} {apos pos : Pos} {a c : Bd} {args : List Bd} (x : EvB F Γ o a) (y : EvL F Γ pos es args) (hm : MethIs F name id a) (h : CallOk F.toCx (.builtin id) (a :: args) [] [] c)
    (hbase : ∀ env, attributeBase o name env (eval o env) = eval o env := by intro _; rfl) (hn : ∀ env, (starEach es env).any (·.1) = false := by intro _; rfl) (hlen : decide (es.length < 29) = true := by rfl) (hline : (apos.endLine == pos.line) = true := by rfl) :
    EvB F Γ (.Call (.Attribute o name apos) es [] pos) c := .mk fun W O ok s p => by
  rw [arm_eval_Call, hbase]
  refine wpAny_bind (x.use ok p fun ov s₁ k₁ p₁ r₁ => ?_)
  refine wpAny_bind (wpAny_standAt ?_)
  have hany : (backTo pos (starEach es F.env)).any (·.1) = false := by rw [backTo_plain]; exact hn _
  have hall : (backTo pos (starEach es F.env)).all (!·.1) = true := by
    rw [List.all_eq_true]
    intro q hq
    have := List.any_eq_false.mp hany q hq
    simpa using this
  have hform : methodCallForm (es.length + ([] : List Keyword).length) (backTo pos (starEach es F.env)) (backToKw pos (keywordEach [] F.env)) = true := by
    unfold methodCallForm
    rw [hall]
    have : es.length < 29 := of_decide_eq_true hlen
    show (true && true && decide (es.length + 0 + 0 < 30)) = true
    simp; (first | lia | omega)
  have hpos : methodCallPos true o F.env apos pos = pure pos := by unfold methodCallPos; simp [hline]
  unfold methodCall
  rw [hform]
  obtain ⟨T, pa, slot, hty, hT, hd⟩ := hm W s₁ ov p₁.st r₁
  refine wpAny_bind (wpAny_holding (getMethod_builtin hT pa slot hty hd ?_))
  refine wpAny_bind (wpAny_of_eq hpos ?_)
  refine Calls.callWith_builtin hany (evalArgs_any hany rfl (wpAny_mono (y.run W O ok s₁ p₁) (fun vs s₂ hh₀ => ?_) fun _ _ f => f.elim))
  obtain ⟨k₂, r₂⟩ := hh₀
  refine wpAny_evalAll_nil ?_
  exact wpAny_mono (h.run ok.cx W s₂ (ov :: vs) [] (p₁.keeps k₂).st (.cons (r₁.keeps (keeps_heap k₂)) r₂) .nil) (fun r s₃ ⟨k₃, r₃⟩ => ⟨keeps_trans (keeps_trans k₁ k₂) k₃, r₃⟩) fun _ _ f => f

theorem methIs_join {l : List Nat} : MethIs F "join" "str.join" (.dat (.str (st l))) := fun W s v S r => by
  (first | obtain rfl := BAll.inv0 r | obtain ⟨_, rfl⟩ := Rep.inv_int r | obtain ⟨_, rfl⟩ := Rep.inv_str r | obtain rfl := Rep.inv_none r | cases r)
  exact ⟨"str", PySem.F.plainAttrs_str, PySem.F.slot_str_join, PySem.F.type_str_join, typeIs_str _ _ _, fun _ e => nomatch e⟩
end

section
variable {C : Cx}
theorem strs_of {W : Addr → Prop} {h : Heap} : ∀ {vs : List Value} {ls : List (List Nat)}, RepAll W h vs (ls.map fun l => .str (st l)) → ∃ xs : List (Str × Tok), strValues xs = vs ∧ xs.map (·.1) = ls.map st
  | [], [], .nil => ⟨[], rfl, rfl⟩
  | [], _ :: _, r => by cases r
  | v :: vs, [], r => by cases r
  | v :: vs, n :: ns, .cons a b => by
    obtain ⟨xs, e1, e2⟩ := strs_of b
    cases a with
    | str _ t => exact ⟨(st n, t) :: xs, by rw [← e1]; rfl, by simp [e2]⟩
theorem glue_empty : ∀ (A : Array Nat) (ls : List (List Nat)), (ls.map st).foldl (fun acc p => acc ++ (st []).cps ++ p.cps) A = A ++ ls.flatten.toArray
  | A, [] => by simp
  | A, l :: ls => by
    simp only [List.map_cons, List.foldl_cons]
    rw [glue_empty _ ls]
    simp [st]
theorem join_empty : ∀ ls : List (List Nat), Txt.join (st []) (ls.map st) = st ls.flatten
  | [] => rfl
  | a :: r => by
    show (⟨((a :: r).map st |>.drop 1).foldl (fun acc p => acc ++ (st []).cps ++ p.cps) (((a :: r).map st).headD Str.empty).cps⟩ : Str) = _
    simp only [List.map_cons, List.drop_succ_cons, List.drop_zero, List.headD_cons]
    rw [glue_empty]
    simp [st]
theorem lens_empty : ∀ (ls : List (List Nat)) (k : Nat), (ls.map st).foldl (fun n p => n + p.length + (st []).length) k = k + ls.flatten.length
  | [], k => by simp
  | l :: ls, k => by
    simp only [List.map_cons, List.foldl_cons]
    rw [lens_empty ls]
    simp only [st_len, List.flatten_cons, List.length_append, List.length_nil]
    (first | lia | omega)
theorem callOk_join {ls : List (List Nat)} (hz : ls.flatten.length ≤ 1000) : CallOk C (.builtin "str.join") [.dat (.str (st [])), .lst (ls.map fun l => .str (st l))] [] [] (.dat (.str (st ls.flatten))) := .mk fun ok W s vs ks S x y => by
  (first | obtain rfl := BAll.inv0 y | obtain ⟨_, rfl⟩ := Rep.inv_int y | obtain ⟨_, rfl⟩ := Rep.inv_str y | obtain rfl := Rep.inv_none y | cases y)
  obtain ⟨_, _, rfl, r, x⟩ := BAll.inv_cons x
  obtain ⟨_, _, rfl, r2, x⟩ := BAll.inv_cons x
  (first | obtain rfl := BAll.inv0 x | obtain ⟨_, rfl⟩ := Rep.inv_int x | obtain ⟨_, rfl⟩ := Rep.inv_str x | obtain rfl := Rep.inv_none x | cases x)
  (first | obtain rfl := BAll.inv0 r | obtain ⟨_, rfl⟩ := Rep.inv_int r | obtain ⟨_, rfl⟩ := Rep.inv_str r | obtain rfl := Rep.inv_none r | cases r)
  obtain ⟨l, ws, rfl, hl, r⟩ := r2
  obtain ⟨xs, e1, e2⟩ := strs_of r
  subst e1
  have hjn : JoinOk (st []) (xs.map (·.1)) = true := by
    rw [e2]; unfold JoinOk
    rw [List.foldl_toArray, lens_empty]
    unfold Builtin.Str.tooLong
    rw [sizeLine_eq, Bool.not_eq_true', decide_eq_false_iff_not]
    (first | lia | omega)
  unfold JoinOk at hjn
  rw [Bool.not_eq_true'] at hjn
  refine call_meets PySem.F.slot_str_join (typeIs_str _ _ _) PySem.F.entry_str_join (PySem.F.args_str_join_2 _ _) (meets_str_join_list (st []) _ l xs hjn) ⟨hl, post_join xs ⟨joinFit_length hjn, fun t' k => ⟨keeps_tok s _, ?_⟩⟩⟩
  rw [e2, join_empty]
  exact .str _ _
end
end Mine

namespace Mine
open PySem PySem.W PyProof.Rows PySem.Calls
set_option maxRecDepth 100000

/-! ### is, in -/
section
variable {F : Fm} {Γ Γ' : List (Str × Bd)} {own : Own} {out : Out}
theorem cmpR_is_none {d : PyData} : CmpR F .Is (.dat d) (.dat .none) (match d with | .none => true | _ => false) := .mk fun ok W s v u S x y => by
  (first | obtain rfl := BAll.inv0 y | obtain ⟨_, rfl⟩ := Rep.inv_int y | obtain ⟨_, rfl⟩ := Rep.inv_str y | obtain rfl := Rep.inv_none y | cases y)
  cases x <;> first | exact is_none_none ⟨keeps_refl s, rfl⟩ | exact is_none_ne (by intro x; cases x) ⟨keeps_refl s, rfl⟩
theorem cmpR_is_none_ref {a : Addr} : CmpR F .Is (.val (.ref a)) (.dat .none) false := .mk fun ok W s v u S x y => by
  (first | obtain rfl := BAll.inv0 y | obtain ⟨_, rfl⟩ := Rep.inv_int y | obtain ⟨_, rfl⟩ := Rep.inv_str y | obtain rfl := Rep.inv_none y | cases y)
  have x : v = .ref a := x
  subst x
  exact is_none_ne (by intro x; cases x) ⟨keeps_refl s, rfl⟩
/-! ### A call of a def -/
theorem ev_def {fe : Expr} {es : List Expr} {ks : List Keyword} {pos : Pos} {a : Addr} {o : Obj} {fd : FuncData} {args : List Bd} {kn : List Str} {kb : List Bd} {c : Bd}
    (hf : EvB F Γ fe (.val (.ref a))) (x : EvL F Γ pos es args) (y : EvKw F Γ pos ks kn kb) (hg : F.g a = some o) (hd : o.data = .func fd) (h : CallOk F.toCx (.ref a) args kn kb c)
    (hn : ∀ env, (starEach es env).any (·.1) = false := by intro _; rfl)
    (harm : ∀ env, eval (.Call fe es ks pos) env = (do callWith pos (← eval fe env) [] (backTo pos (starEach es env)) (backToKw pos (keywordEach ks env))) := by intro _; rfl) :
    EvB F Γ (.Call fe es ks pos) c := ev_call_fn hf x y (fun W s p => ⟨p.st.g _ _ hg, hd⟩) h hn harm

/-! ### The owned list, changed -/
theorem OpS.mut {W O : Addr → Prop} {h0 : Gh} {l : Addr} {s₃ s₄ : Shared} {x : Str} {ds ds' : List PyData} (ok : F.Ok W O) (gd : Gd F O h0) (p₃ : OpS F W h0 Γ (some (x, ds)) l s₃) (hno : ∀ p ∈ Γ, ∀ ds, p.2 ≠ .lst ds)
    (kp : ∀ b o, b ≠ l → s₃.heap.get? b = some o → s₄.heap.get? b = some o) (hnew : ∃ lv' n', s₄.heap.get? l = some (listOf lv'.toArray n') ∧ RepAll (fun a => W a ∨ a = l) s₄.heap lv' ds') : OpS F W h0 Γ (some (x, ds')) l s₄ := by
  have okl := p₃.ok ok gd
  obtain ⟨a1, a2, c3, lv, n, c4, c5⟩ := p₃.own x ds rfl
  obtain ⟨lv', n', hl', rl'⟩ := hnew
  refine ⟨fun b o e => kp b o (fun q => by rw [q, a1] at e; cases e) (p₃.g b o e), ⟨⟨fun b o e => kp b o (fun q => ?_) (p₃.pre.st.g b o e), fun b w => ?_⟩, fun q hq => ?_, ?_, fun y c e => ?_⟩, fun y ds'' e => ?_⟩
  · have := okl.Og l (.inr rfl); rw [q, this] at e; cases e
  · by_cases q : b = l
    · exact ⟨_, q ▸ hl'⟩
    · obtain ⟨o, ho⟩ := p₃.pre.st.W b w; exact ⟨o, kp b o q ho⟩
  · obtain ⟨v, b1, b2⟩ := p₃.pre.vars q hq
    refine ⟨v, ?_, ?_⟩
    · cases b1 with
      | loc d1 d2 d3 => exact .loc d1 (d2.at' fun o e => kp _ o (fun q => a2 (q ▸ ok.OW _ ok.loc)) e) d3
      | cell d1 d2 d3 => obtain ⟨o, ho, hd⟩ := d3; exact .cell d1 d2 ⟨o, kp _ o (fun q => a2 (q ▸ ok.cW _ _ d2)) ho, hd⟩
      | free d1 d2 d3 d4 => obtain ⟨o, ho, hd⟩ := d4; exact .free d1 d2 d3 ⟨o, kp _ o (fun q => a2 (q ▸ ok.cW _ _ d3)) ho, hd⟩
    · cases hb : q.2 with
      | dat d => rw [hb] at b2; exact Rep.gen (fun _ w => .inl w) (fun b o hb e => kp b o (fun q => hb (.inr q)) e) b2
      | lst ds => exact absurd hb (hno q hq ds)
      | val u => rw [hb] at b2; exact b2
  · obtain ⟨m, hm⟩ := p₃.pre.ns
    exact ⟨m, hm.at' fun o e => kp _ o (fun q => a2 (q ▸ ok.OW _ ok.loc)) e⟩
  · obtain ⟨v, o, ho, hd⟩ := p₃.pre.cells y c e
    exact ⟨v, o, kp _ o (fun q => a2 (q ▸ ok.cW _ _ e)) ho, hd⟩
  · cases e
    refine ⟨a1, a2, ?_, lv', n', hl', rl'⟩
    cases c3 with
    | loc d1 d2 d3 => exact .loc d1 (d2.at' fun o e => kp _ o (fun q => a2 (q ▸ ok.OW _ ok.loc)) e) d3
    | cell d1 d2 d3 => obtain ⟨o, ho, hd⟩ := d3; exact .cell d1 d2 ⟨o, kp _ o (fun q => a2 (q ▸ ok.cW _ _ d2)) ho, hd⟩
    | free d1 d2 d3 d4 => obtain ⟨o, ho, hd⟩ := d4; exact .free d1 d2 d3 ⟨o, kp _ o (fun q => a2 (q ▸ ok.cW _ _ d3)) ho, hd⟩

/-- a method of the owned list, as a statement -/
theorem ex_meth {x name : Str} {es : List Expr} {px apos pos pos' : Pos} {id : String} {args : List Bd} {ds ds' : List PyData}
    (ha : EvL F (gam Γ (some (x, ds))) pos es args) (slot : Slot "list" name id) (hty : typeOf (.builtin id) = pure (.type "method_descriptor")) (h : MutOk F.toCx (.builtin id) args [] [] ds ds')
    (hno : ∀ p ∈ Γ, ∀ ds, p.2 ≠ .lst ds) (hd : (x == ("__debug__" : Str)) = false := by decide)
    (hbase : ∀ env, attributeBase (.Name x px) name env (eval (.Name x px) env) = eval (.Name x px) env := by intro _; rfl) (hn : ∀ env, (starEach es env).any (·.1) = false := by intro _; rfl)
    (hlen : decide (es.length < 29) = true := by rfl) (hline : (apos.endLine == pos.line) = true := by rfl)
    (hi : interactive F.env = false) (hs : swapsWith (.Call (.Attribute (.Name x px) name apos) es [] pos) none pos'.line F.env = pure false := by rfl) :
    ExG F Γ (some (x, ds)) (exec (.Expr (.Call (.Attribute (.Name x px) name apos) es [] pos) pos') F.env) (.next Γ (some (x, ds'))) := .mk fun W O ok h0 gd s ⟨l, p⟩ => by
  refine wpAny_Expr ?_ hi hs
  rw [arm_eval_Call, hbase]
  have okl := p.ok ok gd
  obtain ⟨a1, a2, a3, lv₀, n₀, a4, _⟩ := p.own x ds rfl
  refine wpAny_bind (wpAny_Name (a3.load ok.kind ?_) hd)
  refine wpAny_bind (wpAny_standAt ?_)
  have hany : (backTo pos (starEach es F.env)).any (·.1) = false := by rw [backTo_plain]; exact hn _
  have hall : (backTo pos (starEach es F.env)).all (!·.1) = true := by
    rw [List.all_eq_true]
    intro q hq
    have := List.any_eq_false.mp hany q hq
    simpa using this
  have hform : methodCallForm (es.length + ([] : List Keyword).length) (backTo pos (starEach es F.env)) (backToKw pos (keywordEach [] F.env)) = true := by
    unfold methodCallForm
    rw [hall]
    have : es.length < 29 := of_decide_eq_true hlen
    show (true && true && decide (es.length + 0 + 0 < 30)) = true
    simp; (first | lia | omega)
  have hpos : methodCallPos true (.Name x px) F.env apos pos = pure pos := by unfold methodCallPos; simp [hline]
  unfold methodCall
  rw [hform]
  have hT : s.TypeIs (.ref l) "list" := ⟨_, a4, rfl⟩
  refine wpAny_bind (wpAny_holding (getMethod_builtin hT PySem.F.plainAttrs_list slot hty (fun a e => by cases e; exact ⟨_, a4, rfl⟩) ?_))
  refine wpAny_bind (wpAny_of_eq hpos ?_)
  refine Calls.callWith_builtin hany (evalArgs_any hany rfl (wpAny_mono (ha.run _ _ okl s p.gam) (fun vs s₂ hh₀ => ?_) fun _ _ f => f.elim))
  obtain ⟨k₂, r₂⟩ := hh₀
  refine wpAny_evalAll_nil ?_
  have p₃ := p.keeps k₂
  obtain ⟨c1, c2, c3, lv, n, c4, c5⟩ := p₃.own x ds rfl
  refine wpAny_mono (h.run ok.cx _ s₂ l lv n vs [] p₃.pre.st (.inr rfl) (okl.Og l (.inr rfl)) c4 c5 r₂ .nil) (fun r s₄ hh₀ => ?_) fun _ _ f => f.elim
  obtain ⟨e, sm, kp, hnew⟩ := hh₀
  subst e
  exact ⟨same_trans (same_keeps k₂) sm, rfl, l, p₃.mut ok gd hno kp hnew⟩
end

section
variable {C : Cx}
theorem insert_at {prog : Program} {w : World} {A : Around} {E : Value → Shared → Prop} {s : Shared} {l : Addr} {lv : List Value} {n : Nat} {x : Int} {t : Tok} {v : Value} {Q : Value → Shared → Prop} (hl : s.heap.get? l = some (listOf lv.toArray n)) (hf : Builtin.List.listFitsIndex x = true)
    (hz : lv.toArray.size ≤ sizeLine) (h : ∀ h', (∀ b o, b ≠ l → s.heap.get? b = some o → h'.get? b = some o) → h'.get? l = some (listOf (kl_ins lv x v).toArray (n + 1)) → Q .none { s with heap := h' }) : wpAny (model prog w) A (call (.builtin "list.insert") [.ref l, .int x t, v]) Q E s := by
  refine call_meets PySem.F.slot_list_insert ⟨_, hl, rfl⟩ PySem.F.entry_list_insert (PySem.F.args_list_insert_3 _ _ _) (PySem.AutoSeq1.list_insert_list_int_val_1 l _ n x t v (by simp [hf]) hz) ⟨hl, h _ (fun b o hb e => (Heap.get?_update_ne _ _ _ _ hb).trans e) ?_⟩
  have q := PySem.IsL.update hl (fun xs => have k := if x < 0 then (x + (xs.size : Int)).toNat else min x.toNat xs.size; (xs.extract 0 k).push v ++ xs.extract k)
  have hk : ((lv.toArray.extract 0 (if x < 0 then (x + (lv.toArray.size : Int)).toNat else min x.toNat lv.toArray.size)).push v ++ lv.toArray.extract (if x < 0 then (x + (lv.toArray.size : Int)).toNat else min x.toNat lv.toArray.size)) = (kl_ins lv x v).toArray := by
    rw [kl_ins_eq, List.size_toArray]; rfl
  dsimp only at q
  rw [hk, if_neg (by rw [List.size_toArray, List.size_toArray, kl_ins_length]; simp)] at q
  exact q
theorem kl_ins_nat {lv : List Value} {i : Nat} {v : Value} (hi : i ≤ lv.length) : kl_ins lv i v = lv.take i ++ v :: lv.drop i := by
  unfold kl_ins
  rw [if_neg (by first | decide | assumption | with_reducible exact Int.natCast_nonneg _ | with_reducible exact Nat.le_trans (by assumption) (by decide) | with_reducible exact Nat.lt_of_lt_of_le (by assumption) (by decide) | with_reducible exact lt_mil (Nat.lt_of_lt_of_le (by assumption) (by decide)) | with_reducible exact lt_mil (Nat.lt_of_le_of_lt (by assumption) (by decide)) | with_reducible exact Nat.le_trans (Nat.le_of_lt (by assumption)) (by decide) | (first | lia | omega)), show min (i : Int).toNat lv.length = i by (first | lia | omega)]
theorem fits_nat {i : Nat} (hi : i ≤ 1000000) : Builtin.List.listFitsIndex (i : Int) = true := by
  unfold Builtin.List.listFitsIndex
  simp; (first | lia | omega)
theorem mutOk_insert {ds : List PyData} {d : PyData} {i : Nat} (hi : i ≤ ds.length) (hz : ds.length ≤ 100000) : MutOk C (.builtin "list.insert") [.dat (.int i), .dat d] [] [] ds (ds.take i ++ d :: ds.drop i) := .mk fun ok W s l lv n vs ks S hWl hgl hl rl x y => by
  (first | obtain rfl := BAll.inv0 y | obtain ⟨_, rfl⟩ := Rep.inv_int y | obtain ⟨_, rfl⟩ := Rep.inv_str y | obtain rfl := Rep.inv_none y | cases y)
  obtain ⟨_, _, rfl, r1, x⟩ := BAll.inv_cons x
  obtain ⟨v, _, rfl, r2, x⟩ := BAll.inv_cons x
  (first | obtain rfl := BAll.inv0 x | obtain ⟨_, rfl⟩ := Rep.inv_int x | obtain ⟨_, rfl⟩ := Rep.inv_str x | obtain rfl := Rep.inv_none x | cases x)
  obtain ⟨t, rfl⟩ := Rep.inv_int r1
  have hlen := rl.length
  have hsz : lv.toArray.size ≤ sizeLine := by
    rw [List.size_toArray, sizeLine_eq]; (first | lia | omega)
  have r2 : Rep W s.heap v d := r2
  refine insert_at hl (fits_nat (by first | decide | assumption | with_reducible exact Int.natCast_nonneg _ | with_reducible exact Nat.le_trans (by assumption) (by decide) | with_reducible exact Nat.lt_of_lt_of_le (by assumption) (by decide) | with_reducible exact lt_mil (Nat.lt_of_lt_of_le (by assumption) (by decide)) | with_reducible exact lt_mil (Nat.lt_of_le_of_lt (by assumption) (by decide)) | with_reducible exact Nat.le_trans (Nat.le_of_lt (by assumption)) (by decide) | (first | lia | omega))) hsz fun h' hk hn => ⟨rfl, ⟨h', s.toks, rfl⟩, hk, lv.take i ++ v :: lv.drop i, n + 1, ?_, ?_⟩
  · rw [kl_ins_nat (by first | decide | assumption | with_reducible exact Int.natCast_nonneg _ | with_reducible exact Nat.le_trans (by assumption) (by decide) | with_reducible exact Nat.lt_of_lt_of_le (by assumption) (by decide) | with_reducible exact lt_mil (Nat.lt_of_lt_of_le (by assumption) (by decide)) | with_reducible exact lt_mil (Nat.lt_of_le_of_lt (by assumption) (by decide)) | with_reducible exact Nat.le_trans (Nat.le_of_lt (by assumption)) (by decide) | (first | lia | omega))] at hn; exact hn
  · exact RepAll.gen (W := W) (h := s.heap) (fun _ w => .inl w) (fun b o hb e => hk b o (fun q : b = l => hb (by rw [q]; exact hWl)) e) ((rl.take i).append (.cons r2 (rl.drop i)))
end
end Mine

namespace Mine
open PySem PySem.W PyProof.Rows PySem.Calls
set_option maxRecDepth 100000

theorem VarAt.fun_ {env : Env} {h : Heap} {x : Str} {v u : Value} (a : VarAt env h x v) (b : VarAt env h x u) : v = u := by
  cases a with
  | loc a1 a2 a3 =>
    cases b with
    | loc b1 b2 b3 => rw [a2.eq_nsMap] at a3; rw [b2.eq_nsMap] at b3; rw [a3] at b3; exact Option.some.inj b3
    | cell b1 _ _ => rw [a1] at b1; cases b1
    | free b1 _ _ _ => rw [a1] at b1; cases b1
  | cell a1 a2 a3 =>
    cases b with
    | loc b1 _ _ => rw [a1] at b1; cases b1
    | cell b1 b2 b3 =>
      rw [a2] at b2; cases b2
      obtain ⟨o, ho, hd⟩ := a3; obtain ⟨o', ho', hd'⟩ := b3
      rw [ho] at ho'; cases ho'; rw [hd] at hd'; cases hd'; rfl
    | free b1 _ _ _ => rw [a1] at b1; cases b1
  | free a1 a0 a2 a3 =>
    cases b with
    | loc b1 _ _ => rw [a1] at b1; cases b1
    | cell b1 _ _ => rw [a1] at b1; cases b1
    | free b1 b0 b2 b3 =>
      rw [a2] at b2; cases b2
      obtain ⟨o, ho, hd⟩ := a3; obtain ⟨o', ho', hd'⟩ := b3
      rw [ho] at ho'; cases ho'; rw [hd] at hd'; cases hd'; rfl

theorem mem_at {α : Type} {l : List α} {a : α} (i : Nat) (h : l[i]? = some a) : a ∈ l := List.mem_of_getElem? h
inductive Pk (y : Str) (c : Bd) (Γ : List (Str × Bd)) : List (Str × Bd) → Prop
  | nil : Pk y c Γ []
  | here {r : List (Str × Bd)} : Pk y c Γ r → Pk y c Γ ((y, c) :: r)
  | cons {x : Str} {b : Bd} {r : List (Str × Bd)} : (x, b) ∈ Γ → (x == y) = false → Pk y c Γ r → Pk y c Γ ((x, b) :: r)
theorem Pk.g {y : Str} {c : Bd} {Γ r : List (Str × Bd)} (a : Pk y c Γ r) : ∀ q ∈ r, q = (y, c) ∨ (q ∈ Γ ∧ q.1 ≠ y) := by
  induction a with
  | nil => intro q hq; cases hq
  | here _ ih =>
    intro q hq
    rcases List.mem_cons.mp hq with rfl | hq
    · exact .inl rfl
    · exact ih q hq
  | cons h n _ ih =>
    intro q hq
    rcases List.mem_cons.mp hq with rfl | hq
    · exact .inr ⟨h, by rintro rfl; simp at n⟩
    · exact ih q hq
inductive Pq (y : Str) (Γ : List (Str × Bd)) : List (Str × Bd) → Prop
  | nil : Pq y Γ []
  | cons {x : Str} {b : Bd} {r : List (Str × Bd)} : (x, b) ∈ Γ → (x == y) = false → Pq y Γ r → Pq y Γ ((x, b) :: r)
theorem Pq.g {y : Str} {Γ r : List (Str × Bd)} (a : Pq y Γ r) : ∀ q ∈ r, q ∈ Γ ∧ q.1 ≠ y := by
  induction a with
  | nil => intro q hq; cases hq
  | cons h n _ ih =>
    intro q hq
    rcases List.mem_cons.mp hq with rfl | hq
    · exact ⟨h, by rintro rfl; simp at n⟩
    · exact ih q hq
inductive Sb (Γ : List (Str × Bd)) : List (Str × Bd) → Prop
  | nil : Sb Γ []
  | cons {p : Str × Bd} {r : List (Str × Bd)} : p ∈ Γ → Sb Γ r → Sb Γ (p :: r)
theorem Sb.g {Γ r : List (Str × Bd)} (a : Sb Γ r) : ∀ q ∈ r, q ∈ Γ := by
  induction a with
  | nil => intro q hq; cases hq
  | cons h _ ih =>
    intro q hq
    rcases List.mem_cons.mp hq with rfl | hq
    · exact h
    · exact ih q hq

section
variable {C : Cx} {W : Addr → Prop} {s : Shared} {f : Addr} {oc : Value} {od : Option Addr} {osl : Array (Option Value)} {name qual : Str} {params : Arguments} {body : List Stmt} {scope : Scope} {dV kV doc pm cdv ct : Value} {an : Option Addr}
  {args : Args} {binds : List (Str × Value)} {bs : List Bd} {b : Bd}

/-- into a def that changes a list of its caller's -/
theorem enter_mut {x : Str} {l : Addr} {lv : List Value} {n : Nat} {ds ds' : List PyData} {Γ' : Addr → List (Str × Bd)} (ok : C.Ok) (hf : 0 < C.fuel) (S : C.St W s) (hWl : W l) (hgl : C.g l = none) (hl : s.heap.get? l = some (listOf lv.toArray n)) (rl : RepAll W s.heap lv ds)
    (ho : C.K.lookup f = some ⟨oc, od, .func (fnOf name qual params body scope dV kV doc pm an cdv ct), osl⟩) (hcd : codeIn C.K cdv qual = true)
    (hbind : BindsTo s (fnOf name qual params body scope dV kV doc pm an cdv ct) args binds) (hb : BAll W s.heap (binds.map (·.2)) bs) (hn : (binds.map (·.1)).Nodup)
    (hkind : (binds.all fun y => scope.names.lookup y.1 == some .local || scope.names.lookup y.1 == some .cell) = true)
    (hx : (x, .val (.ref l)) ∈ (binds.map (·.1)).zip bs)
    (hbody : ∀ L, ExG (C.into (envOfC qual scope L f cdv)) ((binds.map (·.1)).zip bs) (some (x, ds)) (execs body (envOfC qual scope L f cdv)) (.next (Γ' L) (some (x, ds')))) (hx' : ∀ L, (x, .val (.ref l)) ∈ Γ' L)
    (hno : ∀ L, (envOfC qual scope L f cdv).cells = []) (hnl : ∀ p ∈ (binds.map (·.1)).zip bs, ∀ ds, p.2 ≠ .lst ds)
    (hco : scope.isCoroutine = false := by rfl) (hgen : scope.isGenerator = false := by rfl) (hk : scope.kind = .function := by rfl) :
    codeAny (model C.prog C.w) C.A (.call (.ref f) args) (fun r s' => r = .ok (.ret .none) ∧ Same s s' ∧ (∀ b o, b ≠ l → s.heap.get? b = some o → s'.heap.get? b = some o) ∧ ∃ lv' n', s'.heap.get? l = some (listOf lv'.toArray n') ∧ RepAll W s'.heap lv' ds') s := by
  have hK : s.heap.get? f = some ⟨oc, od, .func (fnOf name qual params body scope dV kV doc pm an cdv ct), osl⟩ := S.g _ _ (ok.KIn _ _ ho)
  have hkk := kindsX hkind
  refine codeAny_call_function (by have := ok.depth; show C.A.depth < 1000; (first | lia | omega)) hK rfl hco hgen rfl ((codeRec_of (h := s.heap) (fun a o e => S.g _ _ (ok.KIn a o e)) hcd)) (hbind _ _ _ _ ?_)
  refine wpAny_newFunctionEnv_cells hk (hkk _) fun env' he s' x' => ?_
  subst he
  refine ⟨(ok.nolimit _ S.g).keeps x'.toInCall.keep, codeAny_func ?_⟩
  obtain ⟨W', O, hW, hW2, ok', gd, l₀, p⟩ := entered (bs := bs) ok S (env := envOfC qual scope s.heap.objs.size f cdv) rfl rfl hk rfl rfl hf x' hb hn (hkk _)
  obtain ⟨h₁, tk, rfl⟩ := x'.toInCall.same
  have hlO : ¬ O l := fun h => by rw [gd.O l h] at hl; cases hl
  have hlL : l ≠ (envOfC qual scope s.heap.objs.size f cdv).locals := fun q => hlO (q ▸ ok'.loc)
  have nocell : ∀ y c, (envOfC qual scope s.heap.objs.size f cdv).cells.lookup y = some c → False := fun y c e => by rw [hno] at e; cases e
  -- the frame without l
  have ok2 : Fm.Ok (C.into (envOfC qual scope s.heap.objs.size f cdv)) (fun a => W' a ∧ a ≠ l) O := ⟨ok'.cx, ok'.kind, ok'.eg, ok'.eb, ok'.loc, fun a h => ⟨ok'.OW a h, fun q => hlO (q ▸ h)⟩, ok'.Og, ok'.cne, ok'.cinj, fun y c e => (nocell y c e).elim, ok'.cO⟩
  have gd2 : Gd (C.into (envOfC qual scope s.heap.objs.size f cdv)) O (fun b => (open Classical in if b = l then none else s.heap.get? b)) := ⟨fun b o e => by
      have : b ≠ l := fun q => by have e : C.g b = some o := e; rw [q, hgl] at e; cases e
      rw [if_neg this]; exact gd.g b o e, fun a h => by
      have : a ≠ l := fun q => hlO (q ▸ h)
      rw [if_neg this]; exact gd.O a h⟩
  have hl1 : h₁.get? l = some (listOf lv.toArray n) := x'.toInCall.keep _ _ hl
  have hWW : ∀ a, ((W' a ∧ a ≠ l) ∨ a = l) → W' a := fun a h => h.elim (·.1) fun q => q ▸ hW l hWl
  have hWW' : ∀ a, W' a → ((W' a ∧ a ≠ l) ∨ a = l) := fun a h => by by_cases q : a = l; exact .inr q; exact .inl ⟨h, q⟩
  have op : OpS (C.into (envOfC qual scope s.heap.objs.size f cdv)) (fun a => W' a ∧ a ≠ l) (fun b => (open Classical in if b = l then none else s.heap.get? b)) ((binds.map (·.1)).zip bs) (some (x, ds)) l { s with heap := h₁, toks := tk } := by
    refine ⟨fun b o e => ?_, ⟨⟨p.pre.st.g, fun a w => p.pre.st.W a (hWW a w)⟩, fun q hq => ?_, p.pre.ns, p.pre.cells⟩, fun y ds₂ e => ?_⟩
    · by_cases q : b = l
      · simp [q] at e
      · rw [if_neg q] at e; exact p.g b o e
    · obtain ⟨v, a1, a2⟩ := p.pre.vars q hq
      exact ⟨v, a1, a2.less hWW⟩
    · cases e
      refine ⟨by simp, fun h => h.2 rfl, ?_, lv, n, hl1, ?_⟩
      · obtain ⟨v, a1, a2⟩ := p.pre.vars _ hx
        have a2 : v = .ref l := a2
        exact a2 ▸ a1
      · refine rl.gen (fun a w => ?_) fun b o _ e => x'.toInCall.keep b o e
        rcases w with ⟨w, _⟩ | q
        · by_cases q : O a
          · exact .inr (gd.O a q)
          · cases q2 : s.heap.get? a with
            | none => exact .inr rfl
            | some o => exact .inl (by
                rcases hW2 a w with h | h
                · exact h
                · exact absurd h q)
        · exact .inl (q ▸ hWl)
  refine wpAny_mono ((hbody s.heap.objs.size).run _ O ok2 _ gd2 _ ⟨l, op⟩) (fun fl s₂ hh₀ => ?_) fun _ _ f => f.elim
  obtain ⟨⟨h₂, t₂, e₂⟩, e, l', q⟩ := hh₀
  subst e
  subst e₂
  obtain ⟨b1, b2, b3, lv', n', b4, b5⟩ := q.own _ _ rfl
  obtain ⟨v, a1, a2⟩ := q.pre.vars _ (hx' _)
  have a2 : v = .ref l := a2
  subst a2
  have e := a1.fun_ b3
  cases e
  refine ⟨rfl, ⟨h₂, t₂, rfl⟩, fun b o hb e => q.g b o (by rw [if_neg hb]; exact e), lv', n', b4, b5.less fun a w => hWW' a (hW a w)⟩
end

structure Like (k : Nat) (C C' : Cx) : Prop where
  prog : C'.prog = C.prog
  w : C'.w = C.w
  g : C'.g = C.g
  K : C'.K = C.K
  mg : C'.mg = C.mg
  mb : C'.mb = C.mb
  fuel : C.fuel ≤ C'.fuel + k
theorem Like.trans {j k : Nat} {C C' C'' : Cx} (a : Like j C C') (b : Like k C' C'') : Like (j + k) C C'' :=
  ⟨b.prog.trans a.prog, b.w.trans a.w, b.g.trans a.g, b.K.trans a.K, b.mg.trans a.mg, b.mb.trans a.mb, by have := a.fuel; have := b.fuel; (first | lia | omega)⟩
theorem Like.more {j k : Nat} {C C' : Cx} (a : Like j C C') (h : j ≤ k) : Like k C C' := ⟨a.prog, a.w, a.g, a.K, a.mg, a.mb, by have := a.fuel; (first | lia | omega)⟩
theorem like_into (C : Cx) (env : Env) : Like 1 C (C.into env).toCx := ⟨rfl, rfl, rfl, rfl, rfl, rfl, by show C.fuel ≤ C.fuel - 1 + 1; (first | lia | omega)⟩
theorem like_into2 (C : Cx) (env : Env) : Like 2 C (C.into env).toCx := (like_into C env).more (by first | decide | assumption | with_reducible exact Int.natCast_nonneg _ | with_reducible exact Nat.le_trans (by assumption) (by decide) | with_reducible exact Nat.lt_of_lt_of_le (by assumption) (by decide) | with_reducible exact lt_mil (Nat.lt_of_lt_of_le (by assumption) (by decide)) | with_reducible exact lt_mil (Nat.lt_of_le_of_lt (by assumption) (by decide)) | with_reducible exact Nat.le_trans (Nat.le_of_lt (by assumption)) (by decide) | (first | lia | omega))

def noLst : List (Str × Bd) → Bool
  | [] => true
  | (_, .lst _) :: _ => false
  | _ :: r => noLst r
theorem noLst_ok : ∀ {Γ : List (Str × Bd)}, noLst Γ = true → ∀ p ∈ Γ, ∀ ds, p.2 ≠ .lst ds
  | [], _, p, hp, _ => by cases hp
  | (n, .lst _) :: r, h, p, hp, ds => by cases h
  | (n, .dat d) :: r, h, p, hp, ds => by
    rcases List.mem_cons.mp hp with rfl | hp
    · exact fun e => by cases e
    · exact noLst_ok (Γ := r) h p hp ds
  | (n, .val d) :: r, h, p, hp, ds => by
    rcases List.mem_cons.mp hp with rfl | hp
    · exact fun e => by cases e
    · exact noLst_ok (Γ := r) h p hp ds

section
variable {F : Fm} {Γ : List (Str × Bd)}
theorem ev_eq {e : Expr} {a b : Bd} (x : EvB F Γ e a) (h : a = b) : EvB F Γ e b := h ▸ x
theorem et_eq {e : Expr} {a b : Bool} (x : EvT F Γ e a) (h : a = b) : EvT F Γ e b := h ▸ x
theorem fdiv_nat {a b : Int} {x y q : Nat} (ha : a = x) (hb : b = y) (hq : q = x / y) : Int.fdiv a b = (q : Int) := by
  subst ha hb hq
  rw [Int.fdiv_eq_ediv_of_nonneg _ (by first | decide | assumption | with_reducible exact Int.natCast_nonneg _ | with_reducible exact Nat.le_trans (by assumption) (by decide) | with_reducible exact Nat.lt_of_lt_of_le (by assumption) (by decide) | with_reducible exact lt_mil (Nat.lt_of_lt_of_le (by assumption) (by decide)) | with_reducible exact lt_mil (Nat.lt_of_le_of_lt (by assumption) (by decide)) | with_reducible exact Nat.le_trans (Nat.le_of_lt (by assumption)) (by decide) | (first | lia | omega))]; simp
theorem binR_div {a b : Int} (h : 0 < b) (h2 : b ≤ 1000000) : BinR F .FloorDiv (.dat (.int a)) (.dat (.int b)) (.dat (.int (Int.fdiv a b))) := binR_fdiv (by first | decide | assumption | with_reducible exact Int.natCast_nonneg _ | with_reducible exact Nat.le_trans (by assumption) (by decide) | with_reducible exact Nat.lt_of_lt_of_le (by assumption) (by decide) | with_reducible exact lt_mil (Nat.lt_of_lt_of_le (by assumption) (by decide)) | with_reducible exact lt_mil (Nat.lt_of_le_of_lt (by assumption) (by decide)) | with_reducible exact Nat.le_trans (Nat.le_of_lt (by assumption)) (by decide) | (first | lia | omega)) (PyProof.noPylong_small (by first | decide | assumption | with_reducible exact Int.natCast_nonneg _ | with_reducible exact Nat.le_trans (by assumption) (by decide) | with_reducible exact Nat.lt_of_lt_of_le (by assumption) (by decide) | with_reducible exact lt_mil (Nat.lt_of_lt_of_le (by assumption) (by decide)) | with_reducible exact lt_mil (Nat.lt_of_le_of_lt (by assumption) (by decide)) | with_reducible exact Nat.le_trans (Nat.le_of_lt (by assumption)) (by decide) | (first | lia | omega)))
theorem binR_md {a b : Int} (h : 0 < b) : BinR F .Mod (.dat (.int a)) (.dat (.int b)) (.dat (.int (Int.fmod a b))) := binR_fmod (by first | decide | assumption | with_reducible exact Int.natCast_nonneg _ | with_reducible exact Nat.le_trans (by assumption) (by decide) | with_reducible exact Nat.lt_of_lt_of_le (by assumption) (by decide) | with_reducible exact lt_mil (Nat.lt_of_lt_of_le (by assumption) (by decide)) | with_reducible exact lt_mil (Nat.lt_of_le_of_lt (by assumption) (by decide)) | with_reducible exact Nat.le_trans (Nat.le_of_lt (by assumption)) (by decide) | (first | lia | omega))
theorem binR_addN {a b c : Nat} (h : c = a + b) : BinR F .Add (.dat (.int (a : Int))) (.dat (.int (b : Int))) (.dat (.int (c : Int))) := by
  subst h; have := binR_add_int (F := F) (a := (a : Int)) (b := (b : Int)); simpa using this
theorem binR_divN {a c k : Nat} {b : Int} (hb : b = k) (h : c = a / k) (h0 : 0 < k) (h1 : k ≤ 1000000) : BinR F .FloorDiv (.dat (.int (a : Int))) (.dat (.int b)) (.dat (.int (c : Int))) := by
  subst h hb
  rw [← fdiv_nat (a := a) (b := k) rfl rfl rfl]
  exact binR_div (by first | decide | assumption | with_reducible exact Int.natCast_nonneg _ | with_reducible exact Nat.le_trans (by assumption) (by decide) | with_reducible exact Nat.lt_of_lt_of_le (by assumption) (by decide) | with_reducible exact lt_mil (Nat.lt_of_lt_of_le (by assumption) (by decide)) | with_reducible exact lt_mil (Nat.lt_of_le_of_lt (by assumption) (by decide)) | with_reducible exact Nat.le_trans (Nat.le_of_lt (by assumption)) (by decide) | (first | lia | omega)) (by first | decide | assumption | with_reducible exact Int.natCast_nonneg _ | with_reducible exact Nat.le_trans (by assumption) (by decide) | with_reducible exact Nat.lt_of_lt_of_le (by assumption) (by decide) | with_reducible exact lt_mil (Nat.lt_of_lt_of_le (by assumption) (by decide)) | with_reducible exact lt_mil (Nat.lt_of_le_of_lt (by assumption) (by decide)) | with_reducible exact Nat.le_trans (Nat.le_of_lt (by assumption)) (by decide) | (first | lia | omega))
theorem cmpR_ltN {a b : Nat} : CmpR F .Lt (.dat (.int (a : Int))) (.dat (.int (b : Int))) (decide (a < b)) := by
  have := cmpR_lt_int (F := F) (a := (a : Int)) (b := (b : Int)); simpa using this
end
end Mine

namespace Mine
open PySem PySem.W PyProof.Rows PySem.Calls
set_option maxRecDepth 100000

/-! ### A new ground under a frame -/
def Cx.reb (C : Cx) (g' : Gh) : Cx := { C with g := g' }
def Fm.reb (F : Fm) (g' : Gh) : Fm := { F with g := g' }
theorem Cx.Ok.reb {C : Cx} {g' : Gh} (ok : C.Ok) (hg : ∀ b o, C.g b = some o → g' b = some o) : (C.reb g').Ok where
  hh := ok.hh
  depth := ok.depth
  units := ok.units
  KIn a o e := hg _ _ (ok.KIn a o e)
  gns h x := ok.gns h fun b o e => x b o (hg b o e)
  bns h x := ok.bns h fun b o e => x b o (hg b o e)
  nolimit h x := ok.nolimit h fun b o e => x b o (hg b o e)
  boot := ok.boot

section
variable {F : Fm} {Γ Γ' : List (Str × Bd)} {own : Own} {out : Out}
theorem reb_run {W O : Addr → Prop} {h0 h1 : Gh} {l : Addr} {s : Shared} {t : Sem Flow} {b : Bd} (ok : F.Ok W O) (gd : Gd F O h1) (up : ∀ b o, h0 b = some o → h1 b = some o) (p : OpS F W h1 Γ none l s)
    (h : ExG (F.reb h1) Γ none t (.ret b)) : wpAny (model F.prog F.w) F.A t (fun f s' => Same s s' ∧ OutS F W h0 (.ret b) f s') (fun _ _ => False) s := by
  have ok' : (F.reb h1).Ok W O := ⟨ok.cx.reb gd.g, ok.kind, ok.eg, ok.eb, ok.loc, ok.OW, gd.O, ok.cne, ok.cinj, ok.cW, ok.cO⟩
  have gd' : Gd (F.reb h1) O h1 := ⟨fun _ _ e => e, gd.O⟩
  have p' : OpS (F.reb h1) W h1 Γ none l s := ⟨p.g, ⟨⟨p.g, p.pre.st.W⟩, p.pre.vars, p.pre.ns, p.pre.cells⟩, fun x ds e => by cases e⟩
  exact wpAny_mono (h.run W O ok' h1 gd' s ⟨l, p'⟩) (fun f s' ⟨sm, v, e, g, r⟩ => ⟨sm, v, e, fun b o e => g b o (up b o e), r⟩) fun _ _ f => f

/-- what makes a plain object of a class -/
abbrev EvM (F : Fm) (Γ : List (Str × Bd)) (e : Expr) (C : Addr) : Prop := Wrap (∀ W O, F.Ok W O → ∀ s, F.Pre W Γ s →
  wpAny (model F.prog F.w) F.A (eval e F.env) (fun v s' => Keeps s s' ∧ ∃ a dx, v = .ref a ∧ s'.heap.get? a = some (instObj C dx) ∧ s'.heap.get? dx = some emptyDict ∧ ¬ W a ∧ ¬ W dx) (fun _ _ => False) s)

theorem ex_make {x : Str} {px pos : Pos} {e : Expr} {rest : List Stmt} {b : Bd} {C : Addr} (v : EvM F Γ e C) (hk : Sto F x) (hΓ : ∀ q ∈ Γ', q ∈ Γ ∧ q.1 ≠ x)
    (hrest : ∀ g' a dx, (∀ b o, F.g b = some o → g' b = some o) → g' a = some (instObj C dx) → g' dx = some emptyDict → ExG (F.reb g') ((x, .val (.ref a)) :: Γ') none (execs rest F.env) (.ret b))
    (hs : swapsWith e (some (.Name x px)) pos.line F.env = pure false := by rfl) : ExG F Γ none (execs (.Assign [.Name x px] e pos :: rest) F.env) (.ret b) := .mk fun W O ok h0 gd s ⟨l, p⟩ => by
  refine wpAny_execs_cons (wpAny_Assign_Name (wpAny_mono (v.run _ _ ok s p.pre) (fun u s₁ hh₀ => ?_) fun _ _ f => f.elim) hs)
  obtain ⟨k₁, a, dx, e₁, ha, hdx, nWa, nWd⟩ := hh₀
  subst e₁
  have p₁ := p.keeps k₁
  obtain ⟨h1, gd1, q1, up, all⟩ := ghost_strong ok gd p₁
  refine q1.store (Γ' := (x, .val (.ref a)) :: Γ') ok gd1 (b := .val (.ref a)) rfl hk (fun y ds e => by cases e) (fun q hq => ?_) fun s₂ sm₂ q₂ => ?_
  · rcases List.mem_cons.mp hq with rfl | hq
    · exact .inl rfl
    · exact .inr (hΓ q hq)
  · have h1a := all _ _ (fun w => nWa (ok.OW _ w)) ha
    have h1d := all _ _ (fun w => nWd (ok.OW _ w)) hdx
    exact wpAny_mono (reb_run ok gd1 up q₂ (hrest h1 a dx gd1.g h1a h1d)) (fun f s₃ ⟨sm₃, q⟩ => ⟨same_trans (same_trans (same_keeps k₁) sm₂) sm₃, q⟩) fun _ _ f => f

theorem make_plain {prog : Program} {w : World} {A : Around} {K : Frag} {C : Addr} {s : Shared} {R : Except Value Flow → Shared → Prop} (X : K.In s.heap) (hm : makesIn K C = true) (hi : findIn K (.ref C) "__init__" = some (some (.builtin "object.__init__")))
    (z : R (.ok (.ret (.ref (s.heap.objs.size + 1)))) { s with heap := (s.heap.push emptyDict).push (instObj C s.heap.objs.size) }) :
    codeAny (model prog w) A (.call (.ref C) ⟨[], []⟩) R s := by
  obtain ⟨hh, g, d, t, os⟩ := s
  have Y := makes_of (M := model prog w) X hm
  refine make_core Y (looks_findIn X hi) (fun self => Looks.of_pure (oi_bind self)) (.inr ⟨rfl, rfl⟩) ?_
  have hx : ((hh.push emptyDict).push (instObj C hh.objs.size)).get? (hh.objs.size + 1) = some (instObj C hh.objs.size) := by heap_get
  have t1 : Looks (model prog w) ((hh.push emptyDict).push (instObj C hh.objs.size)) (typeOf (.ref (hh.objs.size + 1))) (.ref C) := (Looks.ld hx).andThen .now
  have t2 : Looks (model prog w) ((hh.push emptyDict).push (instObj C hh.objs.size)) (isInstance (.ref (hh.objs.size + 1)) (.type "object")) true := t1.andThen (Y.top.keeps fun b o e => Heap.get?_push_of_some _ (Heap.get?_push_of_some _ e))
  refine codeAny_call_builtin oi_plain entry_oi (@check_slot (model prog w) _ _ _ "object.__init__" "object" "__init__" (.ref (hh.objs.size + 1)) [] [] _ oi_kind oi_split t2 (oi_args (.ref (hh.objs.size + 1))) ?_)
  rw [oi_run]
  exact wpAny_pure (And.intro rfl z)

theorem evm_call {fe : Expr} {pos : Pos} {C : Addr} (hf : EvB F Γ fe (.val (.ref C))) (hkp : keepIn F.K (.ref C) = true) (hm : makesIn F.K C = true) (hi : findIn F.K (.ref C) "__init__" = some (some (.builtin "object.__init__")))
    (harm : ∀ env, eval (.Call fe [] [] pos) env = (do callWith pos (← eval fe env) [] (backTo pos (starEach [] env)) (backToKw pos (keywordEach [] env))) := by intro _; rfl) : EvM F Γ (.Call fe [] [] pos) C := .mk fun W O ok s p => by
  rw [harm]
  refine wpAny_bind (hf.use ok p fun f s₁ k₁ p₁ r₁ => ?_)
  have r₁ : f = .ref C := r₁
  subst r₁
  have X : F.K.In s₁.heap := fun a o e => p₁.st.g _ _ (ok.cx.KIn a o e)
  refine callWith_K0 X hkp (wpAny_call (make_plain X hm hi ?_))
  have h1 : ∀ a, s₁.heap.objs.size ≤ a → ¬ W a := fun a ha w => by
    obtain ⟨o, ho⟩ := p₁.st.W a w
    exact absurd (Heap.lt_size ho) (Nat.not_lt.mpr ha)
  refine ⟨keeps_trans k₁ (keeps_trans (keeps_push s₁ emptyDict) (keeps_push { s₁ with heap := s₁.heap.push emptyDict } (instObj C s₁.heap.objs.size))), _, s₁.heap.objs.size, rfl, ?_, ?_, h1 _ (by first | decide | assumption | with_reducible exact Int.natCast_nonneg _ | with_reducible exact Nat.le_trans (by assumption) (by decide) | with_reducible exact Nat.lt_of_lt_of_le (by assumption) (by decide) | with_reducible exact lt_mil (Nat.lt_of_lt_of_le (by assumption) (by decide)) | with_reducible exact lt_mil (Nat.lt_of_le_of_lt (by assumption) (by decide)) | with_reducible exact Nat.le_trans (Nat.le_of_lt (by assumption)) (by decide) | (first | lia | omega)), h1 _ (by first | decide | assumption | with_reducible exact Int.natCast_nonneg _ | with_reducible exact Nat.le_trans (by assumption) (by decide) | with_reducible exact Nat.lt_of_lt_of_le (by assumption) (by decide) | with_reducible exact lt_mil (Nat.lt_of_lt_of_le (by assumption) (by decide)) | with_reducible exact lt_mil (Nat.lt_of_le_of_lt (by assumption) (by decide)) | with_reducible exact Nat.le_trans (Nat.le_of_lt (by assumption)) (by decide) | (first | lia | omega))⟩
  · heap_get
  · heap_get

/-- a method of such an object -/
theorem ev_inst {o : Expr} {es : List Expr} {name : Str} {apos pos : Pos} {a C dx f : Addr} {fo : Obj} {fd : FuncData} {c : Bd} {args : List Bd} (x : EvB F Γ o (.val (.ref a))) (y : EvL F Γ pos es args) (ha : F.g a = some (instObj C dx)) (hdx : F.g dx = some emptyDict)
    (hg : plainGet F.K C name = true) (hf : findIn F.K (.ref C) name = some (some (.ref f))) (ht : isFn F.K (.ref f) = true) (hfo : F.g f = some fo) (hfd : fo.data = .func fd)
    (h : CallOk F.toCx (.ref f) (.val (.ref a) :: args) [] [] c)
    (hbase : ∀ env, attributeBase o name env (eval o env) = eval o env := by intro _; rfl) (hn : ∀ env, (starEach es env).any (·.1) = false := by intro _; rfl) (hlen : decide (es.length < 29) = true := by rfl) (hline : (apos.endLine == pos.line) = true := by rfl) :
    EvB F Γ (.Call (.Attribute o name apos) es [] pos) c := .mk fun W O ok s p => by
  rw [arm_eval_Call, hbase]
  refine wpAny_bind (x.use ok p fun ov s₁ k₁ p₁ r₁ => ?_)
  have r₁ : ov = .ref a := r₁
  subst r₁
  refine wpAny_bind (wpAny_standAt ?_)
  have hany : (backTo pos (starEach es F.env)).any (·.1) = false := by rw [backTo_plain]; exact hn _
  have hall : (backTo pos (starEach es F.env)).all (!·.1) = true := by
    rw [List.all_eq_true]
    intro q hq
    have := List.any_eq_false.mp hany q hq
    simpa using this
  have hform : methodCallForm (es.length + ([] : List Keyword).length) (backTo pos (starEach es F.env)) (backToKw pos (keywordEach [] F.env)) = true := by
    unfold methodCallForm
    rw [hall]
    have : es.length < 29 := of_decide_eq_true hlen
    show (true && true && decide (es.length + 0 + 0 < 30)) = true
    simp; (first | lia | omega)
  have hpos : methodCallPos true o F.env apos pos = pure pos := by unfold methodCallPos; simp [hline]
  unfold methodCall
  rw [hform]
  have X : F.K.In s₁.heap := fun a o e => p₁.st.g _ _ (ok.cx.KIn a o e)
  have I : InstAt s₁.heap a (instObj C dx) C (some emptyDict) := ⟨p₁.st.g _ _ ha, rfl, rfl, p₁.st.g _ _ hdx⟩
  refine wpAny_bind (wpAny_holding (method_fn X I (plainGet_of hg).1 (plainGet_of hg).2 hf (beq_iff_eq.mp ht) (by rfl) ?_))
  refine wpAny_bind (wpAny_of_eq hpos ?_)
  refine callWith_function_kw (o := fo) (fd := fd) (evalArgs_any hany rfl (wpAny_mono (y.run W O ok s₁ p₁) (fun vs s₂ hh₀ => ?_) fun _ _ f => f.elim))
  obtain ⟨k₂, r₂⟩ := hh₀
  refine wpAny_evalAll_nil ?_
  refine ⟨⟨(p₁.keeps k₂).st.g _ _ hfo, hfd⟩, ?_⟩
  exact wpAny_mono (h.run ok.cx W s₂ (.ref a :: vs) [] (p₁.keeps k₂).st (.cons (b := .val (.ref a)) rfl r₂) .nil) (fun r s₃ ⟨k₃, r₃⟩ => ⟨keeps_trans (keeps_trans k₁ k₂) k₃, r₃⟩) fun _ _ f => f
end
end Mine

namespace Mine
open PySem PySem.W PyProof.Rows PySem.Calls
set_option maxRecDepth 100000

section
variable {F : Fm} {Γ Γ' : List (Str × Bd)} {own : Own} {out : Out}
theorem asg_tupleT {ts : List Expr} {k : Nat} {pos : Pos} {ds : List PyData} (hn : ∀ t ∈ ts, ∃ x pos, t = .Name x pos) (hl : ts.length = ds.length) (a : AsgAll F Γ own ts ds Γ') : Asg F Γ own (.Tuple ts k pos) (.tuple ds) Γ' := .mk fun W O ok h0 gd l s v p r => by
  cases r with
  | tuple hW ht r =>
    rename_i a' vs
    obtain ⟨h1, h2⟩ := noStars (env := F.env) hn
    have hlen := r.length
    refine wpAny_assign_Tuple ok.cx.hh ht (by rw [h1, hl, ← hlen]; simp) h2 fun h' he => ?_
    have hk : KeepAll s.heap h' := fun b o e => he b o (Nat.ne_of_lt (Heap.lt_size e)) e
    have kk : Keeps s { s with heap := h' } := ⟨h', s.toks, rfl, hk⟩
    exact wpAny_mono (a.run W O ok h0 gd l _ vs (p.keeps kk) (r.keeps hk)) (fun _ s' ⟨sm, q⟩ => ⟨same_trans (same_keeps kk) sm, q⟩) fun _ _ f => f
theorem names2 {x y : Str} {p q : Pos} : ∀ t ∈ [Expr.Name x p, .Name y q], ∃ x pos, t = .Name x pos := fun t ht => by
  rcases List.mem_cons.mp ht with rfl | ht
  · exact ⟨_, _, rfl⟩
  · rw [List.mem_singleton] at ht
    exact ⟨_, _, ht⟩
theorem names3 {x y z : Str} {p q r : Pos} : ∀ t ∈ [Expr.Name x p, .Name y q, .Name z r], ∃ x pos, t = .Name x pos := fun t ht => by
  rcases List.mem_cons.mp ht with rfl | ht
  · exact ⟨_, _, rfl⟩
  · exact names2 t ht

/-- a, b = e -/
theorem ex_unpack {ts : List Expr} {k : Nat} {tpos pos : Pos} {e : Expr} {d : PyData} (v : EvE F (gam Γ own) e d) (a : Asg F Γ own (.Tuple ts k tpos) d Γ')
    (hs : swapsWithSole [.Tuple ts k tpos] e pos.line F.env = pure false := by rfl) (hw : swappedStores [.Tuple ts k tpos] e F.env = pure none := by rfl) :
    ExG F Γ own (exec (.Assign [.Tuple ts k tpos] e pos) F.env) (.next Γ' own) := .mk fun W O ok h0 gd s ⟨l, p⟩ =>
  Assign_Tuple (p.ev ok gd v fun v s₁ k₁ p₁ r₁ => wpAny_mono (a.run W O ok h0 gd l s₁ v p₁ r₁) (fun _ s₂ ⟨sm, q⟩ => ⟨same_trans (same_keeps k₁) sm, rfl, l, q⟩) fun _ _ f => f) hs hw

end
end Mine

namespace Mine
open PySem PySem.W PyProof.Rows PySem.Calls
set_option maxRecDepth 100000

section
variable {F : Fm} {Γ Γ' : List (Str × Bd)} {own : Own} {out : Out}
theorem ev_neg {e : Expr} {pos : Pos} {a : Int} (x : EvE F Γ e (.int a)) : EvE F Γ (.UnaryOp .USub e pos) (.int (-a)) := .mk fun W O ok s p =>
  wpAny_UnaryOp (x.use ok p fun v s₁ k₁ p₁ r₁ => by
    (first | obtain rfl := BAll.inv0 r₁ | obtain ⟨_, rfl⟩ := Rep.inv_int r₁ | obtain ⟨_, rfl⟩ := Rep.inv_str r₁ | obtain rfl := Rep.inv_none r₁ | cases r₁)
    exact P.neg_int ⟨keeps_trans k₁ (keeps_tok s₁ _), .int _ _⟩)
theorem ev_strL {x : Str} {l : List Nat} {k : Nat} {pos : Pos} (h : x = st l) : EvE F Γ (.Constant (.str x) k pos) (.str (st l)) := h ▸ ev_str
end

/-- the bits of a number, as signs -/
def figs (n : Int) (m : Nat) : List Nat := (List.range m).reverse.map fun k => 48 + (n / 2 ^ k % 2).toNat
theorem figs_length (n : Int) (m : Nat) : (figs n m).length = m := by simp [figs]
theorem figs_mem {n : Int} {m c : Nat} (h : c ∈ figs n m) : c = 48 ∨ c = 49 := by
  simp only [figs, List.mem_map] at h
  obtain ⟨k, _, rfl⟩ := h
  (first | lia | omega)
theorem filter_tt {α : Type} (l : List α) : l.filter (fun _ => true) = l := by simp
theorem flatten_single {α β : Type} (l : List α) (f : α → β) : (l.map fun a => [f a]).flatten = l.map f := by
  induction l with
  | nil => rfl
  | cons a l ih => simp [ih]

theorem pow2_small {k : Nat} (h : k < 20) : (2 : Int) ^ k < 600000 := by
  have : (2 : Nat) ^ k ≤ 2 ^ 19 := Nat.pow_le_pow_right (by first | decide | assumption | with_reducible exact Int.natCast_nonneg _ | with_reducible exact Nat.le_trans (by assumption) (by decide) | with_reducible exact Nat.lt_of_lt_of_le (by assumption) (by decide) | with_reducible exact lt_mil (Nat.lt_of_lt_of_le (by assumption) (by decide)) | with_reducible exact lt_mil (Nat.lt_of_le_of_lt (by assumption) (by decide)) | with_reducible exact Nat.le_trans (Nat.le_of_lt (by assumption)) (by decide) | (first | lia | omega)) (by first | decide | assumption | with_reducible exact Int.natCast_nonneg _ | with_reducible exact Nat.le_trans (by assumption) (by decide) | with_reducible exact Nat.lt_of_lt_of_le (by assumption) (by decide) | with_reducible exact lt_mil (Nat.lt_of_lt_of_le (by assumption) (by decide)) | with_reducible exact lt_mil (Nat.lt_of_le_of_lt (by assumption) (by decide)) | with_reducible exact Nat.le_trans (Nat.le_of_lt (by assumption)) (by decide) | (first | lia | omega))
  have e : ((2 : Nat) ^ k : Int) = (2 : Int) ^ k := by norm_cast
  (first | lia | omega)
theorem bit_of (n : Int) (k : Nat) : Int.fmod (Int.fdiv n ((2 : Int) ^ (k : Int).toNat)) 2 = ((n / 2 ^ k % 2).toNat : Int) := by
  have h2 : (0 : Int) ≤ 2 ^ k := Int.pow_nonneg (by first | decide | assumption | with_reducible exact Int.natCast_nonneg _ | with_reducible exact Nat.le_trans (by assumption) (by decide) | with_reducible exact Nat.lt_of_lt_of_le (by assumption) (by decide) | with_reducible exact lt_mil (Nat.lt_of_lt_of_le (by assumption) (by decide)) | with_reducible exact lt_mil (Nat.lt_of_le_of_lt (by assumption) (by decide)) | with_reducible exact Nat.le_trans (Nat.le_of_lt (by assumption)) (by decide) | (first | lia | omega))
  rw [Int.toNat_natCast, Int.fdiv_eq_ediv_of_nonneg _ h2, Int.fmod_eq_emod_of_nonneg _ (by first | decide | assumption | with_reducible exact Int.natCast_nonneg _ | with_reducible exact Nat.le_trans (by assumption) (by decide) | with_reducible exact Nat.lt_of_lt_of_le (by assumption) (by decide) | with_reducible exact lt_mil (Nat.lt_of_lt_of_le (by assumption) (by decide)) | with_reducible exact lt_mil (Nat.lt_of_le_of_lt (by assumption) (by decide)) | with_reducible exact Nat.le_trans (Nat.le_of_lt (by assumption)) (by decide) | (first | lia | omega))]
  (first | lia | omega)
end Mine

namespace Mine
open PySem PySem.W PyProof.Rows PySem.Calls
set_option maxRecDepth 100000

theorem lookup_sub {cl cells : List (Str × Addr)} (h : ∀ p ∈ cl, cells.lookup p.1 = some p.2) : ∀ y c, cl.lookup y = some c → cells.lookup y = some c := fun y c e => h (y, c) (mem_of_lookup e)

/-- plain data: ints, texts, lists of such -/
inductive Pl : Nat → PyData → Prop
  | int {n : Nat} (i : Int) : Pl n (.int i)
  | str {n : Nat} (l : List Nat) : (∀ c ∈ l, c < 0x110000) → Pl n (.str (st l))
  | list {n : Nat} (ds : List PyData) : (∀ d ∈ ds, Pl n d) → Pl (n + 1) (.list ds)
theorem strOk_st {l : List Nat} (h : ∀ c ∈ l, c < 0x110000) : PyData.strOk (st l) = true := by
  unfold PyData.strOk st
  rw [List.all_toArray, List.all_eq_true]
  intro c hc
  exact decide_eq_true (h c hc)
theorem canLayAll0_of {ds : List PyData} (h : ∀ d ∈ ds, d.canLay0 = true) : PyData.canLayAll0 ds = true := by
  induction ds with
  | nil => rfl
  | cons d r ih =>
    unfold PyData.canLayAll0
    rw [h d (.head _), ih fun e he => h e (.tail _ he)]
    rfl
theorem depthAll_of {ds : List PyData} {n : Nat} (h : ∀ d ∈ ds, d.depth ≤ n) : PyData.depthAll ds ≤ n := by
  induction ds with
  | nil => unfold PyData.depthAll; (first | lia | omega)
  | cons d r ih =>
    unfold PyData.depthAll
    have := h d (.head _)
    have := ih fun e he => h e (.tail _ he)
    (first | lia | omega)
theorem Pl.lay {n : Nat} {d : PyData} (h : Pl n d) : d.canLay0 = true ∧ d.depth ≤ n := by
  induction h with
  | int i => exact ⟨by unfold PyData.canLay0; rfl, by unfold PyData.depth; (first | lia | omega)⟩
  | str l hl => exact ⟨by unfold PyData.canLay0; exact strOk_st hl, by unfold PyData.depth; (first | lia | omega)⟩
  | list ds hd ih =>
    refine ⟨by unfold PyData.canLay0; exact canLayAll0_of fun d hd => (ih d hd).1, ?_⟩
    unfold PyData.depth
    have := depthAll_of fun d hd => (ih d hd).2
    (first | lia | omega)
theorem Pl.shaped {n : Nat} {d : PyData} (h : Pl n d) (hn : n ≤ 64) : SeqAt.shaped d = true := by
  obtain ⟨a, b⟩ := h.lay
  unfold SeqAt.shaped
  rw [a, decide_eq_true (by first | decide | assumption | with_reducible exact Int.natCast_nonneg _ | with_reducible exact Nat.le_trans (by assumption) (by decide) | with_reducible exact Nat.lt_of_lt_of_le (by assumption) (by decide) | with_reducible exact lt_mil (Nat.lt_of_lt_of_le (by assumption) (by decide)) | with_reducible exact lt_mil (Nat.lt_of_le_of_lt (by assumption) (by decide)) | with_reducible exact Nat.le_trans (Nat.le_of_lt (by assumption)) (by decide) | (first | lia | omega))]; rfl
theorem beq_str_iff (a b : Str) : (a == b) = true ↔ a = b := by rw [beq_str]; exact decide_eq_true_iff
theorem Pl.eqv {n : Nat} {a : PyData} (h : Pl n a) : ∀ {m : Nat} {b : PyData}, Pl m b → (PyData.eqv a b = true ↔ a = b) := by
  induction h with
  | int i =>
    intro m b h'
    cases h' with
    | int j => unfold PyData.eqv; simp
    | str l hl => unfold PyData.eqv; simp
    | list ds hd => unfold PyData.eqv; simp
  | str l hl =>
    intro m b h'
    cases h' with
    | int j => unfold PyData.eqv; simp
    | str l' hl' => unfold PyData.eqv; rw [beq_str_iff]; simp
    | list ds hd => unfold PyData.eqv; simp
  | list ds hd ih =>
    intro m b h'
    cases h' with
    | int j => unfold PyData.eqv; simp
    | str l' hl' => unfold PyData.eqv; simp
    | list es he =>
      unfold PyData.eqv
      rw [PyData.list.injEq]
      clear hd
      induction ds generalizing es with
      | nil => cases es with
        | nil => unfold PyData.eqvAll; simp
        | cons e r => unfold PyData.eqvAll; simp
      | cons d r ih2 => cases es with
        | nil => unfold PyData.eqvAll; simp
        | cons e r' =>
          unfold PyData.eqvAll
          rw [Bool.and_eq_true, ih d (.head _) (he e (.head _)), ih2 (fun d hd m b hb => ih d (.tail _ hd) hb) r' (fun e h => he e (.tail _ h)), List.cons.injEq]
section
variable {F : Fm}
theorem cmpR_eq_pl {n m : Nat} {a b : PyData} {c : Bool} (ha : Pl n a) (hb : Pl m b) (h : c = true ↔ a = b) (hn : n ≤ 64 := by omega) (hm : m ≤ 64 := by omega) : CmpR F .Eq (.dat a) (.dat b) c := by
  have : PyData.eqv a b = c := Bool.eq_iff_iff.mpr ((ha.eqv hb).trans h.symm)
  exact this ▸ cmpR_eq_data (ha.shaped hn) (hb.shaped hm)
theorem cmpR_ne_pl {n m : Nat} {a b : PyData} {c : Bool} (ha : Pl n a) (hb : Pl m b) (h : c = true ↔ a ≠ b) (hn : n ≤ 64 := by omega) (hm : m ≤ 64 := by omega) : CmpR F .NotEq (.dat a) (.dat b) c := by
  have : (!PyData.eqv a b) = c := by
    apply Bool.eq_iff_iff.mpr
    have q := ha.eqv hb
    rw [h, ne_eq, ← q]
    simp
  exact this ▸ cmpR_ne_data (ha.shaped hn) (hb.shaped hm)
theorem Pl.ints {n : Nat} {ns : List Int} : Pl (n + 1) (.list (ns.map .int)) := .list _ fun d hd => by
  obtain ⟨l, hl, rfl⟩ := List.mem_map.mp hd
  exact .int l

theorem methIs_index {ds : List PyData} : MethIs F "index" "list.index" (.dat (.list ds)) := fun W s v S r => by
  cases r with
  | list hn hl r =>
    refine ⟨"list", PySem.F.plainAttrs_list, PySem.F.slot_list_index, PySem.F.type_list_index, hl.1.typeIs, fun a e => ?_⟩
    cases e
    exact hl.2
theorem weight_ints : ∀ ns : List Int, (∀ n ∈ ns, n.natAbs < 1000) → PyData.weight (.list (ns.map .int)) ≤ 20 * ns.length + 20 := by
  intro ns
  unfold PyData.weight
  induction ns with
  | nil => intro _; unfold PyData.weightAll; simp
  | cons n r ih =>
    intro h
    have h1 := h n (.head _)
    have h2 := ih fun m hm => h m (.tail _ hm)
    rw [List.map_cons]
    unfold PyData.weightAll PyData.weight
    rw [List.length_cons]
    have : (if n == 0 then 0 else n.natAbs.log2 + 1) ≤ 11 := by
      split
      · (first | lia | omega)
      · rename_i hn
        have hn : n.natAbs ≠ 0 := by
          intro q; apply hn; simpa using q
        have := (Nat.log2_lt hn (k := 10)).mpr (by first | decide | assumption | with_reducible exact Int.natCast_nonneg _ | with_reducible exact Nat.le_trans (by assumption) (by decide) | with_reducible exact Nat.lt_of_lt_of_le (by assumption) (by decide) | with_reducible exact lt_mil (Nat.lt_of_lt_of_le (by assumption) (by decide)) | with_reducible exact lt_mil (Nat.lt_of_le_of_lt (by assumption) (by decide)) | with_reducible exact Nat.le_trans (Nat.le_of_lt (by assumption)) (by decide) | (first | lia | omega))
        (first | lia | omega)
    (first | lia | omega)
theorem callOk_index {C : Cx} {ns : List Int} {k : Int} (hk : k ∈ ns) (hz : ns.length ≤ 1000) (hs : ∀ n ∈ ns, n.natAbs < 1000) : CallOk C (.builtin "list.index") [.dat (.list (ns.map .int)), .dat (.int k)] [] [] (.dat (.int (ns.idxOf k : Nat))) := .mk fun ok W s vs ks S x y => by
  obtain ⟨_, _, rfl, r1, r2⟩ := BAll.inv2 x
  obtain rfl := BAll.inv0 y
  cases r1 with
  | list hn hl r =>
    (first | obtain rfl := BAll.inv0 r2 | obtain ⟨_, rfl⟩ := Rep.inv_int r2 | obtain ⟨_, rfl⟩ := Rep.inv_str r2 | obtain rfl := Rep.inv_none r2 | cases r2)
    refine index_list_ints hl.1 (intsAre_of r) ?_ hk ⟨keeps_tok s _, .int _ _⟩
    have h1 := (Pl.ints (n := 0) (ns := ns)).lay
    have h2 := weight_ints ns hs
    unfold PyData.layable0
    rw [h1.1, decide_eq_true (by first | decide | assumption | with_reducible exact Int.natCast_nonneg _ | with_reducible exact Nat.le_trans (by assumption) (by decide) | with_reducible exact Nat.lt_of_lt_of_le (by assumption) (by decide) | with_reducible exact lt_mil (Nat.lt_of_lt_of_le (by assumption) (by decide)) | with_reducible exact lt_mil (Nat.lt_of_le_of_lt (by assumption) (by decide)) | with_reducible exact Nat.le_trans (Nat.le_of_lt (by assumption)) (by decide) | (first | lia | omega)), decide_eq_true (by first | decide | assumption | with_reducible exact Int.natCast_nonneg _ | with_reducible exact Nat.le_trans (by assumption) (by decide) | with_reducible exact Nat.lt_of_lt_of_le (by assumption) (by decide) | with_reducible exact lt_mil (Nat.lt_of_lt_of_le (by assumption) (by decide)) | with_reducible exact lt_mil (Nat.lt_of_le_of_lt (by assumption) (by decide)) | with_reducible exact Nat.le_trans (Nat.le_of_lt (by assumption)) (by decide) | (first | lia | omega))]
    rfl
end
end Mine

namespace Mine
open PySem PySem.W PyProof.Rows PySem.Calls
set_option maxRecDepth 100000

section
variable {C : Cx} {W : Addr → Prop} {s : Shared} {f : Addr} {o : Obj} {name qual : Str} {params : Arguments} {body : List Stmt} {scope : Scope} {dV kV doc pm cdv ct : Value} {an : Option Addr}
  {args : Args} {binds : List (Str × Value)} {bs : List Bd} {b : Bd}
/-- into a def that is no part of K -/
theorem enterO (ok : C.Ok) (hf : 0 < C.fuel) (S : C.St W s) (hK : s.heap.get? f = some o) (hfd : o.data = .func (fnOf name qual params body scope dV kV doc pm an cdv ct)) (hcd : s.heap.CodeRec cdv qual)
    (hbind : BindsTo s (fnOf name qual params body scope dV kV doc pm an cdv ct) args binds) (hb : BAll W s.heap (binds.map (·.2)) bs) (hn : (binds.map (·.1)).Nodup)
    (hkind : (binds.all fun y => scope.names.lookup y.1 == some .local || scope.names.lookup y.1 == some .cell) = true)
    (hbody : ∀ L, ExG (C.into (envOfC qual scope L f cdv)) ((binds.map (·.1)).zip bs) none (execs body (envOfC qual scope L f cdv)) (.ret b))
    (hco : scope.isCoroutine = false := by rfl) (hgen : scope.isGenerator = false := by rfl) (hk : scope.kind = .function := by rfl) :
    codeAny (model C.prog C.w) C.A (.call (.ref f) args) (fun r s' => ∃ v, r = .ok (.ret v) ∧ Keeps s s' ∧ BRep W s'.heap v b) s := by
  have hkk := kindsX hkind
  refine codeAny_call_function (by have := ok.depth; show C.A.depth < 1000; (first | lia | omega)) hK hfd hco hgen rfl hcd (hbind _ _ _ _ ?_)
  refine wpAny_newFunctionEnv_cells hk (hkk _) fun env' he s' x => ?_
  subst he
  refine ⟨(ok.nolimit _ S.g).keeps x.toInCall.keep, codeAny_func ?_⟩
  obtain ⟨W', O, hW, hW2, ok', gd, p⟩ := entered (bs := bs) ok S (env := envOfC qual scope s.heap.objs.size f cdv) rfl rfl hk rfl rfl hf x hb hn (hkk _)
  obtain ⟨h₁, tk, rfl⟩ := x.toInCall.same
  refine wpAny_mono ((hbody s.heap.objs.size).run W' O ok' _ gd _ p) (fun fl s₂ hh₀ => ?_) fun _ _ f => f.elim
  obtain ⟨⟨h₂, t₂, e₂⟩, v, e, hG, r⟩ := hh₀
  subst e
  refine ⟨v, rfl, ?_, r.less hW⟩
  subst e₂
  exact ⟨h₂, t₂, rfl, hG⟩
end
section
variable {F : Fm} {Γ Γ' : List (Str × Bd)} {own : Own}
theorem ev_acomp {elt target iter : Expr} {ifs : List Expr} {scope : Scope} {pos : Pos} (cl : List (Str × Addr)) {items : List PyData} (Γc : List (Str × Bd)) (p : PyData → Bool) (f : PyData → PyData) (res : List PyData)
    (hi : EvI F Γ iter items) (hz : items.length ≤ 100000) (he : (items.filter p).map f = res)
    (hb : ∀ L, ∀ d ∈ items, ∃ Γd, Asg (F.comp scope cl L) Γc none target d Γd ∧ EvTs (F.comp scope cl L) Γd ifs (p d) ∧ (p d = true → EvE (F.comp scope cl L) Γd elt (f d)))
    (hv : ∀ q ∈ Γc, q ∈ Γ ∧ CompSees F scope cl q.1)
    (hcl : closureFor scope F.env = pure cl) (hsub : ∀ y c, cl.lookup y = some c → F.env.cells.lookup y = some c)
    (hcell : (scope.names.all fun y => y.2 != .cell) = true := by decide) (hkind : scope.kind = .function := by rfl) (hnames : (scope.names.all fun y => y.2 != .local || scope.names.lookup y.1 == some .local) = true := by decide)
    (hs : ∀ x, foldedSetIterable iter F.env x = pure x := by intro _; rfl) : EvE F Γ (.ListComp elt [⟨target, iter, ifs, 0⟩] scope pos) (.list res) := he ▸ ev_comp Γc p f hcl hsub hi hz hv hb hcell hkind hnames hs
theorem ex_acomp {x : Str} {px pos : Pos} {elt target iter : Expr} {ifs : List Expr} {scope : Scope} {cpos : Pos} (cl : List (Str × Addr)) {items : List PyData} (Γc : List (Str × Bd)) (p : PyData → Bool) (f : PyData → PyData) (res : List PyData)
    (hi : EvI F (gam Γ own) iter items) (hz : items.length ≤ 100000) (he : (items.filter p).map f = res)
    (hb : ∀ L, ∀ d ∈ items, ∃ Γd, Asg (F.comp scope cl L) Γc none target d Γd ∧ EvTs (F.comp scope cl L) Γd ifs (p d) ∧ (p d = true → EvE (F.comp scope cl L) Γd elt (f d)))
    (hv : ∀ q ∈ Γc, q ∈ gam Γ own ∧ CompSees F scope cl q.1)
    (hcl : closureFor scope F.env = pure cl) (hsub : ∀ y c, cl.lookup y = some c → F.env.cells.lookup y = some c)
    (hsw : swapsWith (.ListComp elt [⟨target, iter, ifs, 0⟩] scope cpos) (some (.Name x px)) pos.line F.env = pure true)
    (hk : Sto F x) (hx : ∀ y ds, own = some (y, ds) → y ≠ x) (hΓ : ∀ q ∈ Γ', q = (x, .dat (.list res)) ∨ (q ∈ Γ ∧ q.1 ≠ x))
    (hcell : (scope.names.all fun y => y.2 != .cell) = true := by decide) (hkind : scope.kind = .function := by rfl) (hnames : (scope.names.all fun y => y.2 != .local || scope.names.lookup y.1 == some .local) = true := by decide)
    (hs : ∀ x, foldedSetIterable iter F.env x = pure x := by intro _; rfl) :
    ExG F Γ own (exec (.Assign [.Name x px] (.ListComp elt [⟨target, iter, ifs, 0⟩] scope cpos) pos) F.env) (.next Γ' own) :=
  ex_assign_comp Γc p f hsw hcl hsub hi hz hv hb hk hx (he ▸ hΓ) hcell hkind hnames hs
theorem filter_tt' {α β : Type} (l : List α) (f : α → β) : (l.filter fun _ => true).map f = l.map f := by rw [filter_tt]
end
end Mine

set_option maxRecDepth 100000
namespace Mine
open PySem PySem.W PyProof.Rows
/-- the top, run at once by the kernel, by the library's quick forms: the compiled proof is a fifth of open_top's own -/
theorem left_boot {p q : Program} {loose : List Str} {Xt : Shared → Bool} {α : Type} {Yf : Shared → α} {Ya : World → α} {N : Nat} {g0 : Bool} (e : opening p = plainProg p.main.scope.names) (hN : Nat.ble 600 N = true) (f : ∀ s, fenceModules? p s = some s)
    (h : ∀ (w : World) (os : OsState), (topFrom treeTable p w N ⟨boot_heap w.params, Array.mk [], boot_drawn, boot_toks, os⟩).map (fun s => (openSeen q loose (importedModules p.main.body) Xt g0 s, Yf s)) = some (openGood q loose, Ya w)) : LeftO p q loose Xt Yf Ya N g0 := fun w => by
  obtain ⟨⟨h1, gs, d, k, os⟩, e1, e2⟩ := Option.map_eq_some_iff.mp (boot_open e hN f w)
  obtain ⟨rfl, rfl, rfl, rfl⟩ : h1 = boot_heap w.params ∧ gs = Array.mk [] ∧ d = boot_drawn ∧ k = boot_toks := by simpa using e2
  unfold openEnds
  rw [e1]
  exact h w os
noncomputable def view2 : Program := { (PySem.Challenge.rw_il0215_02.row.toRowW.prog) with main := { (PySem.Challenge.rw_il0215_02.row.toRowW.prog).main with body := [0,1,3,10,11,12,13,14,15,16,17].filterMap fun i => (PySem.Challenge.rw_il0215_02.row.toRowW.prog).main.body[i]? } }
local macro_rules
  | `(tactic| o_head $H) => `(tactic| (
    refine holds_open (q := view2) (loose := [Str.ofString "insort_right", Str.ofString "bisect_right", Str.ofString "insort_left", Str.ofString "bisect_left"]) (Xt := fun s => xlAt view2 [] s && recOk (RowW.records (PySem.Challenge.rw_il0215_02.row.toRowW)) s) (XP := XL view2 []) (Yf := Hook.obs $H) (Ya := Hook.val $H) (YP := Hook.says $H) (N := 2146) ?hl (Hook.of $H) (Hook.keeps $H) (fun s e => xl_of s (Bool.and_eq_true_iff.mp e).1) XL.keeps (by rfl) (by rfl) (by rfl) (fun s e => recFacts_of (Bool.and_eq_true_iff.mp e).2) (by first | rfl | fail "open_line: no head takes a call that writes beside a table") (by first | assumption | decide +kernel) (by decide +kernel) ⟨rfl, rfl, rfl, rfl, rfl, by decide +kernel⟩ ?hw ?hc
    (case hl => refine left_boot (by kernel_rfl) (by rfl) (fun s => by kernel_rfl) (fun w os => ?_); unfold topFrom; rw [PySem.W.Fast.te14082659384304107361, PySem.W.Fast.te14364793385576792824, PySem.W.Fast.te4187177175401517315]; kernel_rfl)))
open PySem PySem.W PyProof.Rows in
set_option maxHeartbeats 0 in
open_top hd2 for PySem.Challenge.rw_il0215_02
end Mine

namespace Mine
open PySem PySem.W PyProof.Rows PySem.Calls
set_option maxRecDepth 100000

structure Is2 (P : Params) (C : Cx) : Prop where
  K : C.K = hd2.heap_39 P
  g : ∀ a o, C.K.lookup a = some o → C.g a = some o
  mg : ∀ n v, nsIn C.K mainGlobals n = some v → C.mg n = v

section
variable {P : Params} {C : Cx}
theorem Is2.lk (I : Is2 P C) {a : Addr} {o : Obj} (h : (hd2.heap_39 P).lookup a = some o) : C.K.lookup a = some o := I.K ▸ h
theorem Is2.at (I : Is2 P C) {a : Addr} {o : Obj} (h : (hd2.heap_39 P).lookup a = some o) : C.g a = some o := I.g _ _ (I.lk h)
theorem Is2.gl (I : Is2 P C) {n : Str} {v : Option Value} (h : nsIn (hd2.heap_39 P) mainGlobals n = some v) : C.mg n = v := I.mg n v (I.K ▸ h)
theorem Is2.inn (I : Is2 P C) {W : Addr → Prop} {s : Shared} (S : C.St W s) : (hd2.heap_39 P).In s.heap := fun a o e => S.g _ _ (I.at e)
theorem Is2.into (I : Is2 P C) (env : Env) : Is2 P (C.into env).toCx := ⟨I.K, I.g, I.mg⟩
theorem bl_key (I : Is2 P C) (hf : 0 < C.fuel) {ds : List PyData} {x : PyData} {p : Nat} {kv : Addr} {ko : Obj} {kd : FuncData} {key : PyData → PyData} (hko : C.g kv = some ko) (hkd : ko.data = .func kd) (hk : ∀ C', Like 1 C C' → ∀ d ∈ ds, CallOk C' (.ref kv) [.dat d] [] [] (.dat (key d))) (hz : ds.length ≤ 1000) (hp : p ≤ ds.length) (hc : ∀ F i, (h : i < ds.length) → CmpR F .Lt (.dat (key ds[i])) (.dat x) (decide (i < p))) :
    CallOk C (.ref 142) [.lst ds, .dat x] [Str.ofString "key"] [.val (.ref kv)] (.dat (.int p)) :=
  callOk_of fun ok W s vs ks S hx hy => by
    obtain ⟨_, _, rfl, r1, r2⟩ := BAll.inv2 hx
    obtain ⟨_, rfl, r5⟩ := BAll.inv1 hy
    refine enter ok hf S (I.lk (a := 142) rfl) (by rw [I.K]; rfl) (binds := [(Str.ofString "a", _), (Str.ofString "x", _), (Str.ofString "lo", _), (Str.ofString "hi", _), (Str.ofString "key", _)]) (kp_binds (K := hd2.heap_39 P) (I.inn S) (fun _ => rfl))
      (.cons r1 (.cons r2 (.cons (b := .dat (.int 0)) (.int _ _) (.cons (b := .dat .none) .none (.cons r5 .nil))))) (show [Str.ofString "a", Str.ofString "x", Str.ofString "lo", Str.ofString "hi", Str.ofString "key"].Nodup by decide) rfl fun L => ?_
    refine ex_cons (ex_if_false (et_cmp (ev_var (by first | exact mem_at 0 rfl | exact mem_at 1 rfl | exact mem_at 2 rfl | exact mem_at 3 rfl | exact mem_at 4 rfl | exact mem_at 5 rfl | exact mem_at 6 rfl | exact mem_at 7 rfl | exact mem_at 8 rfl | exact mem_at 9 rfl | exact mem_at 10 rfl | exact mem_at 11 rfl | exact mem_at 12 rfl | exact mem_at 13 rfl | exact mem_at 14 rfl | exact mem_at 15 rfl | exact mem_at 16 rfl | exact mem_at 17 rfl | exact mem_at 18 rfl | exact mem_at 19 rfl | exact mem_at 20 rfl | exact mem_at 21 rfl)) ev_int cmpR_lt_int) ex_nil) ?_
    refine ex_cons (ex_if_true (et_cmp (ev_var (by first | exact mem_at 0 rfl | exact mem_at 1 rfl | exact mem_at 2 rfl | exact mem_at 3 rfl | exact mem_at 4 rfl | exact mem_at 5 rfl | exact mem_at 6 rfl | exact mem_at 7 rfl | exact mem_at 8 rfl | exact mem_at 9 rfl | exact mem_at 10 rfl | exact mem_at 11 rfl | exact mem_at 12 rfl | exact mem_at 13 rfl | exact mem_at 14 rfl | exact mem_at 15 rfl | exact mem_at 16 rfl | exact mem_at 17 rfl | exact mem_at 18 rfl | exact mem_at 19 rfl | exact mem_at 20 rfl | exact mem_at 21 rfl)) ev_none cmpR_is_none) (ex_one (ex_assign (Γ' := [(Str.ofString "lo", .dat (.int (0 : Nat))), (Str.ofString "hi", .dat (.int ds.length)), (Str.ofString "a", .lst ds), (Str.ofString "x", .dat x), (Str.ofString "key", .val (.ref kv))])
      (ev_call_bi (ev_builtin rfl (I.gl rfl) rfl) (evl_cons (ev_var (by first | exact mem_at 0 rfl | exact mem_at 1 rfl | exact mem_at 2 rfl | exact mem_at 3 rfl | exact mem_at 4 rfl | exact mem_at 5 rfl | exact mem_at 6 rfl | exact mem_at 7 rfl | exact mem_at 8 rfl | exact mem_at 9 rfl | exact mem_at 10 rfl | exact mem_at 11 rfl | exact mem_at 12 rfl | exact mem_at 13 rfl | exact mem_at 14 rfl | exact mem_at 15 rfl | exact mem_at 16 rfl | exact mem_at 17 rfl | exact mem_at 18 rfl | exact mem_at 19 rfl | exact mem_at 20 rfl | exact mem_at 21 rfl)) evl_nil) (callOk_len_list (by first | decide | assumption | with_reducible exact Int.natCast_nonneg _ | with_reducible exact Nat.le_trans (by assumption) (by decide) | with_reducible exact Nat.lt_of_lt_of_le (by assumption) (by decide) | with_reducible exact lt_mil (Nat.lt_of_lt_of_le (by assumption) (by decide)) | with_reducible exact lt_mil (Nat.lt_of_le_of_lt (by assumption) (by decide)) | with_reducible exact Nat.le_trans (Nat.le_of_lt (by assumption)) (by decide) | (first | lia | omega)))) (by first | exact Or.inl rfl | exact Or.inr ⟨rfl, rfl, rfl⟩) (by intro y ds e; first | (cases e; done) | (cases e; decide)) (Pk.g (by repeat (first | exact Pk.nil | refine Pk.here ?_ | refine Pk.cons (by first | exact mem_at 0 rfl | exact mem_at 1 rfl | exact mem_at 2 rfl | exact mem_at 3 rfl | exact mem_at 4 rfl | exact mem_at 5 rfl | exact mem_at 6 rfl | exact mem_at 7 rfl | exact mem_at 8 rfl | exact mem_at 9 rfl | exact mem_at 10 rfl | exact mem_at 11 rfl | exact mem_at 12 rfl | exact mem_at 13 rfl | exact mem_at 14 rfl | exact mem_at 15 rfl | exact mem_at 16 rfl | exact mem_at 17 rfl | exact mem_at 18 rfl | exact mem_at 19 rfl | exact mem_at 20 rfl | exact mem_at 21 rfl) rfl ?_)))))) ?_
    refine ex_cons (Γ₁ := [(Str.ofString "lo", .dat (.int p))]) (own₁ := none) (ex_if_false (et_cmp (ev_var (by first | exact mem_at 0 rfl | exact mem_at 1 rfl | exact mem_at 2 rfl | exact mem_at 3 rfl | exact mem_at 4 rfl | exact mem_at 5 rfl | exact mem_at 6 rfl | exact mem_at 7 rfl | exact mem_at 8 rfl | exact mem_at 9 rfl | exact mem_at 10 rfl | exact mem_at 11 rfl | exact mem_at 12 rfl | exact mem_at 13 rfl | exact mem_at 14 rfl | exact mem_at 15 rfl | exact mem_at 16 rfl | exact mem_at 17 rfl | exact mem_at 18 rfl | exact mem_at 19 rfl | exact mem_at 20 rfl | exact mem_at 21 rfl)) ev_none cmpR_is_none_ref) ?_) (ex_one (ex_return (ev_var (by first | exact mem_at 0 rfl | exact mem_at 1 rfl | exact mem_at 2 rfl | exact mem_at 3 rfl | exact mem_at 4 rfl | exact mem_at 5 rfl | exact mem_at 6 rfl | exact mem_at 7 rfl | exact mem_at 8 rfl | exact mem_at 9 rfl | exact mem_at 10 rfl | exact mem_at 11 rfl | exact mem_at 12 rfl | exact mem_at 13 rfl | exact mem_at 14 rfl | exact mem_at 15 rfl | exact mem_at 16 rfl | exact mem_at 17 rfl | exact mem_at 18 rfl | exact mem_at 19 rfl | exact mem_at 20 rfl | exact mem_at 21 rfl))))
    refine ex_while (σ := Nat × Nat) (fun q => [(Str.ofString "lo", .dat (.int q.1)), (Str.ofString "hi", .dat (.int q.2)), (Str.ofString "a", .lst ds), (Str.ofString "x", .dat x), (Str.ofString "key", .val (.ref kv))]) (fun q => q.1 ≤ p ∧ p ≤ q.2 ∧ q.2 ≤ ds.length) (fun q => q.2 - q.1) (fun q => decide (q.1 < q.2)) ?_ ?_ (0, ds.length) ⟨by (first | lia | omega), hp, by (first | lia | omega)⟩ ?_
    · intro q hq
      exact et_cmp (ev_var (by first | exact mem_at 0 rfl | exact mem_at 1 rfl | exact mem_at 2 rfl | exact mem_at 3 rfl | exact mem_at 4 rfl | exact mem_at 5 rfl | exact mem_at 6 rfl | exact mem_at 7 rfl | exact mem_at 8 rfl | exact mem_at 9 rfl | exact mem_at 10 rfl | exact mem_at 11 rfl | exact mem_at 12 rfl | exact mem_at 13 rfl | exact mem_at 14 rfl | exact mem_at 15 rfl | exact mem_at 16 rfl | exact mem_at 17 rfl | exact mem_at 18 rfl | exact mem_at 19 rfl | exact mem_at 20 rfl | exact mem_at 21 rfl)) (ev_var (by first | exact mem_at 0 rfl | exact mem_at 1 rfl | exact mem_at 2 rfl | exact mem_at 3 rfl | exact mem_at 4 rfl | exact mem_at 5 rfl | exact mem_at 6 rfl | exact mem_at 7 rfl | exact mem_at 8 rfl | exact mem_at 9 rfl | exact mem_at 10 rfl | exact mem_at 11 rfl | exact mem_at 12 rfl | exact mem_at 13 rfl | exact mem_at 14 rfl | exact mem_at 15 rfl | exact mem_at 16 rfl | exact mem_at 17 rfl | exact mem_at 18 rfl | exact mem_at 19 rfl | exact mem_at 20 rfl | exact mem_at 21 rfl)) cmpR_ltN
    · intro q hq hlt
      have hlt : q.1 < q.2 := by simpa using hlt
      obtain ⟨q1, q2, q3⟩ := hq
      have hm : (q.1 + q.2) / 2 < ds.length := by (first | lia | omega)
      refine ⟨if (q.1 + q.2) / 2 < p then ((q.1 + q.2) / 2 + 1, q.2) else (q.1, (q.1 + q.2) / 2), by split <;> (dsimp only; (first | lia | omega)), by split <;> (dsimp only; (first | lia | omega)), ?_⟩
      refine ex_cons (ex_assign (Γ' := [(Str.ofString "mid", .dat (.int ((q.1 + q.2) / 2 : Nat))), (Str.ofString "lo", .dat (.int q.1)), (Str.ofString "hi", .dat (.int q.2)), (Str.ofString "a", .lst ds), (Str.ofString "x", .dat x), (Str.ofString "key", .val (.ref kv))]) (ev_bin (ev_bin (ev_var (by first | exact mem_at 0 rfl | exact mem_at 1 rfl | exact mem_at 2 rfl | exact mem_at 3 rfl | exact mem_at 4 rfl | exact mem_at 5 rfl | exact mem_at 6 rfl | exact mem_at 7 rfl | exact mem_at 8 rfl | exact mem_at 9 rfl | exact mem_at 10 rfl | exact mem_at 11 rfl | exact mem_at 12 rfl | exact mem_at 13 rfl | exact mem_at 14 rfl | exact mem_at 15 rfl | exact mem_at 16 rfl | exact mem_at 17 rfl | exact mem_at 18 rfl | exact mem_at 19 rfl | exact mem_at 20 rfl | exact mem_at 21 rfl)) (ev_var (by first | exact mem_at 0 rfl | exact mem_at 1 rfl | exact mem_at 2 rfl | exact mem_at 3 rfl | exact mem_at 4 rfl | exact mem_at 5 rfl | exact mem_at 6 rfl | exact mem_at 7 rfl | exact mem_at 8 rfl | exact mem_at 9 rfl | exact mem_at 10 rfl | exact mem_at 11 rfl | exact mem_at 12 rfl | exact mem_at 13 rfl | exact mem_at 14 rfl | exact mem_at 15 rfl | exact mem_at 16 rfl | exact mem_at 17 rfl | exact mem_at 18 rfl | exact mem_at 19 rfl | exact mem_at 20 rfl | exact mem_at 21 rfl)) (binR_addN rfl)) ev_int (binR_divN (k := 2) rfl rfl (by first | decide | assumption | with_reducible exact Int.natCast_nonneg _ | with_reducible exact Nat.le_trans (by assumption) (by decide) | with_reducible exact Nat.lt_of_lt_of_le (by assumption) (by decide) | with_reducible exact lt_mil (Nat.lt_of_lt_of_le (by assumption) (by decide)) | with_reducible exact lt_mil (Nat.lt_of_le_of_lt (by assumption) (by decide)) | with_reducible exact Nat.le_trans (Nat.le_of_lt (by assumption)) (by decide) | (first | lia | omega)) (by first | decide | assumption | with_reducible exact Int.natCast_nonneg _ | with_reducible exact Nat.le_trans (by assumption) (by decide) | with_reducible exact Nat.lt_of_lt_of_le (by assumption) (by decide) | with_reducible exact lt_mil (Nat.lt_of_lt_of_le (by assumption) (by decide)) | with_reducible exact lt_mil (Nat.lt_of_le_of_lt (by assumption) (by decide)) | with_reducible exact Nat.le_trans (Nat.le_of_lt (by assumption)) (by decide) | (first | lia | omega)))) (by first | exact Or.inl rfl | exact Or.inr ⟨rfl, rfl, rfl⟩) (by intro y ds e; first | (cases e; done) | (cases e; decide)) (Pk.g (by repeat (first | exact Pk.nil | refine Pk.here ?_ | refine Pk.cons (by first | exact mem_at 0 rfl | exact mem_at 1 rfl | exact mem_at 2 rfl | exact mem_at 3 rfl | exact mem_at 4 rfl | exact mem_at 5 rfl | exact mem_at 6 rfl | exact mem_at 7 rfl | exact mem_at 8 rfl | exact mem_at 9 rfl | exact mem_at 10 rfl | exact mem_at 11 rfl | exact mem_at 12 rfl | exact mem_at 13 rfl | exact mem_at 14 rfl | exact mem_at 15 rfl | exact mem_at 16 rfl | exact mem_at 17 rfl | exact mem_at 18 rfl | exact mem_at 19 rfl | exact mem_at 20 rfl | exact mem_at 21 rfl) rfl ?_)))) ?_
      refine ex_one (ex_if (et_cmp (ev_def (ev_var (by first | exact mem_at 0 rfl | exact mem_at 1 rfl | exact mem_at 2 rfl | exact mem_at 3 rfl | exact mem_at 4 rfl | exact mem_at 5 rfl | exact mem_at 6 rfl | exact mem_at 7 rfl | exact mem_at 8 rfl | exact mem_at 9 rfl | exact mem_at 10 rfl | exact mem_at 11 rfl | exact mem_at 12 rfl | exact mem_at 13 rfl | exact mem_at 14 rfl | exact mem_at 15 rfl | exact mem_at 16 rfl | exact mem_at 17 rfl | exact mem_at 18 rfl | exact mem_at 19 rfl | exact mem_at 20 rfl | exact mem_at 21 rfl)) (evl_cons (ev_item (ev_var (by first | exact mem_at 0 rfl | exact mem_at 1 rfl | exact mem_at 2 rfl | exact mem_at 3 rfl | exact mem_at 4 rfl | exact mem_at 5 rfl | exact mem_at 6 rfl | exact mem_at 7 rfl | exact mem_at 8 rfl | exact mem_at 9 rfl | exact mem_at 10 rfl | exact mem_at 11 rfl | exact mem_at 12 rfl | exact mem_at 13 rfl | exact mem_at 14 rfl | exact mem_at 15 rfl | exact mem_at 16 rfl | exact mem_at 17 rfl | exact mem_at 18 rfl | exact mem_at 19 rfl | exact mem_at 20 rfl | exact mem_at 21 rfl)) (ev_var (by first | exact mem_at 0 rfl | exact mem_at 1 rfl | exact mem_at 2 rfl | exact mem_at 3 rfl | exact mem_at 4 rfl | exact mem_at 5 rfl | exact mem_at 6 rfl | exact mem_at 7 rfl | exact mem_at 8 rfl | exact mem_at 9 rfl | exact mem_at 10 rfl | exact mem_at 11 rfl | exact mem_at 12 rfl | exact mem_at 13 rfl | exact mem_at 14 rfl | exact mem_at 15 rfl | exact mem_at 16 rfl | exact mem_at 17 rfl | exact mem_at 18 rfl | exact mem_at 19 rfl | exact mem_at 20 rfl | exact mem_at 21 rfl)) (getR_list (d := ds[(q.1 + q.2) / 2]) (by first | decide | assumption | with_reducible exact Int.natCast_nonneg _ | with_reducible exact Nat.le_trans (by assumption) (by decide) | with_reducible exact Nat.lt_of_lt_of_le (by assumption) (by decide) | with_reducible exact lt_mil (Nat.lt_of_lt_of_le (by assumption) (by decide)) | with_reducible exact lt_mil (Nat.lt_of_le_of_lt (by assumption) (by decide)) | with_reducible exact Nat.le_trans (Nat.le_of_lt (by assumption)) (by decide) | (first | lia | omega)) (by rw [Int.toNat_natCast]; exact List.getElem?_eq_getElem hm) (by first | decide | assumption | with_reducible exact Int.natCast_nonneg _ | with_reducible exact Nat.le_trans (by assumption) (by decide) | with_reducible exact Nat.lt_of_lt_of_le (by assumption) (by decide) | with_reducible exact lt_mil (Nat.lt_of_lt_of_le (by assumption) (by decide)) | with_reducible exact lt_mil (Nat.lt_of_le_of_lt (by assumption) (by decide)) | with_reducible exact Nat.le_trans (Nat.le_of_lt (by assumption)) (by decide) | (first | lia | omega)))) evl_nil) evkw_nil hko hkd (hk _ (like_into _ _) _ (List.getElem_mem _))) (ev_var (by first | exact mem_at 0 rfl | exact mem_at 1 rfl | exact mem_at 2 rfl | exact mem_at 3 rfl | exact mem_at 4 rfl | exact mem_at 5 rfl | exact mem_at 6 rfl | exact mem_at 7 rfl | exact mem_at 8 rfl | exact mem_at 9 rfl | exact mem_at 10 rfl | exact mem_at 11 rfl | exact mem_at 12 rfl | exact mem_at 13 rfl | exact mem_at 14 rfl | exact mem_at 15 rfl | exact mem_at 16 rfl | exact mem_at 17 rfl | exact mem_at 18 rfl | exact mem_at 19 rfl | exact mem_at 20 rfl | exact mem_at 21 rfl)) (hc _ _ hm)) ?_ ?_)
      · intro h
        have h : (q.1 + q.2) / 2 < p := by simpa using h
        rw [if_pos h]
        dsimp only
        exact ex_one (ex_assign (Γ' := [(Str.ofString "lo", .dat (.int ((q.1 + q.2) / 2 + 1 : Nat))), (Str.ofString "hi", .dat (.int q.2)), (Str.ofString "a", .lst ds), (Str.ofString "x", .dat x), (Str.ofString "key", .val (.ref kv))]) (ev_bin (ev_var (by first | exact mem_at 0 rfl | exact mem_at 1 rfl | exact mem_at 2 rfl | exact mem_at 3 rfl | exact mem_at 4 rfl | exact mem_at 5 rfl | exact mem_at 6 rfl | exact mem_at 7 rfl | exact mem_at 8 rfl | exact mem_at 9 rfl | exact mem_at 10 rfl | exact mem_at 11 rfl | exact mem_at 12 rfl | exact mem_at 13 rfl | exact mem_at 14 rfl | exact mem_at 15 rfl | exact mem_at 16 rfl | exact mem_at 17 rfl | exact mem_at 18 rfl | exact mem_at 19 rfl | exact mem_at 20 rfl | exact mem_at 21 rfl)) ev_int (binR_addN rfl)) (by first | exact Or.inl rfl | exact Or.inr ⟨rfl, rfl, rfl⟩) (by intro y ds e; first | (cases e; done) | (cases e; decide)) (Pk.g (by repeat (first | exact Pk.nil | refine Pk.here ?_ | refine Pk.cons (by first | exact mem_at 0 rfl | exact mem_at 1 rfl | exact mem_at 2 rfl | exact mem_at 3 rfl | exact mem_at 4 rfl | exact mem_at 5 rfl | exact mem_at 6 rfl | exact mem_at 7 rfl | exact mem_at 8 rfl | exact mem_at 9 rfl | exact mem_at 10 rfl | exact mem_at 11 rfl | exact mem_at 12 rfl | exact mem_at 13 rfl | exact mem_at 14 rfl | exact mem_at 15 rfl | exact mem_at 16 rfl | exact mem_at 17 rfl | exact mem_at 18 rfl | exact mem_at 19 rfl | exact mem_at 20 rfl | exact mem_at 21 rfl) rfl ?_))))
      · intro h
        have h : ¬ (q.1 + q.2) / 2 < p := by simpa using h
        rw [if_neg h]
        dsimp only
        exact ex_one (ex_assign (Γ' := [(Str.ofString "lo", .dat (.int q.1)), (Str.ofString "hi", .dat (.int ((q.1 + q.2) / 2 : Nat))), (Str.ofString "a", .lst ds), (Str.ofString "x", .dat x), (Str.ofString "key", .val (.ref kv))]) (ev_var (by first | exact mem_at 0 rfl | exact mem_at 1 rfl | exact mem_at 2 rfl | exact mem_at 3 rfl | exact mem_at 4 rfl | exact mem_at 5 rfl | exact mem_at 6 rfl | exact mem_at 7 rfl | exact mem_at 8 rfl | exact mem_at 9 rfl | exact mem_at 10 rfl | exact mem_at 11 rfl | exact mem_at 12 rfl | exact mem_at 13 rfl | exact mem_at 14 rfl | exact mem_at 15 rfl | exact mem_at 16 rfl | exact mem_at 17 rfl | exact mem_at 18 rfl | exact mem_at 19 rfl | exact mem_at 20 rfl | exact mem_at 21 rfl)) (by first | exact Or.inl rfl | exact Or.inr ⟨rfl, rfl, rfl⟩) (by intro y ds e; first | (cases e; done) | (cases e; decide)) (Pk.g (by repeat (first | exact Pk.nil | refine Pk.here ?_ | refine Pk.cons (by first | exact mem_at 0 rfl | exact mem_at 1 rfl | exact mem_at 2 rfl | exact mem_at 3 rfl | exact mem_at 4 rfl | exact mem_at 5 rfl | exact mem_at 6 rfl | exact mem_at 7 rfl | exact mem_at 8 rfl | exact mem_at 9 rfl | exact mem_at 10 rfl | exact mem_at 11 rfl | exact mem_at 12 rfl | exact mem_at 13 rfl | exact mem_at 14 rfl | exact mem_at 15 rfl | exact mem_at 16 rfl | exact mem_at 17 rfl | exact mem_at 18 rfl | exact mem_at 19 rfl | exact mem_at 20 rfl | exact mem_at 21 rfl) rfl ?_))))
    · intro q hq hlt
      have hlt : ¬ q.1 < q.2 := by simpa using hlt
      have : q.1 = p := by (first | lia | omega)
      rw [this]
      exact ex_sub (Sb.g (by repeat (first | exact Sb.nil | refine Sb.cons (by first | exact mem_at 0 rfl | exact mem_at 1 rfl | exact mem_at 2 rfl | exact mem_at 3 rfl | exact mem_at 4 rfl | exact mem_at 5 rfl | exact mem_at 6 rfl | exact mem_at 7 rfl | exact mem_at 8 rfl | exact mem_at 9 rfl | exact mem_at 10 rfl | exact mem_at 11 rfl | exact mem_at 12 rfl | exact mem_at 13 rfl | exact mem_at 14 rfl | exact mem_at 15 rfl | exact mem_at 16 rfl | exact mem_at 17 rfl | exact mem_at 18 rfl | exact mem_at 19 rfl | exact mem_at 20 rfl | exact mem_at 21 rfl) ?_))) ex_nil
theorem br_key (I : Is2 P C) (hf : 0 < C.fuel) {ds : List PyData} {x : PyData} {p : Nat} {kv : Addr} {ko : Obj} {kd : FuncData} {key : PyData → PyData} (hko : C.g kv = some ko) (hkd : ko.data = .func kd) (hk : ∀ C', Like 1 C C' → ∀ d ∈ ds, CallOk C' (.ref kv) [.dat d] [] [] (.dat (key d))) (hz : ds.length ≤ 1000) (hp : p ≤ ds.length) (hc : ∀ F i, (h : i < ds.length) → CmpR F .Lt (.dat x) (.dat (key ds[i])) (decide (p ≤ i))) :
    CallOk C (.ref 124) [.lst ds, .dat x] [Str.ofString "key"] [.val (.ref kv)] (.dat (.int p)) :=
  callOk_of fun ok W s vs ks S hx hy => by
    obtain ⟨_, _, rfl, r1, r2⟩ := BAll.inv2 hx
    obtain ⟨_, rfl, r5⟩ := BAll.inv1 hy
    refine enter ok hf S (I.lk (a := 124) rfl) (by rw [I.K]; rfl) (binds := [(Str.ofString "a", _), (Str.ofString "x", _), (Str.ofString "lo", _), (Str.ofString "hi", _), (Str.ofString "key", _)]) (kp_binds (K := hd2.heap_39 P) (I.inn S) (fun _ => rfl))
      (.cons r1 (.cons r2 (.cons (b := .dat (.int 0)) (.int _ _) (.cons (b := .dat .none) .none (.cons r5 .nil))))) (show [Str.ofString "a", Str.ofString "x", Str.ofString "lo", Str.ofString "hi", Str.ofString "key"].Nodup by decide) rfl fun L => ?_
    refine ex_cons (ex_if_false (et_cmp (ev_var (by first | exact mem_at 0 rfl | exact mem_at 1 rfl | exact mem_at 2 rfl | exact mem_at 3 rfl | exact mem_at 4 rfl | exact mem_at 5 rfl | exact mem_at 6 rfl | exact mem_at 7 rfl | exact mem_at 8 rfl | exact mem_at 9 rfl | exact mem_at 10 rfl | exact mem_at 11 rfl | exact mem_at 12 rfl | exact mem_at 13 rfl | exact mem_at 14 rfl | exact mem_at 15 rfl | exact mem_at 16 rfl | exact mem_at 17 rfl | exact mem_at 18 rfl | exact mem_at 19 rfl | exact mem_at 20 rfl | exact mem_at 21 rfl)) ev_int cmpR_lt_int) ex_nil) ?_
    refine ex_cons (ex_if_true (et_cmp (ev_var (by first | exact mem_at 0 rfl | exact mem_at 1 rfl | exact mem_at 2 rfl | exact mem_at 3 rfl | exact mem_at 4 rfl | exact mem_at 5 rfl | exact mem_at 6 rfl | exact mem_at 7 rfl | exact mem_at 8 rfl | exact mem_at 9 rfl | exact mem_at 10 rfl | exact mem_at 11 rfl | exact mem_at 12 rfl | exact mem_at 13 rfl | exact mem_at 14 rfl | exact mem_at 15 rfl | exact mem_at 16 rfl | exact mem_at 17 rfl | exact mem_at 18 rfl | exact mem_at 19 rfl | exact mem_at 20 rfl | exact mem_at 21 rfl)) ev_none cmpR_is_none) (ex_one (ex_assign (Γ' := [(Str.ofString "lo", .dat (.int (0 : Nat))), (Str.ofString "hi", .dat (.int ds.length)), (Str.ofString "a", .lst ds), (Str.ofString "x", .dat x), (Str.ofString "key", .val (.ref kv))])
      (ev_call_bi (ev_builtin rfl (I.gl rfl) rfl) (evl_cons (ev_var (by first | exact mem_at 0 rfl | exact mem_at 1 rfl | exact mem_at 2 rfl | exact mem_at 3 rfl | exact mem_at 4 rfl | exact mem_at 5 rfl | exact mem_at 6 rfl | exact mem_at 7 rfl | exact mem_at 8 rfl | exact mem_at 9 rfl | exact mem_at 10 rfl | exact mem_at 11 rfl | exact mem_at 12 rfl | exact mem_at 13 rfl | exact mem_at 14 rfl | exact mem_at 15 rfl | exact mem_at 16 rfl | exact mem_at 17 rfl | exact mem_at 18 rfl | exact mem_at 19 rfl | exact mem_at 20 rfl | exact mem_at 21 rfl)) evl_nil) (callOk_len_list (by first | decide | assumption | with_reducible exact Int.natCast_nonneg _ | with_reducible exact Nat.le_trans (by assumption) (by decide) | with_reducible exact Nat.lt_of_lt_of_le (by assumption) (by decide) | with_reducible exact lt_mil (Nat.lt_of_lt_of_le (by assumption) (by decide)) | with_reducible exact lt_mil (Nat.lt_of_le_of_lt (by assumption) (by decide)) | with_reducible exact Nat.le_trans (Nat.le_of_lt (by assumption)) (by decide) | (first | lia | omega)))) (by first | exact Or.inl rfl | exact Or.inr ⟨rfl, rfl, rfl⟩) (by intro y ds e; first | (cases e; done) | (cases e; decide)) (Pk.g (by repeat (first | exact Pk.nil | refine Pk.here ?_ | refine Pk.cons (by first | exact mem_at 0 rfl | exact mem_at 1 rfl | exact mem_at 2 rfl | exact mem_at 3 rfl | exact mem_at 4 rfl | exact mem_at 5 rfl | exact mem_at 6 rfl | exact mem_at 7 rfl | exact mem_at 8 rfl | exact mem_at 9 rfl | exact mem_at 10 rfl | exact mem_at 11 rfl | exact mem_at 12 rfl | exact mem_at 13 rfl | exact mem_at 14 rfl | exact mem_at 15 rfl | exact mem_at 16 rfl | exact mem_at 17 rfl | exact mem_at 18 rfl | exact mem_at 19 rfl | exact mem_at 20 rfl | exact mem_at 21 rfl) rfl ?_)))))) ?_
    refine ex_cons (Γ₁ := [(Str.ofString "lo", .dat (.int p))]) (own₁ := none) (ex_if_false (et_cmp (ev_var (by first | exact mem_at 0 rfl | exact mem_at 1 rfl | exact mem_at 2 rfl | exact mem_at 3 rfl | exact mem_at 4 rfl | exact mem_at 5 rfl | exact mem_at 6 rfl | exact mem_at 7 rfl | exact mem_at 8 rfl | exact mem_at 9 rfl | exact mem_at 10 rfl | exact mem_at 11 rfl | exact mem_at 12 rfl | exact mem_at 13 rfl | exact mem_at 14 rfl | exact mem_at 15 rfl | exact mem_at 16 rfl | exact mem_at 17 rfl | exact mem_at 18 rfl | exact mem_at 19 rfl | exact mem_at 20 rfl | exact mem_at 21 rfl)) ev_none cmpR_is_none_ref) ?_) (ex_one (ex_return (ev_var (by first | exact mem_at 0 rfl | exact mem_at 1 rfl | exact mem_at 2 rfl | exact mem_at 3 rfl | exact mem_at 4 rfl | exact mem_at 5 rfl | exact mem_at 6 rfl | exact mem_at 7 rfl | exact mem_at 8 rfl | exact mem_at 9 rfl | exact mem_at 10 rfl | exact mem_at 11 rfl | exact mem_at 12 rfl | exact mem_at 13 rfl | exact mem_at 14 rfl | exact mem_at 15 rfl | exact mem_at 16 rfl | exact mem_at 17 rfl | exact mem_at 18 rfl | exact mem_at 19 rfl | exact mem_at 20 rfl | exact mem_at 21 rfl))))
    refine ex_while (σ := Nat × Nat) (fun q => [(Str.ofString "lo", .dat (.int q.1)), (Str.ofString "hi", .dat (.int q.2)), (Str.ofString "a", .lst ds), (Str.ofString "x", .dat x), (Str.ofString "key", .val (.ref kv))]) (fun q => q.1 ≤ p ∧ p ≤ q.2 ∧ q.2 ≤ ds.length) (fun q => q.2 - q.1) (fun q => decide (q.1 < q.2)) ?_ ?_ (0, ds.length) ⟨by (first | lia | omega), hp, by (first | lia | omega)⟩ ?_
    · intro q hq
      exact et_cmp (ev_var (by first | exact mem_at 0 rfl | exact mem_at 1 rfl | exact mem_at 2 rfl | exact mem_at 3 rfl | exact mem_at 4 rfl | exact mem_at 5 rfl | exact mem_at 6 rfl | exact mem_at 7 rfl | exact mem_at 8 rfl | exact mem_at 9 rfl | exact mem_at 10 rfl | exact mem_at 11 rfl | exact mem_at 12 rfl | exact mem_at 13 rfl | exact mem_at 14 rfl | exact mem_at 15 rfl | exact mem_at 16 rfl | exact mem_at 17 rfl | exact mem_at 18 rfl | exact mem_at 19 rfl | exact mem_at 20 rfl | exact mem_at 21 rfl)) (ev_var (by first | exact mem_at 0 rfl | exact mem_at 1 rfl | exact mem_at 2 rfl | exact mem_at 3 rfl | exact mem_at 4 rfl | exact mem_at 5 rfl | exact mem_at 6 rfl | exact mem_at 7 rfl | exact mem_at 8 rfl | exact mem_at 9 rfl | exact mem_at 10 rfl | exact mem_at 11 rfl | exact mem_at 12 rfl | exact mem_at 13 rfl | exact mem_at 14 rfl | exact mem_at 15 rfl | exact mem_at 16 rfl | exact mem_at 17 rfl | exact mem_at 18 rfl | exact mem_at 19 rfl | exact mem_at 20 rfl | exact mem_at 21 rfl)) cmpR_ltN
    · intro q hq hlt
      have hlt : q.1 < q.2 := by simpa using hlt
      obtain ⟨q1, q2, q3⟩ := hq
      have hm : (q.1 + q.2) / 2 < ds.length := by (first | lia | omega)
      refine ⟨if p ≤ (q.1 + q.2) / 2 then (q.1, (q.1 + q.2) / 2) else ((q.1 + q.2) / 2 + 1, q.2), by split <;> (dsimp only; (first | lia | omega)), by split <;> (dsimp only; (first | lia | omega)), ?_⟩
      refine ex_cons (ex_assign (Γ' := [(Str.ofString "mid", .dat (.int ((q.1 + q.2) / 2 : Nat))), (Str.ofString "lo", .dat (.int q.1)), (Str.ofString "hi", .dat (.int q.2)), (Str.ofString "a", .lst ds), (Str.ofString "x", .dat x), (Str.ofString "key", .val (.ref kv))]) (ev_bin (ev_bin (ev_var (by first | exact mem_at 0 rfl | exact mem_at 1 rfl | exact mem_at 2 rfl | exact mem_at 3 rfl | exact mem_at 4 rfl | exact mem_at 5 rfl | exact mem_at 6 rfl | exact mem_at 7 rfl | exact mem_at 8 rfl | exact mem_at 9 rfl | exact mem_at 10 rfl | exact mem_at 11 rfl | exact mem_at 12 rfl | exact mem_at 13 rfl | exact mem_at 14 rfl | exact mem_at 15 rfl | exact mem_at 16 rfl | exact mem_at 17 rfl | exact mem_at 18 rfl | exact mem_at 19 rfl | exact mem_at 20 rfl | exact mem_at 21 rfl)) (ev_var (by first | exact mem_at 0 rfl | exact mem_at 1 rfl | exact mem_at 2 rfl | exact mem_at 3 rfl | exact mem_at 4 rfl | exact mem_at 5 rfl | exact mem_at 6 rfl | exact mem_at 7 rfl | exact mem_at 8 rfl | exact mem_at 9 rfl | exact mem_at 10 rfl | exact mem_at 11 rfl | exact mem_at 12 rfl | exact mem_at 13 rfl | exact mem_at 14 rfl | exact mem_at 15 rfl | exact mem_at 16 rfl | exact mem_at 17 rfl | exact mem_at 18 rfl | exact mem_at 19 rfl | exact mem_at 20 rfl | exact mem_at 21 rfl)) (binR_addN rfl)) ev_int (binR_divN (k := 2) rfl rfl (by first | decide | assumption | with_reducible exact Int.natCast_nonneg _ | with_reducible exact Nat.le_trans (by assumption) (by decide) | with_reducible exact Nat.lt_of_lt_of_le (by assumption) (by decide) | with_reducible exact lt_mil (Nat.lt_of_lt_of_le (by assumption) (by decide)) | with_reducible exact lt_mil (Nat.lt_of_le_of_lt (by assumption) (by decide)) | with_reducible exact Nat.le_trans (Nat.le_of_lt (by assumption)) (by decide) | (first | lia | omega)) (by first | decide | assumption | with_reducible exact Int.natCast_nonneg _ | with_reducible exact Nat.le_trans (by assumption) (by decide) | with_reducible exact Nat.lt_of_lt_of_le (by assumption) (by decide) | with_reducible exact lt_mil (Nat.lt_of_lt_of_le (by assumption) (by decide)) | with_reducible exact lt_mil (Nat.lt_of_le_of_lt (by assumption) (by decide)) | with_reducible exact Nat.le_trans (Nat.le_of_lt (by assumption)) (by decide) | (first | lia | omega)))) (by first | exact Or.inl rfl | exact Or.inr ⟨rfl, rfl, rfl⟩) (by intro y ds e; first | (cases e; done) | (cases e; decide)) (Pk.g (by repeat (first | exact Pk.nil | refine Pk.here ?_ | refine Pk.cons (by first | exact mem_at 0 rfl | exact mem_at 1 rfl | exact mem_at 2 rfl | exact mem_at 3 rfl | exact mem_at 4 rfl | exact mem_at 5 rfl | exact mem_at 6 rfl | exact mem_at 7 rfl | exact mem_at 8 rfl | exact mem_at 9 rfl | exact mem_at 10 rfl | exact mem_at 11 rfl | exact mem_at 12 rfl | exact mem_at 13 rfl | exact mem_at 14 rfl | exact mem_at 15 rfl | exact mem_at 16 rfl | exact mem_at 17 rfl | exact mem_at 18 rfl | exact mem_at 19 rfl | exact mem_at 20 rfl | exact mem_at 21 rfl) rfl ?_)))) ?_
      refine ex_one (ex_if (et_cmp (ev_var (by first | exact mem_at 0 rfl | exact mem_at 1 rfl | exact mem_at 2 rfl | exact mem_at 3 rfl | exact mem_at 4 rfl | exact mem_at 5 rfl | exact mem_at 6 rfl | exact mem_at 7 rfl | exact mem_at 8 rfl | exact mem_at 9 rfl | exact mem_at 10 rfl | exact mem_at 11 rfl | exact mem_at 12 rfl | exact mem_at 13 rfl | exact mem_at 14 rfl | exact mem_at 15 rfl | exact mem_at 16 rfl | exact mem_at 17 rfl | exact mem_at 18 rfl | exact mem_at 19 rfl | exact mem_at 20 rfl | exact mem_at 21 rfl)) (ev_def (ev_var (by first | exact mem_at 0 rfl | exact mem_at 1 rfl | exact mem_at 2 rfl | exact mem_at 3 rfl | exact mem_at 4 rfl | exact mem_at 5 rfl | exact mem_at 6 rfl | exact mem_at 7 rfl | exact mem_at 8 rfl | exact mem_at 9 rfl | exact mem_at 10 rfl | exact mem_at 11 rfl | exact mem_at 12 rfl | exact mem_at 13 rfl | exact mem_at 14 rfl | exact mem_at 15 rfl | exact mem_at 16 rfl | exact mem_at 17 rfl | exact mem_at 18 rfl | exact mem_at 19 rfl | exact mem_at 20 rfl | exact mem_at 21 rfl)) (evl_cons (ev_item (ev_var (by first | exact mem_at 0 rfl | exact mem_at 1 rfl | exact mem_at 2 rfl | exact mem_at 3 rfl | exact mem_at 4 rfl | exact mem_at 5 rfl | exact mem_at 6 rfl | exact mem_at 7 rfl | exact mem_at 8 rfl | exact mem_at 9 rfl | exact mem_at 10 rfl | exact mem_at 11 rfl | exact mem_at 12 rfl | exact mem_at 13 rfl | exact mem_at 14 rfl | exact mem_at 15 rfl | exact mem_at 16 rfl | exact mem_at 17 rfl | exact mem_at 18 rfl | exact mem_at 19 rfl | exact mem_at 20 rfl | exact mem_at 21 rfl)) (ev_var (by first | exact mem_at 0 rfl | exact mem_at 1 rfl | exact mem_at 2 rfl | exact mem_at 3 rfl | exact mem_at 4 rfl | exact mem_at 5 rfl | exact mem_at 6 rfl | exact mem_at 7 rfl | exact mem_at 8 rfl | exact mem_at 9 rfl | exact mem_at 10 rfl | exact mem_at 11 rfl | exact mem_at 12 rfl | exact mem_at 13 rfl | exact mem_at 14 rfl | exact mem_at 15 rfl | exact mem_at 16 rfl | exact mem_at 17 rfl | exact mem_at 18 rfl | exact mem_at 19 rfl | exact mem_at 20 rfl | exact mem_at 21 rfl)) (getR_list (d := ds[(q.1 + q.2) / 2]) (by first | decide | assumption | with_reducible exact Int.natCast_nonneg _ | with_reducible exact Nat.le_trans (by assumption) (by decide) | with_reducible exact Nat.lt_of_lt_of_le (by assumption) (by decide) | with_reducible exact lt_mil (Nat.lt_of_lt_of_le (by assumption) (by decide)) | with_reducible exact lt_mil (Nat.lt_of_le_of_lt (by assumption) (by decide)) | with_reducible exact Nat.le_trans (Nat.le_of_lt (by assumption)) (by decide) | (first | lia | omega)) (by rw [Int.toNat_natCast]; exact List.getElem?_eq_getElem hm) (by first | decide | assumption | with_reducible exact Int.natCast_nonneg _ | with_reducible exact Nat.le_trans (by assumption) (by decide) | with_reducible exact Nat.lt_of_lt_of_le (by assumption) (by decide) | with_reducible exact lt_mil (Nat.lt_of_lt_of_le (by assumption) (by decide)) | with_reducible exact lt_mil (Nat.lt_of_le_of_lt (by assumption) (by decide)) | with_reducible exact Nat.le_trans (Nat.le_of_lt (by assumption)) (by decide) | (first | lia | omega)))) evl_nil) evkw_nil hko hkd (hk _ (like_into _ _) _ (List.getElem_mem _))) (hc _ _ hm)) ?_ ?_)
      · intro h
        have h : p ≤ (q.1 + q.2) / 2 := by simpa using h
        rw [if_pos h]
        dsimp only
        exact ex_one (ex_assign (Γ' := [(Str.ofString "lo", .dat (.int q.1)), (Str.ofString "hi", .dat (.int ((q.1 + q.2) / 2 : Nat))), (Str.ofString "a", .lst ds), (Str.ofString "x", .dat x), (Str.ofString "key", .val (.ref kv))]) (ev_var (by first | exact mem_at 0 rfl | exact mem_at 1 rfl | exact mem_at 2 rfl | exact mem_at 3 rfl | exact mem_at 4 rfl | exact mem_at 5 rfl | exact mem_at 6 rfl | exact mem_at 7 rfl | exact mem_at 8 rfl | exact mem_at 9 rfl | exact mem_at 10 rfl | exact mem_at 11 rfl | exact mem_at 12 rfl | exact mem_at 13 rfl | exact mem_at 14 rfl | exact mem_at 15 rfl | exact mem_at 16 rfl | exact mem_at 17 rfl | exact mem_at 18 rfl | exact mem_at 19 rfl | exact mem_at 20 rfl | exact mem_at 21 rfl)) (by first | exact Or.inl rfl | exact Or.inr ⟨rfl, rfl, rfl⟩) (by intro y ds e; first | (cases e; done) | (cases e; decide)) (Pk.g (by repeat (first | exact Pk.nil | refine Pk.here ?_ | refine Pk.cons (by first | exact mem_at 0 rfl | exact mem_at 1 rfl | exact mem_at 2 rfl | exact mem_at 3 rfl | exact mem_at 4 rfl | exact mem_at 5 rfl | exact mem_at 6 rfl | exact mem_at 7 rfl | exact mem_at 8 rfl | exact mem_at 9 rfl | exact mem_at 10 rfl | exact mem_at 11 rfl | exact mem_at 12 rfl | exact mem_at 13 rfl | exact mem_at 14 rfl | exact mem_at 15 rfl | exact mem_at 16 rfl | exact mem_at 17 rfl | exact mem_at 18 rfl | exact mem_at 19 rfl | exact mem_at 20 rfl | exact mem_at 21 rfl) rfl ?_))))
      · intro h
        have h : ¬ p ≤ (q.1 + q.2) / 2 := by simpa using h
        rw [if_neg h]
        dsimp only
        exact ex_one (ex_assign (Γ' := [(Str.ofString "lo", .dat (.int ((q.1 + q.2) / 2 + 1 : Nat))), (Str.ofString "hi", .dat (.int q.2)), (Str.ofString "a", .lst ds), (Str.ofString "x", .dat x), (Str.ofString "key", .val (.ref kv))]) (ev_bin (ev_var (by first | exact mem_at 0 rfl | exact mem_at 1 rfl | exact mem_at 2 rfl | exact mem_at 3 rfl | exact mem_at 4 rfl | exact mem_at 5 rfl | exact mem_at 6 rfl | exact mem_at 7 rfl | exact mem_at 8 rfl | exact mem_at 9 rfl | exact mem_at 10 rfl | exact mem_at 11 rfl | exact mem_at 12 rfl | exact mem_at 13 rfl | exact mem_at 14 rfl | exact mem_at 15 rfl | exact mem_at 16 rfl | exact mem_at 17 rfl | exact mem_at 18 rfl | exact mem_at 19 rfl | exact mem_at 20 rfl | exact mem_at 21 rfl)) ev_int (binR_addN rfl)) (by first | exact Or.inl rfl | exact Or.inr ⟨rfl, rfl, rfl⟩) (by intro y ds e; first | (cases e; done) | (cases e; decide)) (Pk.g (by repeat (first | exact Pk.nil | refine Pk.here ?_ | refine Pk.cons (by first | exact mem_at 0 rfl | exact mem_at 1 rfl | exact mem_at 2 rfl | exact mem_at 3 rfl | exact mem_at 4 rfl | exact mem_at 5 rfl | exact mem_at 6 rfl | exact mem_at 7 rfl | exact mem_at 8 rfl | exact mem_at 9 rfl | exact mem_at 10 rfl | exact mem_at 11 rfl | exact mem_at 12 rfl | exact mem_at 13 rfl | exact mem_at 14 rfl | exact mem_at 15 rfl | exact mem_at 16 rfl | exact mem_at 17 rfl | exact mem_at 18 rfl | exact mem_at 19 rfl | exact mem_at 20 rfl | exact mem_at 21 rfl) rfl ?_))))
    · intro q hq hlt
      have hlt : ¬ q.1 < q.2 := by simpa using hlt
      have : q.1 = p := by (first | lia | omega)
      rw [this]
      exact ex_sub (Sb.g (by repeat (first | exact Sb.nil | refine Sb.cons (by first | exact mem_at 0 rfl | exact mem_at 1 rfl | exact mem_at 2 rfl | exact mem_at 3 rfl | exact mem_at 4 rfl | exact mem_at 5 rfl | exact mem_at 6 rfl | exact mem_at 7 rfl | exact mem_at 8 rfl | exact mem_at 9 rfl | exact mem_at 10 rfl | exact mem_at 11 rfl | exact mem_at 12 rfl | exact mem_at 13 rfl | exact mem_at 14 rfl | exact mem_at 15 rfl | exact mem_at 16 rfl | exact mem_at 17 rfl | exact mem_at 18 rfl | exact mem_at 19 rfl | exact mem_at 20 rfl | exact mem_at 21 rfl) ?_))) ex_nil
theorem bl_none (I : Is2 P C) (hf : 0 < C.fuel) {ds : List PyData} {x : PyData} {p : Nat} (hz : ds.length ≤ 1000) (hp : p ≤ ds.length) (hc : ∀ F i, (h : i < ds.length) → CmpR F .Lt (.dat ds[i]) (.dat x) (decide (i < p))) :
    CallOk C (.ref 142) [.lst ds, .dat x] [] [] (.dat (.int p)) :=
  callOk_of fun ok W s vs ks S hx hy => by
    obtain ⟨_, _, rfl, r1, r2⟩ := BAll.inv2 hx
    obtain rfl := BAll.inv0 hy
    refine enter ok hf S (I.lk (a := 142) rfl) (by rw [I.K]; rfl) (binds := [(Str.ofString "a", _), (Str.ofString "x", _), (Str.ofString "lo", _), (Str.ofString "hi", _), (Str.ofString "key", _)]) (kp_binds (K := hd2.heap_39 P) (I.inn S) (fun _ => rfl))
      (.cons r1 (.cons r2 (.cons (b := .dat (.int 0)) (.int _ _) (.cons (b := .dat .none) .none (.cons (b := .dat .none) .none .nil))))) (show [Str.ofString "a", Str.ofString "x", Str.ofString "lo", Str.ofString "hi", Str.ofString "key"].Nodup by decide) rfl fun L => ?_
    refine ex_cons (ex_if_false (et_cmp (ev_var (by first | exact mem_at 0 rfl | exact mem_at 1 rfl | exact mem_at 2 rfl | exact mem_at 3 rfl | exact mem_at 4 rfl | exact mem_at 5 rfl | exact mem_at 6 rfl | exact mem_at 7 rfl | exact mem_at 8 rfl | exact mem_at 9 rfl | exact mem_at 10 rfl | exact mem_at 11 rfl | exact mem_at 12 rfl | exact mem_at 13 rfl | exact mem_at 14 rfl | exact mem_at 15 rfl | exact mem_at 16 rfl | exact mem_at 17 rfl | exact mem_at 18 rfl | exact mem_at 19 rfl | exact mem_at 20 rfl | exact mem_at 21 rfl)) ev_int cmpR_lt_int) ex_nil) ?_
    refine ex_cons (ex_if_true (et_cmp (ev_var (by first | exact mem_at 0 rfl | exact mem_at 1 rfl | exact mem_at 2 rfl | exact mem_at 3 rfl | exact mem_at 4 rfl | exact mem_at 5 rfl | exact mem_at 6 rfl | exact mem_at 7 rfl | exact mem_at 8 rfl | exact mem_at 9 rfl | exact mem_at 10 rfl | exact mem_at 11 rfl | exact mem_at 12 rfl | exact mem_at 13 rfl | exact mem_at 14 rfl | exact mem_at 15 rfl | exact mem_at 16 rfl | exact mem_at 17 rfl | exact mem_at 18 rfl | exact mem_at 19 rfl | exact mem_at 20 rfl | exact mem_at 21 rfl)) ev_none cmpR_is_none) (ex_one (ex_assign (Γ' := [(Str.ofString "lo", .dat (.int (0 : Nat))), (Str.ofString "hi", .dat (.int ds.length)), (Str.ofString "a", .lst ds), (Str.ofString "x", .dat x), (Str.ofString "key", .dat .none)])
      (ev_call_bi (ev_builtin rfl (I.gl rfl) rfl) (evl_cons (ev_var (by first | exact mem_at 0 rfl | exact mem_at 1 rfl | exact mem_at 2 rfl | exact mem_at 3 rfl | exact mem_at 4 rfl | exact mem_at 5 rfl | exact mem_at 6 rfl | exact mem_at 7 rfl | exact mem_at 8 rfl | exact mem_at 9 rfl | exact mem_at 10 rfl | exact mem_at 11 rfl | exact mem_at 12 rfl | exact mem_at 13 rfl | exact mem_at 14 rfl | exact mem_at 15 rfl | exact mem_at 16 rfl | exact mem_at 17 rfl | exact mem_at 18 rfl | exact mem_at 19 rfl | exact mem_at 20 rfl | exact mem_at 21 rfl)) evl_nil) (callOk_len_list (by first | decide | assumption | with_reducible exact Int.natCast_nonneg _ | with_reducible exact Nat.le_trans (by assumption) (by decide) | with_reducible exact Nat.lt_of_lt_of_le (by assumption) (by decide) | with_reducible exact lt_mil (Nat.lt_of_lt_of_le (by assumption) (by decide)) | with_reducible exact lt_mil (Nat.lt_of_le_of_lt (by assumption) (by decide)) | with_reducible exact Nat.le_trans (Nat.le_of_lt (by assumption)) (by decide) | (first | lia | omega)))) (by first | exact Or.inl rfl | exact Or.inr ⟨rfl, rfl, rfl⟩) (by intro y ds e; first | (cases e; done) | (cases e; decide)) (Pk.g (by repeat (first | exact Pk.nil | refine Pk.here ?_ | refine Pk.cons (by first | exact mem_at 0 rfl | exact mem_at 1 rfl | exact mem_at 2 rfl | exact mem_at 3 rfl | exact mem_at 4 rfl | exact mem_at 5 rfl | exact mem_at 6 rfl | exact mem_at 7 rfl | exact mem_at 8 rfl | exact mem_at 9 rfl | exact mem_at 10 rfl | exact mem_at 11 rfl | exact mem_at 12 rfl | exact mem_at 13 rfl | exact mem_at 14 rfl | exact mem_at 15 rfl | exact mem_at 16 rfl | exact mem_at 17 rfl | exact mem_at 18 rfl | exact mem_at 19 rfl | exact mem_at 20 rfl | exact mem_at 21 rfl) rfl ?_)))))) ?_
    refine ex_cons (Γ₁ := [(Str.ofString "lo", .dat (.int p))]) (own₁ := none) (ex_if_true (et_cmp (ev_var (by first | exact mem_at 0 rfl | exact mem_at 1 rfl | exact mem_at 2 rfl | exact mem_at 3 rfl | exact mem_at 4 rfl | exact mem_at 5 rfl | exact mem_at 6 rfl | exact mem_at 7 rfl | exact mem_at 8 rfl | exact mem_at 9 rfl | exact mem_at 10 rfl | exact mem_at 11 rfl | exact mem_at 12 rfl | exact mem_at 13 rfl | exact mem_at 14 rfl | exact mem_at 15 rfl | exact mem_at 16 rfl | exact mem_at 17 rfl | exact mem_at 18 rfl | exact mem_at 19 rfl | exact mem_at 20 rfl | exact mem_at 21 rfl)) ev_none cmpR_is_none) ?_) (ex_one (ex_return (ev_var (by first | exact mem_at 0 rfl | exact mem_at 1 rfl | exact mem_at 2 rfl | exact mem_at 3 rfl | exact mem_at 4 rfl | exact mem_at 5 rfl | exact mem_at 6 rfl | exact mem_at 7 rfl | exact mem_at 8 rfl | exact mem_at 9 rfl | exact mem_at 10 rfl | exact mem_at 11 rfl | exact mem_at 12 rfl | exact mem_at 13 rfl | exact mem_at 14 rfl | exact mem_at 15 rfl | exact mem_at 16 rfl | exact mem_at 17 rfl | exact mem_at 18 rfl | exact mem_at 19 rfl | exact mem_at 20 rfl | exact mem_at 21 rfl))))
    refine ex_while (σ := Nat × Nat) (fun q => [(Str.ofString "lo", .dat (.int q.1)), (Str.ofString "hi", .dat (.int q.2)), (Str.ofString "a", .lst ds), (Str.ofString "x", .dat x), (Str.ofString "key", .dat .none)]) (fun q => q.1 ≤ p ∧ p ≤ q.2 ∧ q.2 ≤ ds.length) (fun q => q.2 - q.1) (fun q => decide (q.1 < q.2)) ?_ ?_ (0, ds.length) ⟨by (first | lia | omega), hp, by (first | lia | omega)⟩ ?_
    · intro q hq
      exact et_cmp (ev_var (by first | exact mem_at 0 rfl | exact mem_at 1 rfl | exact mem_at 2 rfl | exact mem_at 3 rfl | exact mem_at 4 rfl | exact mem_at 5 rfl | exact mem_at 6 rfl | exact mem_at 7 rfl | exact mem_at 8 rfl | exact mem_at 9 rfl | exact mem_at 10 rfl | exact mem_at 11 rfl | exact mem_at 12 rfl | exact mem_at 13 rfl | exact mem_at 14 rfl | exact mem_at 15 rfl | exact mem_at 16 rfl | exact mem_at 17 rfl | exact mem_at 18 rfl | exact mem_at 19 rfl | exact mem_at 20 rfl | exact mem_at 21 rfl)) (ev_var (by first | exact mem_at 0 rfl | exact mem_at 1 rfl | exact mem_at 2 rfl | exact mem_at 3 rfl | exact mem_at 4 rfl | exact mem_at 5 rfl | exact mem_at 6 rfl | exact mem_at 7 rfl | exact mem_at 8 rfl | exact mem_at 9 rfl | exact mem_at 10 rfl | exact mem_at 11 rfl | exact mem_at 12 rfl | exact mem_at 13 rfl | exact mem_at 14 rfl | exact mem_at 15 rfl | exact mem_at 16 rfl | exact mem_at 17 rfl | exact mem_at 18 rfl | exact mem_at 19 rfl | exact mem_at 20 rfl | exact mem_at 21 rfl)) cmpR_ltN
    · intro q hq hlt
      have hlt : q.1 < q.2 := by simpa using hlt
      obtain ⟨q1, q2, q3⟩ := hq
      have hm : (q.1 + q.2) / 2 < ds.length := by (first | lia | omega)
      refine ⟨if (q.1 + q.2) / 2 < p then ((q.1 + q.2) / 2 + 1, q.2) else (q.1, (q.1 + q.2) / 2), by split <;> (dsimp only; (first | lia | omega)), by split <;> (dsimp only; (first | lia | omega)), ?_⟩
      refine ex_cons (ex_assign (Γ' := [(Str.ofString "mid", .dat (.int ((q.1 + q.2) / 2 : Nat))), (Str.ofString "lo", .dat (.int q.1)), (Str.ofString "hi", .dat (.int q.2)), (Str.ofString "a", .lst ds), (Str.ofString "x", .dat x), (Str.ofString "key", .dat .none)]) (ev_bin (ev_bin (ev_var (by first | exact mem_at 0 rfl | exact mem_at 1 rfl | exact mem_at 2 rfl | exact mem_at 3 rfl | exact mem_at 4 rfl | exact mem_at 5 rfl | exact mem_at 6 rfl | exact mem_at 7 rfl | exact mem_at 8 rfl | exact mem_at 9 rfl | exact mem_at 10 rfl | exact mem_at 11 rfl | exact mem_at 12 rfl | exact mem_at 13 rfl | exact mem_at 14 rfl | exact mem_at 15 rfl | exact mem_at 16 rfl | exact mem_at 17 rfl | exact mem_at 18 rfl | exact mem_at 19 rfl | exact mem_at 20 rfl | exact mem_at 21 rfl)) (ev_var (by first | exact mem_at 0 rfl | exact mem_at 1 rfl | exact mem_at 2 rfl | exact mem_at 3 rfl | exact mem_at 4 rfl | exact mem_at 5 rfl | exact mem_at 6 rfl | exact mem_at 7 rfl | exact mem_at 8 rfl | exact mem_at 9 rfl | exact mem_at 10 rfl | exact mem_at 11 rfl | exact mem_at 12 rfl | exact mem_at 13 rfl | exact mem_at 14 rfl | exact mem_at 15 rfl | exact mem_at 16 rfl | exact mem_at 17 rfl | exact mem_at 18 rfl | exact mem_at 19 rfl | exact mem_at 20 rfl | exact mem_at 21 rfl)) (binR_addN rfl)) ev_int (binR_divN (k := 2) rfl rfl (by first | decide | assumption | with_reducible exact Int.natCast_nonneg _ | with_reducible exact Nat.le_trans (by assumption) (by decide) | with_reducible exact Nat.lt_of_lt_of_le (by assumption) (by decide) | with_reducible exact lt_mil (Nat.lt_of_lt_of_le (by assumption) (by decide)) | with_reducible exact lt_mil (Nat.lt_of_le_of_lt (by assumption) (by decide)) | with_reducible exact Nat.le_trans (Nat.le_of_lt (by assumption)) (by decide) | (first | lia | omega)) (by first | decide | assumption | with_reducible exact Int.natCast_nonneg _ | with_reducible exact Nat.le_trans (by assumption) (by decide) | with_reducible exact Nat.lt_of_lt_of_le (by assumption) (by decide) | with_reducible exact lt_mil (Nat.lt_of_lt_of_le (by assumption) (by decide)) | with_reducible exact lt_mil (Nat.lt_of_le_of_lt (by assumption) (by decide)) | with_reducible exact Nat.le_trans (Nat.le_of_lt (by assumption)) (by decide) | (first | lia | omega)))) (by first | exact Or.inl rfl | exact Or.inr ⟨rfl, rfl, rfl⟩) (by intro y ds e; first | (cases e; done) | (cases e; decide)) (Pk.g (by repeat (first | exact Pk.nil | refine Pk.here ?_ | refine Pk.cons (by first | exact mem_at 0 rfl | exact mem_at 1 rfl | exact mem_at 2 rfl | exact mem_at 3 rfl | exact mem_at 4 rfl | exact mem_at 5 rfl | exact mem_at 6 rfl | exact mem_at 7 rfl | exact mem_at 8 rfl | exact mem_at 9 rfl | exact mem_at 10 rfl | exact mem_at 11 rfl | exact mem_at 12 rfl | exact mem_at 13 rfl | exact mem_at 14 rfl | exact mem_at 15 rfl | exact mem_at 16 rfl | exact mem_at 17 rfl | exact mem_at 18 rfl | exact mem_at 19 rfl | exact mem_at 20 rfl | exact mem_at 21 rfl) rfl ?_)))) ?_
      refine ex_one (ex_if (et_cmp (ev_item (ev_var (by first | exact mem_at 0 rfl | exact mem_at 1 rfl | exact mem_at 2 rfl | exact mem_at 3 rfl | exact mem_at 4 rfl | exact mem_at 5 rfl | exact mem_at 6 rfl | exact mem_at 7 rfl | exact mem_at 8 rfl | exact mem_at 9 rfl | exact mem_at 10 rfl | exact mem_at 11 rfl | exact mem_at 12 rfl | exact mem_at 13 rfl | exact mem_at 14 rfl | exact mem_at 15 rfl | exact mem_at 16 rfl | exact mem_at 17 rfl | exact mem_at 18 rfl | exact mem_at 19 rfl | exact mem_at 20 rfl | exact mem_at 21 rfl)) (ev_var (by first | exact mem_at 0 rfl | exact mem_at 1 rfl | exact mem_at 2 rfl | exact mem_at 3 rfl | exact mem_at 4 rfl | exact mem_at 5 rfl | exact mem_at 6 rfl | exact mem_at 7 rfl | exact mem_at 8 rfl | exact mem_at 9 rfl | exact mem_at 10 rfl | exact mem_at 11 rfl | exact mem_at 12 rfl | exact mem_at 13 rfl | exact mem_at 14 rfl | exact mem_at 15 rfl | exact mem_at 16 rfl | exact mem_at 17 rfl | exact mem_at 18 rfl | exact mem_at 19 rfl | exact mem_at 20 rfl | exact mem_at 21 rfl)) (getR_list (d := ds[(q.1 + q.2) / 2]) (by first | decide | assumption | with_reducible exact Int.natCast_nonneg _ | with_reducible exact Nat.le_trans (by assumption) (by decide) | with_reducible exact Nat.lt_of_lt_of_le (by assumption) (by decide) | with_reducible exact lt_mil (Nat.lt_of_lt_of_le (by assumption) (by decide)) | with_reducible exact lt_mil (Nat.lt_of_le_of_lt (by assumption) (by decide)) | with_reducible exact Nat.le_trans (Nat.le_of_lt (by assumption)) (by decide) | (first | lia | omega)) (by rw [Int.toNat_natCast]; exact List.getElem?_eq_getElem hm) (by first | decide | assumption | with_reducible exact Int.natCast_nonneg _ | with_reducible exact Nat.le_trans (by assumption) (by decide) | with_reducible exact Nat.lt_of_lt_of_le (by assumption) (by decide) | with_reducible exact lt_mil (Nat.lt_of_lt_of_le (by assumption) (by decide)) | with_reducible exact lt_mil (Nat.lt_of_le_of_lt (by assumption) (by decide)) | with_reducible exact Nat.le_trans (Nat.le_of_lt (by assumption)) (by decide) | (first | lia | omega)))) (ev_var (by first | exact mem_at 0 rfl | exact mem_at 1 rfl | exact mem_at 2 rfl | exact mem_at 3 rfl | exact mem_at 4 rfl | exact mem_at 5 rfl | exact mem_at 6 rfl | exact mem_at 7 rfl | exact mem_at 8 rfl | exact mem_at 9 rfl | exact mem_at 10 rfl | exact mem_at 11 rfl | exact mem_at 12 rfl | exact mem_at 13 rfl | exact mem_at 14 rfl | exact mem_at 15 rfl | exact mem_at 16 rfl | exact mem_at 17 rfl | exact mem_at 18 rfl | exact mem_at 19 rfl | exact mem_at 20 rfl | exact mem_at 21 rfl)) (hc _ _ hm)) ?_ ?_)
      · intro h
        have h : (q.1 + q.2) / 2 < p := by simpa using h
        rw [if_pos h]
        dsimp only
        exact ex_one (ex_assign (Γ' := [(Str.ofString "lo", .dat (.int ((q.1 + q.2) / 2 + 1 : Nat))), (Str.ofString "hi", .dat (.int q.2)), (Str.ofString "a", .lst ds), (Str.ofString "x", .dat x), (Str.ofString "key", .dat .none)]) (ev_bin (ev_var (by first | exact mem_at 0 rfl | exact mem_at 1 rfl | exact mem_at 2 rfl | exact mem_at 3 rfl | exact mem_at 4 rfl | exact mem_at 5 rfl | exact mem_at 6 rfl | exact mem_at 7 rfl | exact mem_at 8 rfl | exact mem_at 9 rfl | exact mem_at 10 rfl | exact mem_at 11 rfl | exact mem_at 12 rfl | exact mem_at 13 rfl | exact mem_at 14 rfl | exact mem_at 15 rfl | exact mem_at 16 rfl | exact mem_at 17 rfl | exact mem_at 18 rfl | exact mem_at 19 rfl | exact mem_at 20 rfl | exact mem_at 21 rfl)) ev_int (binR_addN rfl)) (by first | exact Or.inl rfl | exact Or.inr ⟨rfl, rfl, rfl⟩) (by intro y ds e; first | (cases e; done) | (cases e; decide)) (Pk.g (by repeat (first | exact Pk.nil | refine Pk.here ?_ | refine Pk.cons (by first | exact mem_at 0 rfl | exact mem_at 1 rfl | exact mem_at 2 rfl | exact mem_at 3 rfl | exact mem_at 4 rfl | exact mem_at 5 rfl | exact mem_at 6 rfl | exact mem_at 7 rfl | exact mem_at 8 rfl | exact mem_at 9 rfl | exact mem_at 10 rfl | exact mem_at 11 rfl | exact mem_at 12 rfl | exact mem_at 13 rfl | exact mem_at 14 rfl | exact mem_at 15 rfl | exact mem_at 16 rfl | exact mem_at 17 rfl | exact mem_at 18 rfl | exact mem_at 19 rfl | exact mem_at 20 rfl | exact mem_at 21 rfl) rfl ?_))))
      · intro h
        have h : ¬ (q.1 + q.2) / 2 < p := by simpa using h
        rw [if_neg h]
        dsimp only
        exact ex_one (ex_assign (Γ' := [(Str.ofString "lo", .dat (.int q.1)), (Str.ofString "hi", .dat (.int ((q.1 + q.2) / 2 : Nat))), (Str.ofString "a", .lst ds), (Str.ofString "x", .dat x), (Str.ofString "key", .dat .none)]) (ev_var (by first | exact mem_at 0 rfl | exact mem_at 1 rfl | exact mem_at 2 rfl | exact mem_at 3 rfl | exact mem_at 4 rfl | exact mem_at 5 rfl | exact mem_at 6 rfl | exact mem_at 7 rfl | exact mem_at 8 rfl | exact mem_at 9 rfl | exact mem_at 10 rfl | exact mem_at 11 rfl | exact mem_at 12 rfl | exact mem_at 13 rfl | exact mem_at 14 rfl | exact mem_at 15 rfl | exact mem_at 16 rfl | exact mem_at 17 rfl | exact mem_at 18 rfl | exact mem_at 19 rfl | exact mem_at 20 rfl | exact mem_at 21 rfl)) (by first | exact Or.inl rfl | exact Or.inr ⟨rfl, rfl, rfl⟩) (by intro y ds e; first | (cases e; done) | (cases e; decide)) (Pk.g (by repeat (first | exact Pk.nil | refine Pk.here ?_ | refine Pk.cons (by first | exact mem_at 0 rfl | exact mem_at 1 rfl | exact mem_at 2 rfl | exact mem_at 3 rfl | exact mem_at 4 rfl | exact mem_at 5 rfl | exact mem_at 6 rfl | exact mem_at 7 rfl | exact mem_at 8 rfl | exact mem_at 9 rfl | exact mem_at 10 rfl | exact mem_at 11 rfl | exact mem_at 12 rfl | exact mem_at 13 rfl | exact mem_at 14 rfl | exact mem_at 15 rfl | exact mem_at 16 rfl | exact mem_at 17 rfl | exact mem_at 18 rfl | exact mem_at 19 rfl | exact mem_at 20 rfl | exact mem_at 21 rfl) rfl ?_))))
    · intro q hq hlt
      have hlt : ¬ q.1 < q.2 := by simpa using hlt
      have : q.1 = p := by (first | lia | omega)
      rw [this]
      exact ex_sub (Sb.g (by repeat (first | exact Sb.nil | refine Sb.cons (by first | exact mem_at 0 rfl | exact mem_at 1 rfl | exact mem_at 2 rfl | exact mem_at 3 rfl | exact mem_at 4 rfl | exact mem_at 5 rfl | exact mem_at 6 rfl | exact mem_at 7 rfl | exact mem_at 8 rfl | exact mem_at 9 rfl | exact mem_at 10 rfl | exact mem_at 11 rfl | exact mem_at 12 rfl | exact mem_at 13 rfl | exact mem_at 14 rfl | exact mem_at 15 rfl | exact mem_at 16 rfl | exact mem_at 17 rfl | exact mem_at 18 rfl | exact mem_at 19 rfl | exact mem_at 20 rfl | exact mem_at 21 rfl) ?_))) ex_nil
theorem br_none (I : Is2 P C) (hf : 0 < C.fuel) {ds : List PyData} {x : PyData} {p : Nat} (hz : ds.length ≤ 1000) (hp : p ≤ ds.length) (hc : ∀ F i, (h : i < ds.length) → CmpR F .Lt (.dat x) (.dat ds[i]) (decide (p ≤ i))) :
    CallOk C (.ref 124) [.lst ds, .dat x] [] [] (.dat (.int p)) :=
  callOk_of fun ok W s vs ks S hx hy => by
    obtain ⟨_, _, rfl, r1, r2⟩ := BAll.inv2 hx
    obtain rfl := BAll.inv0 hy
    refine enter ok hf S (I.lk (a := 124) rfl) (by rw [I.K]; rfl) (binds := [(Str.ofString "a", _), (Str.ofString "x", _), (Str.ofString "lo", _), (Str.ofString "hi", _), (Str.ofString "key", _)]) (kp_binds (K := hd2.heap_39 P) (I.inn S) (fun _ => rfl))
      (.cons r1 (.cons r2 (.cons (b := .dat (.int 0)) (.int _ _) (.cons (b := .dat .none) .none (.cons (b := .dat .none) .none .nil))))) (show [Str.ofString "a", Str.ofString "x", Str.ofString "lo", Str.ofString "hi", Str.ofString "key"].Nodup by decide) rfl fun L => ?_
    refine ex_cons (ex_if_false (et_cmp (ev_var (by first | exact mem_at 0 rfl | exact mem_at 1 rfl | exact mem_at 2 rfl | exact mem_at 3 rfl | exact mem_at 4 rfl | exact mem_at 5 rfl | exact mem_at 6 rfl | exact mem_at 7 rfl | exact mem_at 8 rfl | exact mem_at 9 rfl | exact mem_at 10 rfl | exact mem_at 11 rfl | exact mem_at 12 rfl | exact mem_at 13 rfl | exact mem_at 14 rfl | exact mem_at 15 rfl | exact mem_at 16 rfl | exact mem_at 17 rfl | exact mem_at 18 rfl | exact mem_at 19 rfl | exact mem_at 20 rfl | exact mem_at 21 rfl)) ev_int cmpR_lt_int) ex_nil) ?_
    refine ex_cons (ex_if_true (et_cmp (ev_var (by first | exact mem_at 0 rfl | exact mem_at 1 rfl | exact mem_at 2 rfl | exact mem_at 3 rfl | exact mem_at 4 rfl | exact mem_at 5 rfl | exact mem_at 6 rfl | exact mem_at 7 rfl | exact mem_at 8 rfl | exact mem_at 9 rfl | exact mem_at 10 rfl | exact mem_at 11 rfl | exact mem_at 12 rfl | exact mem_at 13 rfl | exact mem_at 14 rfl | exact mem_at 15 rfl | exact mem_at 16 rfl | exact mem_at 17 rfl | exact mem_at 18 rfl | exact mem_at 19 rfl | exact mem_at 20 rfl | exact mem_at 21 rfl)) ev_none cmpR_is_none) (ex_one (ex_assign (Γ' := [(Str.ofString "lo", .dat (.int (0 : Nat))), (Str.ofString "hi", .dat (.int ds.length)), (Str.ofString "a", .lst ds), (Str.ofString "x", .dat x), (Str.ofString "key", .dat .none)])
      (ev_call_bi (ev_builtin rfl (I.gl rfl) rfl) (evl_cons (ev_var (by first | exact mem_at 0 rfl | exact mem_at 1 rfl | exact mem_at 2 rfl | exact mem_at 3 rfl | exact mem_at 4 rfl | exact mem_at 5 rfl | exact mem_at 6 rfl | exact mem_at 7 rfl | exact mem_at 8 rfl | exact mem_at 9 rfl | exact mem_at 10 rfl | exact mem_at 11 rfl | exact mem_at 12 rfl | exact mem_at 13 rfl | exact mem_at 14 rfl | exact mem_at 15 rfl | exact mem_at 16 rfl | exact mem_at 17 rfl | exact mem_at 18 rfl | exact mem_at 19 rfl | exact mem_at 20 rfl | exact mem_at 21 rfl)) evl_nil) (callOk_len_list (by first | decide | assumption | with_reducible exact Int.natCast_nonneg _ | with_reducible exact Nat.le_trans (by assumption) (by decide) | with_reducible exact Nat.lt_of_lt_of_le (by assumption) (by decide) | with_reducible exact lt_mil (Nat.lt_of_lt_of_le (by assumption) (by decide)) | with_reducible exact lt_mil (Nat.lt_of_le_of_lt (by assumption) (by decide)) | with_reducible exact Nat.le_trans (Nat.le_of_lt (by assumption)) (by decide) | (first | lia | omega)))) (by first | exact Or.inl rfl | exact Or.inr ⟨rfl, rfl, rfl⟩) (by intro y ds e; first | (cases e; done) | (cases e; decide)) (Pk.g (by repeat (first | exact Pk.nil | refine Pk.here ?_ | refine Pk.cons (by first | exact mem_at 0 rfl | exact mem_at 1 rfl | exact mem_at 2 rfl | exact mem_at 3 rfl | exact mem_at 4 rfl | exact mem_at 5 rfl | exact mem_at 6 rfl | exact mem_at 7 rfl | exact mem_at 8 rfl | exact mem_at 9 rfl | exact mem_at 10 rfl | exact mem_at 11 rfl | exact mem_at 12 rfl | exact mem_at 13 rfl | exact mem_at 14 rfl | exact mem_at 15 rfl | exact mem_at 16 rfl | exact mem_at 17 rfl | exact mem_at 18 rfl | exact mem_at 19 rfl | exact mem_at 20 rfl | exact mem_at 21 rfl) rfl ?_)))))) ?_
    refine ex_cons (Γ₁ := [(Str.ofString "lo", .dat (.int p))]) (own₁ := none) (ex_if_true (et_cmp (ev_var (by first | exact mem_at 0 rfl | exact mem_at 1 rfl | exact mem_at 2 rfl | exact mem_at 3 rfl | exact mem_at 4 rfl | exact mem_at 5 rfl | exact mem_at 6 rfl | exact mem_at 7 rfl | exact mem_at 8 rfl | exact mem_at 9 rfl | exact mem_at 10 rfl | exact mem_at 11 rfl | exact mem_at 12 rfl | exact mem_at 13 rfl | exact mem_at 14 rfl | exact mem_at 15 rfl | exact mem_at 16 rfl | exact mem_at 17 rfl | exact mem_at 18 rfl | exact mem_at 19 rfl | exact mem_at 20 rfl | exact mem_at 21 rfl)) ev_none cmpR_is_none) ?_) (ex_one (ex_return (ev_var (by first | exact mem_at 0 rfl | exact mem_at 1 rfl | exact mem_at 2 rfl | exact mem_at 3 rfl | exact mem_at 4 rfl | exact mem_at 5 rfl | exact mem_at 6 rfl | exact mem_at 7 rfl | exact mem_at 8 rfl | exact mem_at 9 rfl | exact mem_at 10 rfl | exact mem_at 11 rfl | exact mem_at 12 rfl | exact mem_at 13 rfl | exact mem_at 14 rfl | exact mem_at 15 rfl | exact mem_at 16 rfl | exact mem_at 17 rfl | exact mem_at 18 rfl | exact mem_at 19 rfl | exact mem_at 20 rfl | exact mem_at 21 rfl))))
    refine ex_while (σ := Nat × Nat) (fun q => [(Str.ofString "lo", .dat (.int q.1)), (Str.ofString "hi", .dat (.int q.2)), (Str.ofString "a", .lst ds), (Str.ofString "x", .dat x), (Str.ofString "key", .dat .none)]) (fun q => q.1 ≤ p ∧ p ≤ q.2 ∧ q.2 ≤ ds.length) (fun q => q.2 - q.1) (fun q => decide (q.1 < q.2)) ?_ ?_ (0, ds.length) ⟨by (first | lia | omega), hp, by (first | lia | omega)⟩ ?_
    · intro q hq
      exact et_cmp (ev_var (by first | exact mem_at 0 rfl | exact mem_at 1 rfl | exact mem_at 2 rfl | exact mem_at 3 rfl | exact mem_at 4 rfl | exact mem_at 5 rfl | exact mem_at 6 rfl | exact mem_at 7 rfl | exact mem_at 8 rfl | exact mem_at 9 rfl | exact mem_at 10 rfl | exact mem_at 11 rfl | exact mem_at 12 rfl | exact mem_at 13 rfl | exact mem_at 14 rfl | exact mem_at 15 rfl | exact mem_at 16 rfl | exact mem_at 17 rfl | exact mem_at 18 rfl | exact mem_at 19 rfl | exact mem_at 20 rfl | exact mem_at 21 rfl)) (ev_var (by first | exact mem_at 0 rfl | exact mem_at 1 rfl | exact mem_at 2 rfl | exact mem_at 3 rfl | exact mem_at 4 rfl | exact mem_at 5 rfl | exact mem_at 6 rfl | exact mem_at 7 rfl | exact mem_at 8 rfl | exact mem_at 9 rfl | exact mem_at 10 rfl | exact mem_at 11 rfl | exact mem_at 12 rfl | exact mem_at 13 rfl | exact mem_at 14 rfl | exact mem_at 15 rfl | exact mem_at 16 rfl | exact mem_at 17 rfl | exact mem_at 18 rfl | exact mem_at 19 rfl | exact mem_at 20 rfl | exact mem_at 21 rfl)) cmpR_ltN
    · intro q hq hlt
      have hlt : q.1 < q.2 := by simpa using hlt
      obtain ⟨q1, q2, q3⟩ := hq
      have hm : (q.1 + q.2) / 2 < ds.length := by (first | lia | omega)
      refine ⟨if p ≤ (q.1 + q.2) / 2 then (q.1, (q.1 + q.2) / 2) else ((q.1 + q.2) / 2 + 1, q.2), by split <;> (dsimp only; (first | lia | omega)), by split <;> (dsimp only; (first | lia | omega)), ?_⟩
      refine ex_cons (ex_assign (Γ' := [(Str.ofString "mid", .dat (.int ((q.1 + q.2) / 2 : Nat))), (Str.ofString "lo", .dat (.int q.1)), (Str.ofString "hi", .dat (.int q.2)), (Str.ofString "a", .lst ds), (Str.ofString "x", .dat x), (Str.ofString "key", .dat .none)]) (ev_bin (ev_bin (ev_var (by first | exact mem_at 0 rfl | exact mem_at 1 rfl | exact mem_at 2 rfl | exact mem_at 3 rfl | exact mem_at 4 rfl | exact mem_at 5 rfl | exact mem_at 6 rfl | exact mem_at 7 rfl | exact mem_at 8 rfl | exact mem_at 9 rfl | exact mem_at 10 rfl | exact mem_at 11 rfl | exact mem_at 12 rfl | exact mem_at 13 rfl | exact mem_at 14 rfl | exact mem_at 15 rfl | exact mem_at 16 rfl | exact mem_at 17 rfl | exact mem_at 18 rfl | exact mem_at 19 rfl | exact mem_at 20 rfl | exact mem_at 21 rfl)) (ev_var (by first | exact mem_at 0 rfl | exact mem_at 1 rfl | exact mem_at 2 rfl | exact mem_at 3 rfl | exact mem_at 4 rfl | exact mem_at 5 rfl | exact mem_at 6 rfl | exact mem_at 7 rfl | exact mem_at 8 rfl | exact mem_at 9 rfl | exact mem_at 10 rfl | exact mem_at 11 rfl | exact mem_at 12 rfl | exact mem_at 13 rfl | exact mem_at 14 rfl | exact mem_at 15 rfl | exact mem_at 16 rfl | exact mem_at 17 rfl | exact mem_at 18 rfl | exact mem_at 19 rfl | exact mem_at 20 rfl | exact mem_at 21 rfl)) (binR_addN rfl)) ev_int (binR_divN (k := 2) rfl rfl (by first | decide | assumption | with_reducible exact Int.natCast_nonneg _ | with_reducible exact Nat.le_trans (by assumption) (by decide) | with_reducible exact Nat.lt_of_lt_of_le (by assumption) (by decide) | with_reducible exact lt_mil (Nat.lt_of_lt_of_le (by assumption) (by decide)) | with_reducible exact lt_mil (Nat.lt_of_le_of_lt (by assumption) (by decide)) | with_reducible exact Nat.le_trans (Nat.le_of_lt (by assumption)) (by decide) | (first | lia | omega)) (by first | decide | assumption | with_reducible exact Int.natCast_nonneg _ | with_reducible exact Nat.le_trans (by assumption) (by decide) | with_reducible exact Nat.lt_of_lt_of_le (by assumption) (by decide) | with_reducible exact lt_mil (Nat.lt_of_lt_of_le (by assumption) (by decide)) | with_reducible exact lt_mil (Nat.lt_of_le_of_lt (by assumption) (by decide)) | with_reducible exact Nat.le_trans (Nat.le_of_lt (by assumption)) (by decide) | (first | lia | omega)))) (by first | exact Or.inl rfl | exact Or.inr ⟨rfl, rfl, rfl⟩) (by intro y ds e; first | (cases e; done) | (cases e; decide)) (Pk.g (by repeat (first | exact Pk.nil | refine Pk.here ?_ | refine Pk.cons (by first | exact mem_at 0 rfl | exact mem_at 1 rfl | exact mem_at 2 rfl | exact mem_at 3 rfl | exact mem_at 4 rfl | exact mem_at 5 rfl | exact mem_at 6 rfl | exact mem_at 7 rfl | exact mem_at 8 rfl | exact mem_at 9 rfl | exact mem_at 10 rfl | exact mem_at 11 rfl | exact mem_at 12 rfl | exact mem_at 13 rfl | exact mem_at 14 rfl | exact mem_at 15 rfl | exact mem_at 16 rfl | exact mem_at 17 rfl | exact mem_at 18 rfl | exact mem_at 19 rfl | exact mem_at 20 rfl | exact mem_at 21 rfl) rfl ?_)))) ?_
      refine ex_one (ex_if (et_cmp (ev_var (by first | exact mem_at 0 rfl | exact mem_at 1 rfl | exact mem_at 2 rfl | exact mem_at 3 rfl | exact mem_at 4 rfl | exact mem_at 5 rfl | exact mem_at 6 rfl | exact mem_at 7 rfl | exact mem_at 8 rfl | exact mem_at 9 rfl | exact mem_at 10 rfl | exact mem_at 11 rfl | exact mem_at 12 rfl | exact mem_at 13 rfl | exact mem_at 14 rfl | exact mem_at 15 rfl | exact mem_at 16 rfl | exact mem_at 17 rfl | exact mem_at 18 rfl | exact mem_at 19 rfl | exact mem_at 20 rfl | exact mem_at 21 rfl)) (ev_item (ev_var (by first | exact mem_at 0 rfl | exact mem_at 1 rfl | exact mem_at 2 rfl | exact mem_at 3 rfl | exact mem_at 4 rfl | exact mem_at 5 rfl | exact mem_at 6 rfl | exact mem_at 7 rfl | exact mem_at 8 rfl | exact mem_at 9 rfl | exact mem_at 10 rfl | exact mem_at 11 rfl | exact mem_at 12 rfl | exact mem_at 13 rfl | exact mem_at 14 rfl | exact mem_at 15 rfl | exact mem_at 16 rfl | exact mem_at 17 rfl | exact mem_at 18 rfl | exact mem_at 19 rfl | exact mem_at 20 rfl | exact mem_at 21 rfl)) (ev_var (by first | exact mem_at 0 rfl | exact mem_at 1 rfl | exact mem_at 2 rfl | exact mem_at 3 rfl | exact mem_at 4 rfl | exact mem_at 5 rfl | exact mem_at 6 rfl | exact mem_at 7 rfl | exact mem_at 8 rfl | exact mem_at 9 rfl | exact mem_at 10 rfl | exact mem_at 11 rfl | exact mem_at 12 rfl | exact mem_at 13 rfl | exact mem_at 14 rfl | exact mem_at 15 rfl | exact mem_at 16 rfl | exact mem_at 17 rfl | exact mem_at 18 rfl | exact mem_at 19 rfl | exact mem_at 20 rfl | exact mem_at 21 rfl)) (getR_list (d := ds[(q.1 + q.2) / 2]) (by first | decide | assumption | with_reducible exact Int.natCast_nonneg _ | with_reducible exact Nat.le_trans (by assumption) (by decide) | with_reducible exact Nat.lt_of_lt_of_le (by assumption) (by decide) | with_reducible exact lt_mil (Nat.lt_of_lt_of_le (by assumption) (by decide)) | with_reducible exact lt_mil (Nat.lt_of_le_of_lt (by assumption) (by decide)) | with_reducible exact Nat.le_trans (Nat.le_of_lt (by assumption)) (by decide) | (first | lia | omega)) (by rw [Int.toNat_natCast]; exact List.getElem?_eq_getElem hm) (by first | decide | assumption | with_reducible exact Int.natCast_nonneg _ | with_reducible exact Nat.le_trans (by assumption) (by decide) | with_reducible exact Nat.lt_of_lt_of_le (by assumption) (by decide) | with_reducible exact lt_mil (Nat.lt_of_lt_of_le (by assumption) (by decide)) | with_reducible exact lt_mil (Nat.lt_of_le_of_lt (by assumption) (by decide)) | with_reducible exact Nat.le_trans (Nat.le_of_lt (by assumption)) (by decide) | (first | lia | omega)))) (hc _ _ hm)) ?_ ?_)
      · intro h
        have h : p ≤ (q.1 + q.2) / 2 := by simpa using h
        rw [if_pos h]
        dsimp only
        exact ex_one (ex_assign (Γ' := [(Str.ofString "lo", .dat (.int q.1)), (Str.ofString "hi", .dat (.int ((q.1 + q.2) / 2 : Nat))), (Str.ofString "a", .lst ds), (Str.ofString "x", .dat x), (Str.ofString "key", .dat .none)]) (ev_var (by first | exact mem_at 0 rfl | exact mem_at 1 rfl | exact mem_at 2 rfl | exact mem_at 3 rfl | exact mem_at 4 rfl | exact mem_at 5 rfl | exact mem_at 6 rfl | exact mem_at 7 rfl | exact mem_at 8 rfl | exact mem_at 9 rfl | exact mem_at 10 rfl | exact mem_at 11 rfl | exact mem_at 12 rfl | exact mem_at 13 rfl | exact mem_at 14 rfl | exact mem_at 15 rfl | exact mem_at 16 rfl | exact mem_at 17 rfl | exact mem_at 18 rfl | exact mem_at 19 rfl | exact mem_at 20 rfl | exact mem_at 21 rfl)) (by first | exact Or.inl rfl | exact Or.inr ⟨rfl, rfl, rfl⟩) (by intro y ds e; first | (cases e; done) | (cases e; decide)) (Pk.g (by repeat (first | exact Pk.nil | refine Pk.here ?_ | refine Pk.cons (by first | exact mem_at 0 rfl | exact mem_at 1 rfl | exact mem_at 2 rfl | exact mem_at 3 rfl | exact mem_at 4 rfl | exact mem_at 5 rfl | exact mem_at 6 rfl | exact mem_at 7 rfl | exact mem_at 8 rfl | exact mem_at 9 rfl | exact mem_at 10 rfl | exact mem_at 11 rfl | exact mem_at 12 rfl | exact mem_at 13 rfl | exact mem_at 14 rfl | exact mem_at 15 rfl | exact mem_at 16 rfl | exact mem_at 17 rfl | exact mem_at 18 rfl | exact mem_at 19 rfl | exact mem_at 20 rfl | exact mem_at 21 rfl) rfl ?_))))
      · intro h
        have h : ¬ p ≤ (q.1 + q.2) / 2 := by simpa using h
        rw [if_neg h]
        dsimp only
        exact ex_one (ex_assign (Γ' := [(Str.ofString "lo", .dat (.int ((q.1 + q.2) / 2 + 1 : Nat))), (Str.ofString "hi", .dat (.int q.2)), (Str.ofString "a", .lst ds), (Str.ofString "x", .dat x), (Str.ofString "key", .dat .none)]) (ev_bin (ev_var (by first | exact mem_at 0 rfl | exact mem_at 1 rfl | exact mem_at 2 rfl | exact mem_at 3 rfl | exact mem_at 4 rfl | exact mem_at 5 rfl | exact mem_at 6 rfl | exact mem_at 7 rfl | exact mem_at 8 rfl | exact mem_at 9 rfl | exact mem_at 10 rfl | exact mem_at 11 rfl | exact mem_at 12 rfl | exact mem_at 13 rfl | exact mem_at 14 rfl | exact mem_at 15 rfl | exact mem_at 16 rfl | exact mem_at 17 rfl | exact mem_at 18 rfl | exact mem_at 19 rfl | exact mem_at 20 rfl | exact mem_at 21 rfl)) ev_int (binR_addN rfl)) (by first | exact Or.inl rfl | exact Or.inr ⟨rfl, rfl, rfl⟩) (by intro y ds e; first | (cases e; done) | (cases e; decide)) (Pk.g (by repeat (first | exact Pk.nil | refine Pk.here ?_ | refine Pk.cons (by first | exact mem_at 0 rfl | exact mem_at 1 rfl | exact mem_at 2 rfl | exact mem_at 3 rfl | exact mem_at 4 rfl | exact mem_at 5 rfl | exact mem_at 6 rfl | exact mem_at 7 rfl | exact mem_at 8 rfl | exact mem_at 9 rfl | exact mem_at 10 rfl | exact mem_at 11 rfl | exact mem_at 12 rfl | exact mem_at 13 rfl | exact mem_at 14 rfl | exact mem_at 15 rfl | exact mem_at 16 rfl | exact mem_at 17 rfl | exact mem_at 18 rfl | exact mem_at 19 rfl | exact mem_at 20 rfl | exact mem_at 21 rfl) rfl ?_))))
    · intro q hq hlt
      have hlt : ¬ q.1 < q.2 := by simpa using hlt
      have : q.1 = p := by (first | lia | omega)
      rw [this]
      exact ex_sub (Sb.g (by repeat (first | exact Sb.nil | refine Sb.cons (by first | exact mem_at 0 rfl | exact mem_at 1 rfl | exact mem_at 2 rfl | exact mem_at 3 rfl | exact mem_at 4 rfl | exact mem_at 5 rfl | exact mem_at 6 rfl | exact mem_at 7 rfl | exact mem_at 8 rfl | exact mem_at 9 rfl | exact mem_at 10 rfl | exact mem_at 11 rfl | exact mem_at 12 rfl | exact mem_at 13 rfl | exact mem_at 14 rfl | exact mem_at 15 rfl | exact mem_at 16 rfl | exact mem_at 17 rfl | exact mem_at 18 rfl | exact mem_at 19 rfl | exact mem_at 20 rfl | exact mem_at 21 rfl) ?_))) ex_nil
theorem bl_key4 (I : Is2 P C) (hf : 0 < C.fuel) {ds : List PyData} {x : PyData} {p : Nat} {kv : Addr} {ko : Obj} {kd : FuncData} {key : PyData → PyData} (hko : C.g kv = some ko) (hkd : ko.data = .func kd) (hk : ∀ C', Like 1 C C' → ∀ d ∈ ds, CallOk C' (.ref kv) [.dat d] [] [] (.dat (key d))) (hz : ds.length ≤ 1000) (hp : p ≤ ds.length) (hc : ∀ F i, (h : i < ds.length) → CmpR F .Lt (.dat (key ds[i])) (.dat x) (decide (i < p))) :
    CallOk C (.ref 142) [.lst ds, .dat x, .dat (.int 0), .dat .none] [Str.ofString "key"] [.val (.ref kv)] (.dat (.int p)) :=
  callOk_of fun ok W s vs ks S hx hy => by
    obtain ⟨_, _, _, _, rfl, r1, r2, r3, r4⟩ := BAll.inv4 hx
    obtain ⟨_, rfl, r5⟩ := BAll.inv1 hy
    refine enter ok hf S (I.lk (a := 142) rfl) (by rw [I.K]; rfl) (binds := [(Str.ofString "a", _), (Str.ofString "x", _), (Str.ofString "lo", _), (Str.ofString "hi", _), (Str.ofString "key", _)]) (kp_binds (K := hd2.heap_39 P) (I.inn S) (fun _ => rfl))
      (.cons r1 (.cons r2 (.cons r3 (.cons r4 (.cons r5 .nil))))) (show [Str.ofString "a", Str.ofString "x", Str.ofString "lo", Str.ofString "hi", Str.ofString "key"].Nodup by decide) rfl fun L => ?_
    refine ex_cons (ex_if_false (et_cmp (ev_var (by first | exact mem_at 0 rfl | exact mem_at 1 rfl | exact mem_at 2 rfl | exact mem_at 3 rfl | exact mem_at 4 rfl | exact mem_at 5 rfl | exact mem_at 6 rfl | exact mem_at 7 rfl | exact mem_at 8 rfl | exact mem_at 9 rfl | exact mem_at 10 rfl | exact mem_at 11 rfl | exact mem_at 12 rfl | exact mem_at 13 rfl | exact mem_at 14 rfl | exact mem_at 15 rfl | exact mem_at 16 rfl | exact mem_at 17 rfl | exact mem_at 18 rfl | exact mem_at 19 rfl | exact mem_at 20 rfl | exact mem_at 21 rfl)) ev_int cmpR_lt_int) ex_nil) ?_
    refine ex_cons (ex_if_true (et_cmp (ev_var (by first | exact mem_at 0 rfl | exact mem_at 1 rfl | exact mem_at 2 rfl | exact mem_at 3 rfl | exact mem_at 4 rfl | exact mem_at 5 rfl | exact mem_at 6 rfl | exact mem_at 7 rfl | exact mem_at 8 rfl | exact mem_at 9 rfl | exact mem_at 10 rfl | exact mem_at 11 rfl | exact mem_at 12 rfl | exact mem_at 13 rfl | exact mem_at 14 rfl | exact mem_at 15 rfl | exact mem_at 16 rfl | exact mem_at 17 rfl | exact mem_at 18 rfl | exact mem_at 19 rfl | exact mem_at 20 rfl | exact mem_at 21 rfl)) ev_none cmpR_is_none) (ex_one (ex_assign (Γ' := [(Str.ofString "lo", .dat (.int (0 : Nat))), (Str.ofString "hi", .dat (.int ds.length)), (Str.ofString "a", .lst ds), (Str.ofString "x", .dat x), (Str.ofString "key", .val (.ref kv))])
      (ev_call_bi (ev_builtin rfl (I.gl rfl) rfl) (evl_cons (ev_var (by first | exact mem_at 0 rfl | exact mem_at 1 rfl | exact mem_at 2 rfl | exact mem_at 3 rfl | exact mem_at 4 rfl | exact mem_at 5 rfl | exact mem_at 6 rfl | exact mem_at 7 rfl | exact mem_at 8 rfl | exact mem_at 9 rfl | exact mem_at 10 rfl | exact mem_at 11 rfl | exact mem_at 12 rfl | exact mem_at 13 rfl | exact mem_at 14 rfl | exact mem_at 15 rfl | exact mem_at 16 rfl | exact mem_at 17 rfl | exact mem_at 18 rfl | exact mem_at 19 rfl | exact mem_at 20 rfl | exact mem_at 21 rfl)) evl_nil) (callOk_len_list (by first | decide | assumption | with_reducible exact Int.natCast_nonneg _ | with_reducible exact Nat.le_trans (by assumption) (by decide) | with_reducible exact Nat.lt_of_lt_of_le (by assumption) (by decide) | with_reducible exact lt_mil (Nat.lt_of_lt_of_le (by assumption) (by decide)) | with_reducible exact lt_mil (Nat.lt_of_le_of_lt (by assumption) (by decide)) | with_reducible exact Nat.le_trans (Nat.le_of_lt (by assumption)) (by decide) | (first | lia | omega)))) (by first | exact Or.inl rfl | exact Or.inr ⟨rfl, rfl, rfl⟩) (by intro y ds e; first | (cases e; done) | (cases e; decide)) (Pk.g (by repeat (first | exact Pk.nil | refine Pk.here ?_ | refine Pk.cons (by first | exact mem_at 0 rfl | exact mem_at 1 rfl | exact mem_at 2 rfl | exact mem_at 3 rfl | exact mem_at 4 rfl | exact mem_at 5 rfl | exact mem_at 6 rfl | exact mem_at 7 rfl | exact mem_at 8 rfl | exact mem_at 9 rfl | exact mem_at 10 rfl | exact mem_at 11 rfl | exact mem_at 12 rfl | exact mem_at 13 rfl | exact mem_at 14 rfl | exact mem_at 15 rfl | exact mem_at 16 rfl | exact mem_at 17 rfl | exact mem_at 18 rfl | exact mem_at 19 rfl | exact mem_at 20 rfl | exact mem_at 21 rfl) rfl ?_)))))) ?_
    refine ex_cons (Γ₁ := [(Str.ofString "lo", .dat (.int p))]) (own₁ := none) (ex_if_false (et_cmp (ev_var (by first | exact mem_at 0 rfl | exact mem_at 1 rfl | exact mem_at 2 rfl | exact mem_at 3 rfl | exact mem_at 4 rfl | exact mem_at 5 rfl | exact mem_at 6 rfl | exact mem_at 7 rfl | exact mem_at 8 rfl | exact mem_at 9 rfl | exact mem_at 10 rfl | exact mem_at 11 rfl | exact mem_at 12 rfl | exact mem_at 13 rfl | exact mem_at 14 rfl | exact mem_at 15 rfl | exact mem_at 16 rfl | exact mem_at 17 rfl | exact mem_at 18 rfl | exact mem_at 19 rfl | exact mem_at 20 rfl | exact mem_at 21 rfl)) ev_none cmpR_is_none_ref) ?_) (ex_one (ex_return (ev_var (by first | exact mem_at 0 rfl | exact mem_at 1 rfl | exact mem_at 2 rfl | exact mem_at 3 rfl | exact mem_at 4 rfl | exact mem_at 5 rfl | exact mem_at 6 rfl | exact mem_at 7 rfl | exact mem_at 8 rfl | exact mem_at 9 rfl | exact mem_at 10 rfl | exact mem_at 11 rfl | exact mem_at 12 rfl | exact mem_at 13 rfl | exact mem_at 14 rfl | exact mem_at 15 rfl | exact mem_at 16 rfl | exact mem_at 17 rfl | exact mem_at 18 rfl | exact mem_at 19 rfl | exact mem_at 20 rfl | exact mem_at 21 rfl))))
    refine ex_while (σ := Nat × Nat) (fun q => [(Str.ofString "lo", .dat (.int q.1)), (Str.ofString "hi", .dat (.int q.2)), (Str.ofString "a", .lst ds), (Str.ofString "x", .dat x), (Str.ofString "key", .val (.ref kv))]) (fun q => q.1 ≤ p ∧ p ≤ q.2 ∧ q.2 ≤ ds.length) (fun q => q.2 - q.1) (fun q => decide (q.1 < q.2)) ?_ ?_ (0, ds.length) ⟨by (first | lia | omega), hp, by (first | lia | omega)⟩ ?_
    · intro q hq
      exact et_cmp (ev_var (by first | exact mem_at 0 rfl | exact mem_at 1 rfl | exact mem_at 2 rfl | exact mem_at 3 rfl | exact mem_at 4 rfl | exact mem_at 5 rfl | exact mem_at 6 rfl | exact mem_at 7 rfl | exact mem_at 8 rfl | exact mem_at 9 rfl | exact mem_at 10 rfl | exact mem_at 11 rfl | exact mem_at 12 rfl | exact mem_at 13 rfl | exact mem_at 14 rfl | exact mem_at 15 rfl | exact mem_at 16 rfl | exact mem_at 17 rfl | exact mem_at 18 rfl | exact mem_at 19 rfl | exact mem_at 20 rfl | exact mem_at 21 rfl)) (ev_var (by first | exact mem_at 0 rfl | exact mem_at 1 rfl | exact mem_at 2 rfl | exact mem_at 3 rfl | exact mem_at 4 rfl | exact mem_at 5 rfl | exact mem_at 6 rfl | exact mem_at 7 rfl | exact mem_at 8 rfl | exact mem_at 9 rfl | exact mem_at 10 rfl | exact mem_at 11 rfl | exact mem_at 12 rfl | exact mem_at 13 rfl | exact mem_at 14 rfl | exact mem_at 15 rfl | exact mem_at 16 rfl | exact mem_at 17 rfl | exact mem_at 18 rfl | exact mem_at 19 rfl | exact mem_at 20 rfl | exact mem_at 21 rfl)) cmpR_ltN
    · intro q hq hlt
      have hlt : q.1 < q.2 := by simpa using hlt
      obtain ⟨q1, q2, q3⟩ := hq
      have hm : (q.1 + q.2) / 2 < ds.length := by (first | lia | omega)
      refine ⟨if (q.1 + q.2) / 2 < p then ((q.1 + q.2) / 2 + 1, q.2) else (q.1, (q.1 + q.2) / 2), by split <;> (dsimp only; (first | lia | omega)), by split <;> (dsimp only; (first | lia | omega)), ?_⟩
      refine ex_cons (ex_assign (Γ' := [(Str.ofString "mid", .dat (.int ((q.1 + q.2) / 2 : Nat))), (Str.ofString "lo", .dat (.int q.1)), (Str.ofString "hi", .dat (.int q.2)), (Str.ofString "a", .lst ds), (Str.ofString "x", .dat x), (Str.ofString "key", .val (.ref kv))]) (ev_bin (ev_bin (ev_var (by first | exact mem_at 0 rfl | exact mem_at 1 rfl | exact mem_at 2 rfl | exact mem_at 3 rfl | exact mem_at 4 rfl | exact mem_at 5 rfl | exact mem_at 6 rfl | exact mem_at 7 rfl | exact mem_at 8 rfl | exact mem_at 9 rfl | exact mem_at 10 rfl | exact mem_at 11 rfl | exact mem_at 12 rfl | exact mem_at 13 rfl | exact mem_at 14 rfl | exact mem_at 15 rfl | exact mem_at 16 rfl | exact mem_at 17 rfl | exact mem_at 18 rfl | exact mem_at 19 rfl | exact mem_at 20 rfl | exact mem_at 21 rfl)) (ev_var (by first | exact mem_at 0 rfl | exact mem_at 1 rfl | exact mem_at 2 rfl | exact mem_at 3 rfl | exact mem_at 4 rfl | exact mem_at 5 rfl | exact mem_at 6 rfl | exact mem_at 7 rfl | exact mem_at 8 rfl | exact mem_at 9 rfl | exact mem_at 10 rfl | exact mem_at 11 rfl | exact mem_at 12 rfl | exact mem_at 13 rfl | exact mem_at 14 rfl | exact mem_at 15 rfl | exact mem_at 16 rfl | exact mem_at 17 rfl | exact mem_at 18 rfl | exact mem_at 19 rfl | exact mem_at 20 rfl | exact mem_at 21 rfl)) (binR_addN rfl)) ev_int (binR_divN (k := 2) rfl rfl (by first | decide | assumption | with_reducible exact Int.natCast_nonneg _ | with_reducible exact Nat.le_trans (by assumption) (by decide) | with_reducible exact Nat.lt_of_lt_of_le (by assumption) (by decide) | with_reducible exact lt_mil (Nat.lt_of_lt_of_le (by assumption) (by decide)) | with_reducible exact lt_mil (Nat.lt_of_le_of_lt (by assumption) (by decide)) | with_reducible exact Nat.le_trans (Nat.le_of_lt (by assumption)) (by decide) | (first | lia | omega)) (by first | decide | assumption | with_reducible exact Int.natCast_nonneg _ | with_reducible exact Nat.le_trans (by assumption) (by decide) | with_reducible exact Nat.lt_of_lt_of_le (by assumption) (by decide) | with_reducible exact lt_mil (Nat.lt_of_lt_of_le (by assumption) (by decide)) | with_reducible exact lt_mil (Nat.lt_of_le_of_lt (by assumption) (by decide)) | with_reducible exact Nat.le_trans (Nat.le_of_lt (by assumption)) (by decide) | (first | lia | omega)))) (by first | exact Or.inl rfl | exact Or.inr ⟨rfl, rfl, rfl⟩) (by intro y ds e; first | (cases e; done) | (cases e; decide)) (Pk.g (by repeat (first | exact Pk.nil | refine Pk.here ?_ | refine Pk.cons (by first | exact mem_at 0 rfl | exact mem_at 1 rfl | exact mem_at 2 rfl | exact mem_at 3 rfl | exact mem_at 4 rfl | exact mem_at 5 rfl | exact mem_at 6 rfl | exact mem_at 7 rfl | exact mem_at 8 rfl | exact mem_at 9 rfl | exact mem_at 10 rfl | exact mem_at 11 rfl | exact mem_at 12 rfl | exact mem_at 13 rfl | exact mem_at 14 rfl | exact mem_at 15 rfl | exact mem_at 16 rfl | exact mem_at 17 rfl | exact mem_at 18 rfl | exact mem_at 19 rfl | exact mem_at 20 rfl | exact mem_at 21 rfl) rfl ?_)))) ?_
      refine ex_one (ex_if (et_cmp (ev_def (ev_var (by first | exact mem_at 0 rfl | exact mem_at 1 rfl | exact mem_at 2 rfl | exact mem_at 3 rfl | exact mem_at 4 rfl | exact mem_at 5 rfl | exact mem_at 6 rfl | exact mem_at 7 rfl | exact mem_at 8 rfl | exact mem_at 9 rfl | exact mem_at 10 rfl | exact mem_at 11 rfl | exact mem_at 12 rfl | exact mem_at 13 rfl | exact mem_at 14 rfl | exact mem_at 15 rfl | exact mem_at 16 rfl | exact mem_at 17 rfl | exact mem_at 18 rfl | exact mem_at 19 rfl | exact mem_at 20 rfl | exact mem_at 21 rfl)) (evl_cons (ev_item (ev_var (by first | exact mem_at 0 rfl | exact mem_at 1 rfl | exact mem_at 2 rfl | exact mem_at 3 rfl | exact mem_at 4 rfl | exact mem_at 5 rfl | exact mem_at 6 rfl | exact mem_at 7 rfl | exact mem_at 8 rfl | exact mem_at 9 rfl | exact mem_at 10 rfl | exact mem_at 11 rfl | exact mem_at 12 rfl | exact mem_at 13 rfl | exact mem_at 14 rfl | exact mem_at 15 rfl | exact mem_at 16 rfl | exact mem_at 17 rfl | exact mem_at 18 rfl | exact mem_at 19 rfl | exact mem_at 20 rfl | exact mem_at 21 rfl)) (ev_var (by first | exact mem_at 0 rfl | exact mem_at 1 rfl | exact mem_at 2 rfl | exact mem_at 3 rfl | exact mem_at 4 rfl | exact mem_at 5 rfl | exact mem_at 6 rfl | exact mem_at 7 rfl | exact mem_at 8 rfl | exact mem_at 9 rfl | exact mem_at 10 rfl | exact mem_at 11 rfl | exact mem_at 12 rfl | exact mem_at 13 rfl | exact mem_at 14 rfl | exact mem_at 15 rfl | exact mem_at 16 rfl | exact mem_at 17 rfl | exact mem_at 18 rfl | exact mem_at 19 rfl | exact mem_at 20 rfl | exact mem_at 21 rfl)) (getR_list (d := ds[(q.1 + q.2) / 2]) (by first | decide | assumption | with_reducible exact Int.natCast_nonneg _ | with_reducible exact Nat.le_trans (by assumption) (by decide) | with_reducible exact Nat.lt_of_lt_of_le (by assumption) (by decide) | with_reducible exact lt_mil (Nat.lt_of_lt_of_le (by assumption) (by decide)) | with_reducible exact lt_mil (Nat.lt_of_le_of_lt (by assumption) (by decide)) | with_reducible exact Nat.le_trans (Nat.le_of_lt (by assumption)) (by decide) | (first | lia | omega)) (by rw [Int.toNat_natCast]; exact List.getElem?_eq_getElem hm) (by first | decide | assumption | with_reducible exact Int.natCast_nonneg _ | with_reducible exact Nat.le_trans (by assumption) (by decide) | with_reducible exact Nat.lt_of_lt_of_le (by assumption) (by decide) | with_reducible exact lt_mil (Nat.lt_of_lt_of_le (by assumption) (by decide)) | with_reducible exact lt_mil (Nat.lt_of_le_of_lt (by assumption) (by decide)) | with_reducible exact Nat.le_trans (Nat.le_of_lt (by assumption)) (by decide) | (first | lia | omega)))) evl_nil) evkw_nil hko hkd (hk _ (like_into _ _) _ (List.getElem_mem _))) (ev_var (by first | exact mem_at 0 rfl | exact mem_at 1 rfl | exact mem_at 2 rfl | exact mem_at 3 rfl | exact mem_at 4 rfl | exact mem_at 5 rfl | exact mem_at 6 rfl | exact mem_at 7 rfl | exact mem_at 8 rfl | exact mem_at 9 rfl | exact mem_at 10 rfl | exact mem_at 11 rfl | exact mem_at 12 rfl | exact mem_at 13 rfl | exact mem_at 14 rfl | exact mem_at 15 rfl | exact mem_at 16 rfl | exact mem_at 17 rfl | exact mem_at 18 rfl | exact mem_at 19 rfl | exact mem_at 20 rfl | exact mem_at 21 rfl)) (hc _ _ hm)) ?_ ?_)
      · intro h
        have h : (q.1 + q.2) / 2 < p := by simpa using h
        rw [if_pos h]
        dsimp only
        exact ex_one (ex_assign (Γ' := [(Str.ofString "lo", .dat (.int ((q.1 + q.2) / 2 + 1 : Nat))), (Str.ofString "hi", .dat (.int q.2)), (Str.ofString "a", .lst ds), (Str.ofString "x", .dat x), (Str.ofString "key", .val (.ref kv))]) (ev_bin (ev_var (by first | exact mem_at 0 rfl | exact mem_at 1 rfl | exact mem_at 2 rfl | exact mem_at 3 rfl | exact mem_at 4 rfl | exact mem_at 5 rfl | exact mem_at 6 rfl | exact mem_at 7 rfl | exact mem_at 8 rfl | exact mem_at 9 rfl | exact mem_at 10 rfl | exact mem_at 11 rfl | exact mem_at 12 rfl | exact mem_at 13 rfl | exact mem_at 14 rfl | exact mem_at 15 rfl | exact mem_at 16 rfl | exact mem_at 17 rfl | exact mem_at 18 rfl | exact mem_at 19 rfl | exact mem_at 20 rfl | exact mem_at 21 rfl)) ev_int (binR_addN rfl)) (by first | exact Or.inl rfl | exact Or.inr ⟨rfl, rfl, rfl⟩) (by intro y ds e; first | (cases e; done) | (cases e; decide)) (Pk.g (by repeat (first | exact Pk.nil | refine Pk.here ?_ | refine Pk.cons (by first | exact mem_at 0 rfl | exact mem_at 1 rfl | exact mem_at 2 rfl | exact mem_at 3 rfl | exact mem_at 4 rfl | exact mem_at 5 rfl | exact mem_at 6 rfl | exact mem_at 7 rfl | exact mem_at 8 rfl | exact mem_at 9 rfl | exact mem_at 10 rfl | exact mem_at 11 rfl | exact mem_at 12 rfl | exact mem_at 13 rfl | exact mem_at 14 rfl | exact mem_at 15 rfl | exact mem_at 16 rfl | exact mem_at 17 rfl | exact mem_at 18 rfl | exact mem_at 19 rfl | exact mem_at 20 rfl | exact mem_at 21 rfl) rfl ?_))))
      · intro h
        have h : ¬ (q.1 + q.2) / 2 < p := by simpa using h
        rw [if_neg h]
        dsimp only
        exact ex_one (ex_assign (Γ' := [(Str.ofString "lo", .dat (.int q.1)), (Str.ofString "hi", .dat (.int ((q.1 + q.2) / 2 : Nat))), (Str.ofString "a", .lst ds), (Str.ofString "x", .dat x), (Str.ofString "key", .val (.ref kv))]) (ev_var (by first | exact mem_at 0 rfl | exact mem_at 1 rfl | exact mem_at 2 rfl | exact mem_at 3 rfl | exact mem_at 4 rfl | exact mem_at 5 rfl | exact mem_at 6 rfl | exact mem_at 7 rfl | exact mem_at 8 rfl | exact mem_at 9 rfl | exact mem_at 10 rfl | exact mem_at 11 rfl | exact mem_at 12 rfl | exact mem_at 13 rfl | exact mem_at 14 rfl | exact mem_at 15 rfl | exact mem_at 16 rfl | exact mem_at 17 rfl | exact mem_at 18 rfl | exact mem_at 19 rfl | exact mem_at 20 rfl | exact mem_at 21 rfl)) (by first | exact Or.inl rfl | exact Or.inr ⟨rfl, rfl, rfl⟩) (by intro y ds e; first | (cases e; done) | (cases e; decide)) (Pk.g (by repeat (first | exact Pk.nil | refine Pk.here ?_ | refine Pk.cons (by first | exact mem_at 0 rfl | exact mem_at 1 rfl | exact mem_at 2 rfl | exact mem_at 3 rfl | exact mem_at 4 rfl | exact mem_at 5 rfl | exact mem_at 6 rfl | exact mem_at 7 rfl | exact mem_at 8 rfl | exact mem_at 9 rfl | exact mem_at 10 rfl | exact mem_at 11 rfl | exact mem_at 12 rfl | exact mem_at 13 rfl | exact mem_at 14 rfl | exact mem_at 15 rfl | exact mem_at 16 rfl | exact mem_at 17 rfl | exact mem_at 18 rfl | exact mem_at 19 rfl | exact mem_at 20 rfl | exact mem_at 21 rfl) rfl ?_))))
    · intro q hq hlt
      have hlt : ¬ q.1 < q.2 := by simpa using hlt
      have : q.1 = p := by (first | lia | omega)
      rw [this]
      exact ex_sub (Sb.g (by repeat (first | exact Sb.nil | refine Sb.cons (by first | exact mem_at 0 rfl | exact mem_at 1 rfl | exact mem_at 2 rfl | exact mem_at 3 rfl | exact mem_at 4 rfl | exact mem_at 5 rfl | exact mem_at 6 rfl | exact mem_at 7 rfl | exact mem_at 8 rfl | exact mem_at 9 rfl | exact mem_at 10 rfl | exact mem_at 11 rfl | exact mem_at 12 rfl | exact mem_at 13 rfl | exact mem_at 14 rfl | exact mem_at 15 rfl | exact mem_at 16 rfl | exact mem_at 17 rfl | exact mem_at 18 rfl | exact mem_at 19 rfl | exact mem_at 20 rfl | exact mem_at 21 rfl) ?_))) ex_nil
theorem br_key4 (I : Is2 P C) (hf : 0 < C.fuel) {ds : List PyData} {x : PyData} {p : Nat} {kv : Addr} {ko : Obj} {kd : FuncData} {key : PyData → PyData} (hko : C.g kv = some ko) (hkd : ko.data = .func kd) (hk : ∀ C', Like 1 C C' → ∀ d ∈ ds, CallOk C' (.ref kv) [.dat d] [] [] (.dat (key d))) (hz : ds.length ≤ 1000) (hp : p ≤ ds.length) (hc : ∀ F i, (h : i < ds.length) → CmpR F .Lt (.dat x) (.dat (key ds[i])) (decide (p ≤ i))) :
    CallOk C (.ref 124) [.lst ds, .dat x, .dat (.int 0), .dat .none] [Str.ofString "key"] [.val (.ref kv)] (.dat (.int p)) :=
  callOk_of fun ok W s vs ks S hx hy => by
    obtain ⟨_, _, _, _, rfl, r1, r2, r3, r4⟩ := BAll.inv4 hx
    obtain ⟨_, rfl, r5⟩ := BAll.inv1 hy
    refine enter ok hf S (I.lk (a := 124) rfl) (by rw [I.K]; rfl) (binds := [(Str.ofString "a", _), (Str.ofString "x", _), (Str.ofString "lo", _), (Str.ofString "hi", _), (Str.ofString "key", _)]) (kp_binds (K := hd2.heap_39 P) (I.inn S) (fun _ => rfl))
      (.cons r1 (.cons r2 (.cons r3 (.cons r4 (.cons r5 .nil))))) (show [Str.ofString "a", Str.ofString "x", Str.ofString "lo", Str.ofString "hi", Str.ofString "key"].Nodup by decide) rfl fun L => ?_
    refine ex_cons (ex_if_false (et_cmp (ev_var (by first | exact mem_at 0 rfl | exact mem_at 1 rfl | exact mem_at 2 rfl | exact mem_at 3 rfl | exact mem_at 4 rfl | exact mem_at 5 rfl | exact mem_at 6 rfl | exact mem_at 7 rfl | exact mem_at 8 rfl | exact mem_at 9 rfl | exact mem_at 10 rfl | exact mem_at 11 rfl | exact mem_at 12 rfl | exact mem_at 13 rfl | exact mem_at 14 rfl | exact mem_at 15 rfl | exact mem_at 16 rfl | exact mem_at 17 rfl | exact mem_at 18 rfl | exact mem_at 19 rfl | exact mem_at 20 rfl | exact mem_at 21 rfl)) ev_int cmpR_lt_int) ex_nil) ?_
    refine ex_cons (ex_if_true (et_cmp (ev_var (by first | exact mem_at 0 rfl | exact mem_at 1 rfl | exact mem_at 2 rfl | exact mem_at 3 rfl | exact mem_at 4 rfl | exact mem_at 5 rfl | exact mem_at 6 rfl | exact mem_at 7 rfl | exact mem_at 8 rfl | exact mem_at 9 rfl | exact mem_at 10 rfl | exact mem_at 11 rfl | exact mem_at 12 rfl | exact mem_at 13 rfl | exact mem_at 14 rfl | exact mem_at 15 rfl | exact mem_at 16 rfl | exact mem_at 17 rfl | exact mem_at 18 rfl | exact mem_at 19 rfl | exact mem_at 20 rfl | exact mem_at 21 rfl)) ev_none cmpR_is_none) (ex_one (ex_assign (Γ' := [(Str.ofString "lo", .dat (.int (0 : Nat))), (Str.ofString "hi", .dat (.int ds.length)), (Str.ofString "a", .lst ds), (Str.ofString "x", .dat x), (Str.ofString "key", .val (.ref kv))])
      (ev_call_bi (ev_builtin rfl (I.gl rfl) rfl) (evl_cons (ev_var (by first | exact mem_at 0 rfl | exact mem_at 1 rfl | exact mem_at 2 rfl | exact mem_at 3 rfl | exact mem_at 4 rfl | exact mem_at 5 rfl | exact mem_at 6 rfl | exact mem_at 7 rfl | exact mem_at 8 rfl | exact mem_at 9 rfl | exact mem_at 10 rfl | exact mem_at 11 rfl | exact mem_at 12 rfl | exact mem_at 13 rfl | exact mem_at 14 rfl | exact mem_at 15 rfl | exact mem_at 16 rfl | exact mem_at 17 rfl | exact mem_at 18 rfl | exact mem_at 19 rfl | exact mem_at 20 rfl | exact mem_at 21 rfl)) evl_nil) (callOk_len_list (by first | decide | assumption | with_reducible exact Int.natCast_nonneg _ | with_reducible exact Nat.le_trans (by assumption) (by decide) | with_reducible exact Nat.lt_of_lt_of_le (by assumption) (by decide) | with_reducible exact lt_mil (Nat.lt_of_lt_of_le (by assumption) (by decide)) | with_reducible exact lt_mil (Nat.lt_of_le_of_lt (by assumption) (by decide)) | with_reducible exact Nat.le_trans (Nat.le_of_lt (by assumption)) (by decide) | (first | lia | omega)))) (by first | exact Or.inl rfl | exact Or.inr ⟨rfl, rfl, rfl⟩) (by intro y ds e; first | (cases e; done) | (cases e; decide)) (Pk.g (by repeat (first | exact Pk.nil | refine Pk.here ?_ | refine Pk.cons (by first | exact mem_at 0 rfl | exact mem_at 1 rfl | exact mem_at 2 rfl | exact mem_at 3 rfl | exact mem_at 4 rfl | exact mem_at 5 rfl | exact mem_at 6 rfl | exact mem_at 7 rfl | exact mem_at 8 rfl | exact mem_at 9 rfl | exact mem_at 10 rfl | exact mem_at 11 rfl | exact mem_at 12 rfl | exact mem_at 13 rfl | exact mem_at 14 rfl | exact mem_at 15 rfl | exact mem_at 16 rfl | exact mem_at 17 rfl | exact mem_at 18 rfl | exact mem_at 19 rfl | exact mem_at 20 rfl | exact mem_at 21 rfl) rfl ?_)))))) ?_
    refine ex_cons (Γ₁ := [(Str.ofString "lo", .dat (.int p))]) (own₁ := none) (ex_if_false (et_cmp (ev_var (by first | exact mem_at 0 rfl | exact mem_at 1 rfl | exact mem_at 2 rfl | exact mem_at 3 rfl | exact mem_at 4 rfl | exact mem_at 5 rfl | exact mem_at 6 rfl | exact mem_at 7 rfl | exact mem_at 8 rfl | exact mem_at 9 rfl | exact mem_at 10 rfl | exact mem_at 11 rfl | exact mem_at 12 rfl | exact mem_at 13 rfl | exact mem_at 14 rfl | exact mem_at 15 rfl | exact mem_at 16 rfl | exact mem_at 17 rfl | exact mem_at 18 rfl | exact mem_at 19 rfl | exact mem_at 20 rfl | exact mem_at 21 rfl)) ev_none cmpR_is_none_ref) ?_) (ex_one (ex_return (ev_var (by first | exact mem_at 0 rfl | exact mem_at 1 rfl | exact mem_at 2 rfl | exact mem_at 3 rfl | exact mem_at 4 rfl | exact mem_at 5 rfl | exact mem_at 6 rfl | exact mem_at 7 rfl | exact mem_at 8 rfl | exact mem_at 9 rfl | exact mem_at 10 rfl | exact mem_at 11 rfl | exact mem_at 12 rfl | exact mem_at 13 rfl | exact mem_at 14 rfl | exact mem_at 15 rfl | exact mem_at 16 rfl | exact mem_at 17 rfl | exact mem_at 18 rfl | exact mem_at 19 rfl | exact mem_at 20 rfl | exact mem_at 21 rfl))))
    refine ex_while (σ := Nat × Nat) (fun q => [(Str.ofString "lo", .dat (.int q.1)), (Str.ofString "hi", .dat (.int q.2)), (Str.ofString "a", .lst ds), (Str.ofString "x", .dat x), (Str.ofString "key", .val (.ref kv))]) (fun q => q.1 ≤ p ∧ p ≤ q.2 ∧ q.2 ≤ ds.length) (fun q => q.2 - q.1) (fun q => decide (q.1 < q.2)) ?_ ?_ (0, ds.length) ⟨by (first | lia | omega), hp, by (first | lia | omega)⟩ ?_
    · intro q hq
      exact et_cmp (ev_var (by first | exact mem_at 0 rfl | exact mem_at 1 rfl | exact mem_at 2 rfl | exact mem_at 3 rfl | exact mem_at 4 rfl | exact mem_at 5 rfl | exact mem_at 6 rfl | exact mem_at 7 rfl | exact mem_at 8 rfl | exact mem_at 9 rfl | exact mem_at 10 rfl | exact mem_at 11 rfl | exact mem_at 12 rfl | exact mem_at 13 rfl | exact mem_at 14 rfl | exact mem_at 15 rfl | exact mem_at 16 rfl | exact mem_at 17 rfl | exact mem_at 18 rfl | exact mem_at 19 rfl | exact mem_at 20 rfl | exact mem_at 21 rfl)) (ev_var (by first | exact mem_at 0 rfl | exact mem_at 1 rfl | exact mem_at 2 rfl | exact mem_at 3 rfl | exact mem_at 4 rfl | exact mem_at 5 rfl | exact mem_at 6 rfl | exact mem_at 7 rfl | exact mem_at 8 rfl | exact mem_at 9 rfl | exact mem_at 10 rfl | exact mem_at 11 rfl | exact mem_at 12 rfl | exact mem_at 13 rfl | exact mem_at 14 rfl | exact mem_at 15 rfl | exact mem_at 16 rfl | exact mem_at 17 rfl | exact mem_at 18 rfl | exact mem_at 19 rfl | exact mem_at 20 rfl | exact mem_at 21 rfl)) cmpR_ltN
    · intro q hq hlt
      have hlt : q.1 < q.2 := by simpa using hlt
      obtain ⟨q1, q2, q3⟩ := hq
      have hm : (q.1 + q.2) / 2 < ds.length := by (first | lia | omega)
      refine ⟨if p ≤ (q.1 + q.2) / 2 then (q.1, (q.1 + q.2) / 2) else ((q.1 + q.2) / 2 + 1, q.2), by split <;> (dsimp only; (first | lia | omega)), by split <;> (dsimp only; (first | lia | omega)), ?_⟩
      refine ex_cons (ex_assign (Γ' := [(Str.ofString "mid", .dat (.int ((q.1 + q.2) / 2 : Nat))), (Str.ofString "lo", .dat (.int q.1)), (Str.ofString "hi", .dat (.int q.2)), (Str.ofString "a", .lst ds), (Str.ofString "x", .dat x), (Str.ofString "key", .val (.ref kv))]) (ev_bin (ev_bin (ev_var (by first | exact mem_at 0 rfl | exact mem_at 1 rfl | exact mem_at 2 rfl | exact mem_at 3 rfl | exact mem_at 4 rfl | exact mem_at 5 rfl | exact mem_at 6 rfl | exact mem_at 7 rfl | exact mem_at 8 rfl | exact mem_at 9 rfl | exact mem_at 10 rfl | exact mem_at 11 rfl | exact mem_at 12 rfl | exact mem_at 13 rfl | exact mem_at 14 rfl | exact mem_at 15 rfl | exact mem_at 16 rfl | exact mem_at 17 rfl | exact mem_at 18 rfl | exact mem_at 19 rfl | exact mem_at 20 rfl | exact mem_at 21 rfl)) (ev_var (by first | exact mem_at 0 rfl | exact mem_at 1 rfl | exact mem_at 2 rfl | exact mem_at 3 rfl | exact mem_at 4 rfl | exact mem_at 5 rfl | exact mem_at 6 rfl | exact mem_at 7 rfl | exact mem_at 8 rfl | exact mem_at 9 rfl | exact mem_at 10 rfl | exact mem_at 11 rfl | exact mem_at 12 rfl | exact mem_at 13 rfl | exact mem_at 14 rfl | exact mem_at 15 rfl | exact mem_at 16 rfl | exact mem_at 17 rfl | exact mem_at 18 rfl | exact mem_at 19 rfl | exact mem_at 20 rfl | exact mem_at 21 rfl)) (binR_addN rfl)) ev_int (binR_divN (k := 2) rfl rfl (by first | decide | assumption | with_reducible exact Int.natCast_nonneg _ | with_reducible exact Nat.le_trans (by assumption) (by decide) | with_reducible exact Nat.lt_of_lt_of_le (by assumption) (by decide) | with_reducible exact lt_mil (Nat.lt_of_lt_of_le (by assumption) (by decide)) | with_reducible exact lt_mil (Nat.lt_of_le_of_lt (by assumption) (by decide)) | with_reducible exact Nat.le_trans (Nat.le_of_lt (by assumption)) (by decide) | (first | lia | omega)) (by first | decide | assumption | with_reducible exact Int.natCast_nonneg _ | with_reducible exact Nat.le_trans (by assumption) (by decide) | with_reducible exact Nat.lt_of_lt_of_le (by assumption) (by decide) | with_reducible exact lt_mil (Nat.lt_of_lt_of_le (by assumption) (by decide)) | with_reducible exact lt_mil (Nat.lt_of_le_of_lt (by assumption) (by decide)) | with_reducible exact Nat.le_trans (Nat.le_of_lt (by assumption)) (by decide) | (first | lia | omega)))) (by first | exact Or.inl rfl | exact Or.inr ⟨rfl, rfl, rfl⟩) (by intro y ds e; first | (cases e; done) | (cases e; decide)) (Pk.g (by repeat (first | exact Pk.nil | refine Pk.here ?_ | refine Pk.cons (by first | exact mem_at 0 rfl | exact mem_at 1 rfl | exact mem_at 2 rfl | exact mem_at 3 rfl | exact mem_at 4 rfl | exact mem_at 5 rfl | exact mem_at 6 rfl | exact mem_at 7 rfl | exact mem_at 8 rfl | exact mem_at 9 rfl | exact mem_at 10 rfl | exact mem_at 11 rfl | exact mem_at 12 rfl | exact mem_at 13 rfl | exact mem_at 14 rfl | exact mem_at 15 rfl | exact mem_at 16 rfl | exact mem_at 17 rfl | exact mem_at 18 rfl | exact mem_at 19 rfl | exact mem_at 20 rfl | exact mem_at 21 rfl) rfl ?_)))) ?_
      refine ex_one (ex_if (et_cmp (ev_var (by first | exact mem_at 0 rfl | exact mem_at 1 rfl | exact mem_at 2 rfl | exact mem_at 3 rfl | exact mem_at 4 rfl | exact mem_at 5 rfl | exact mem_at 6 rfl | exact mem_at 7 rfl | exact mem_at 8 rfl | exact mem_at 9 rfl | exact mem_at 10 rfl | exact mem_at 11 rfl | exact mem_at 12 rfl | exact mem_at 13 rfl | exact mem_at 14 rfl | exact mem_at 15 rfl | exact mem_at 16 rfl | exact mem_at 17 rfl | exact mem_at 18 rfl | exact mem_at 19 rfl | exact mem_at 20 rfl | exact mem_at 21 rfl)) (ev_def (ev_var (by first | exact mem_at 0 rfl | exact mem_at 1 rfl | exact mem_at 2 rfl | exact mem_at 3 rfl | exact mem_at 4 rfl | exact mem_at 5 rfl | exact mem_at 6 rfl | exact mem_at 7 rfl | exact mem_at 8 rfl | exact mem_at 9 rfl | exact mem_at 10 rfl | exact mem_at 11 rfl | exact mem_at 12 rfl | exact mem_at 13 rfl | exact mem_at 14 rfl | exact mem_at 15 rfl | exact mem_at 16 rfl | exact mem_at 17 rfl | exact mem_at 18 rfl | exact mem_at 19 rfl | exact mem_at 20 rfl | exact mem_at 21 rfl)) (evl_cons (ev_item (ev_var (by first | exact mem_at 0 rfl | exact mem_at 1 rfl | exact mem_at 2 rfl | exact mem_at 3 rfl | exact mem_at 4 rfl | exact mem_at 5 rfl | exact mem_at 6 rfl | exact mem_at 7 rfl | exact mem_at 8 rfl | exact mem_at 9 rfl | exact mem_at 10 rfl | exact mem_at 11 rfl | exact mem_at 12 rfl | exact mem_at 13 rfl | exact mem_at 14 rfl | exact mem_at 15 rfl | exact mem_at 16 rfl | exact mem_at 17 rfl | exact mem_at 18 rfl | exact mem_at 19 rfl | exact mem_at 20 rfl | exact mem_at 21 rfl)) (ev_var (by first | exact mem_at 0 rfl | exact mem_at 1 rfl | exact mem_at 2 rfl | exact mem_at 3 rfl | exact mem_at 4 rfl | exact mem_at 5 rfl | exact mem_at 6 rfl | exact mem_at 7 rfl | exact mem_at 8 rfl | exact mem_at 9 rfl | exact mem_at 10 rfl | exact mem_at 11 rfl | exact mem_at 12 rfl | exact mem_at 13 rfl | exact mem_at 14 rfl | exact mem_at 15 rfl | exact mem_at 16 rfl | exact mem_at 17 rfl | exact mem_at 18 rfl | exact mem_at 19 rfl | exact mem_at 20 rfl | exact mem_at 21 rfl)) (getR_list (d := ds[(q.1 + q.2) / 2]) (by first | decide | assumption | with_reducible exact Int.natCast_nonneg _ | with_reducible exact Nat.le_trans (by assumption) (by decide) | with_reducible exact Nat.lt_of_lt_of_le (by assumption) (by decide) | with_reducible exact lt_mil (Nat.lt_of_lt_of_le (by assumption) (by decide)) | with_reducible exact lt_mil (Nat.lt_of_le_of_lt (by assumption) (by decide)) | with_reducible exact Nat.le_trans (Nat.le_of_lt (by assumption)) (by decide) | (first | lia | omega)) (by rw [Int.toNat_natCast]; exact List.getElem?_eq_getElem hm) (by first | decide | assumption | with_reducible exact Int.natCast_nonneg _ | with_reducible exact Nat.le_trans (by assumption) (by decide) | with_reducible exact Nat.lt_of_lt_of_le (by assumption) (by decide) | with_reducible exact lt_mil (Nat.lt_of_lt_of_le (by assumption) (by decide)) | with_reducible exact lt_mil (Nat.lt_of_le_of_lt (by assumption) (by decide)) | with_reducible exact Nat.le_trans (Nat.le_of_lt (by assumption)) (by decide) | (first | lia | omega)))) evl_nil) evkw_nil hko hkd (hk _ (like_into _ _) _ (List.getElem_mem _))) (hc _ _ hm)) ?_ ?_)
      · intro h
        have h : p ≤ (q.1 + q.2) / 2 := by simpa using h
        rw [if_pos h]
        dsimp only
        exact ex_one (ex_assign (Γ' := [(Str.ofString "lo", .dat (.int q.1)), (Str.ofString "hi", .dat (.int ((q.1 + q.2) / 2 : Nat))), (Str.ofString "a", .lst ds), (Str.ofString "x", .dat x), (Str.ofString "key", .val (.ref kv))]) (ev_var (by first | exact mem_at 0 rfl | exact mem_at 1 rfl | exact mem_at 2 rfl | exact mem_at 3 rfl | exact mem_at 4 rfl | exact mem_at 5 rfl | exact mem_at 6 rfl | exact mem_at 7 rfl | exact mem_at 8 rfl | exact mem_at 9 rfl | exact mem_at 10 rfl | exact mem_at 11 rfl | exact mem_at 12 rfl | exact mem_at 13 rfl | exact mem_at 14 rfl | exact mem_at 15 rfl | exact mem_at 16 rfl | exact mem_at 17 rfl | exact mem_at 18 rfl | exact mem_at 19 rfl | exact mem_at 20 rfl | exact mem_at 21 rfl)) (by first | exact Or.inl rfl | exact Or.inr ⟨rfl, rfl, rfl⟩) (by intro y ds e; first | (cases e; done) | (cases e; decide)) (Pk.g (by repeat (first | exact Pk.nil | refine Pk.here ?_ | refine Pk.cons (by first | exact mem_at 0 rfl | exact mem_at 1 rfl | exact mem_at 2 rfl | exact mem_at 3 rfl | exact mem_at 4 rfl | exact mem_at 5 rfl | exact mem_at 6 rfl | exact mem_at 7 rfl | exact mem_at 8 rfl | exact mem_at 9 rfl | exact mem_at 10 rfl | exact mem_at 11 rfl | exact mem_at 12 rfl | exact mem_at 13 rfl | exact mem_at 14 rfl | exact mem_at 15 rfl | exact mem_at 16 rfl | exact mem_at 17 rfl | exact mem_at 18 rfl | exact mem_at 19 rfl | exact mem_at 20 rfl | exact mem_at 21 rfl) rfl ?_))))
      · intro h
        have h : ¬ p ≤ (q.1 + q.2) / 2 := by simpa using h
        rw [if_neg h]
        dsimp only
        exact ex_one (ex_assign (Γ' := [(Str.ofString "lo", .dat (.int ((q.1 + q.2) / 2 + 1 : Nat))), (Str.ofString "hi", .dat (.int q.2)), (Str.ofString "a", .lst ds), (Str.ofString "x", .dat x), (Str.ofString "key", .val (.ref kv))]) (ev_bin (ev_var (by first | exact mem_at 0 rfl | exact mem_at 1 rfl | exact mem_at 2 rfl | exact mem_at 3 rfl | exact mem_at 4 rfl | exact mem_at 5 rfl | exact mem_at 6 rfl | exact mem_at 7 rfl | exact mem_at 8 rfl | exact mem_at 9 rfl | exact mem_at 10 rfl | exact mem_at 11 rfl | exact mem_at 12 rfl | exact mem_at 13 rfl | exact mem_at 14 rfl | exact mem_at 15 rfl | exact mem_at 16 rfl | exact mem_at 17 rfl | exact mem_at 18 rfl | exact mem_at 19 rfl | exact mem_at 20 rfl | exact mem_at 21 rfl)) ev_int (binR_addN rfl)) (by first | exact Or.inl rfl | exact Or.inr ⟨rfl, rfl, rfl⟩) (by intro y ds e; first | (cases e; done) | (cases e; decide)) (Pk.g (by repeat (first | exact Pk.nil | refine Pk.here ?_ | refine Pk.cons (by first | exact mem_at 0 rfl | exact mem_at 1 rfl | exact mem_at 2 rfl | exact mem_at 3 rfl | exact mem_at 4 rfl | exact mem_at 5 rfl | exact mem_at 6 rfl | exact mem_at 7 rfl | exact mem_at 8 rfl | exact mem_at 9 rfl | exact mem_at 10 rfl | exact mem_at 11 rfl | exact mem_at 12 rfl | exact mem_at 13 rfl | exact mem_at 14 rfl | exact mem_at 15 rfl | exact mem_at 16 rfl | exact mem_at 17 rfl | exact mem_at 18 rfl | exact mem_at 19 rfl | exact mem_at 20 rfl | exact mem_at 21 rfl) rfl ?_))))
    · intro q hq hlt
      have hlt : ¬ q.1 < q.2 := by simpa using hlt
      have : q.1 = p := by (first | lia | omega)
      rw [this]
      exact ex_sub (Sb.g (by repeat (first | exact Sb.nil | refine Sb.cons (by first | exact mem_at 0 rfl | exact mem_at 1 rfl | exact mem_at 2 rfl | exact mem_at 3 rfl | exact mem_at 4 rfl | exact mem_at 5 rfl | exact mem_at 6 rfl | exact mem_at 7 rfl | exact mem_at 8 rfl | exact mem_at 9 rfl | exact mem_at 10 rfl | exact mem_at 11 rfl | exact mem_at 12 rfl | exact mem_at 13 rfl | exact mem_at 14 rfl | exact mem_at 15 rfl | exact mem_at 16 rfl | exact mem_at 17 rfl | exact mem_at 18 rfl | exact mem_at 19 rfl | exact mem_at 20 rfl | exact mem_at 21 rfl) ?_))) ex_nil
theorem il_key (I : Is2 P C) (hf : 1 < C.fuel) {ds : List PyData} {x : PyData} {p : Nat} {kv : Addr} {ko : Obj} {kd : FuncData} {key : PyData → PyData} (hko : C.g kv = some ko) (hkd : ko.data = .func kd) (hk : ∀ C', Like 2 C C' → ∀ d ∈ x :: ds, CallOk C' (.ref kv) [.dat d] [] [] (.dat (key d))) (hz : ds.length ≤ 1000) (hp : p ≤ ds.length) (hc : ∀ F i, (h : i < ds.length) → CmpR F .Lt (.dat (key ds[i])) (.dat (key x)) (decide (i < p))) :
    MutOk C (.ref 133) [.dat x] [Str.ofString "key"] [.val (.ref kv)] ds (ds.take p ++ x :: ds.drop p) := .mk fun ok W s l lv n vs ks S hWl hgl hl rl hx hy => by
    obtain ⟨_, rfl, r2⟩ := BAll.inv1 hx
    obtain ⟨_, rfl, r5⟩ := BAll.inv1 hy
    refine wpAny_call (codeAny_mono (enter_mut (x := Str.ofString "a") (ds' := ds.take p ++ x :: ds.drop p) (Γ' := fun _ => [(Str.ofString "lo", .dat (.int p)), (Str.ofString "a", .val (.ref l)), (Str.ofString "x", .dat x), (Str.ofString "hi", .dat .none), (Str.ofString "key", .val (.ref kv))]) ok (by first | decide | assumption | with_reducible exact Int.natCast_nonneg _ | with_reducible exact Nat.le_trans (by assumption) (by decide) | with_reducible exact Nat.lt_of_lt_of_le (by assumption) (by decide) | with_reducible exact lt_mil (Nat.lt_of_lt_of_le (by assumption) (by decide)) | with_reducible exact lt_mil (Nat.lt_of_le_of_lt (by assumption) (by decide)) | with_reducible exact Nat.le_trans (Nat.le_of_lt (by assumption)) (by decide) | (first | lia | omega)) S hWl hgl hl rl (I.lk (a := 133) rfl) (by rw [I.K]; rfl) (binds := [(Str.ofString "a", _), (Str.ofString "x", _), (Str.ofString "lo", _), (Str.ofString "hi", _), (Str.ofString "key", _)]) (kp_binds (K := hd2.heap_39 P) (I.inn S) (fun _ => rfl))
      (.cons (b := .val (.ref l)) rfl (.cons r2 (.cons (b := .dat (.int 0)) (.int _ _) (.cons (b := .dat .none) .none (.cons r5 .nil))))) (show [Str.ofString "a", Str.ofString "x", Str.ofString "lo", Str.ofString "hi", Str.ofString "key"].Nodup by decide) rfl (.head _) (fun L => ?_) (fun L => (by first | exact mem_at 0 rfl | exact mem_at 1 rfl | exact mem_at 2 rfl | exact mem_at 3 rfl | exact mem_at 4 rfl | exact mem_at 5 rfl | exact mem_at 6 rfl | exact mem_at 7 rfl | exact mem_at 8 rfl | exact mem_at 9 rfl | exact mem_at 10 rfl | exact mem_at 11 rfl | exact mem_at 12 rfl | exact mem_at 13 rfl | exact mem_at 14 rfl | exact mem_at 15 rfl | exact mem_at 16 rfl | exact mem_at 17 rfl | exact mem_at 18 rfl | exact mem_at 19 rfl | exact mem_at 20 rfl | exact mem_at 21 rfl)) (fun _ => rfl) (noLst_ok rfl)) fun r s' ⟨e, sm, kp, hn⟩ => ?_)
    · refine ex_cons (Γ₁ := [(Str.ofString "lo", .dat (.int p)), (Str.ofString "a", .val (.ref l)), (Str.ofString "x", .dat x), (Str.ofString "hi", .dat .none), (Str.ofString "key", .val (.ref kv))]) (own₁ := some (Str.ofString "a", ds)) (ex_if_false (et_cmp (ev_var (by first | exact mem_at 0 rfl | exact mem_at 1 rfl | exact mem_at 2 rfl | exact mem_at 3 rfl | exact mem_at 4 rfl | exact mem_at 5 rfl | exact mem_at 6 rfl | exact mem_at 7 rfl | exact mem_at 8 rfl | exact mem_at 9 rfl | exact mem_at 10 rfl | exact mem_at 11 rfl | exact mem_at 12 rfl | exact mem_at 13 rfl | exact mem_at 14 rfl | exact mem_at 15 rfl | exact mem_at 16 rfl | exact mem_at 17 rfl | exact mem_at 18 rfl | exact mem_at 19 rfl | exact mem_at 20 rfl | exact mem_at 21 rfl)) ev_none cmpR_is_none_ref) (ex_one (ex_assign (b := .dat (.int p))
        (ev_def (ev_glob rfl (I.gl rfl)) (evl_cons (ev_var (b := .lst ds) (by first | exact mem_at 0 rfl | exact mem_at 1 rfl | exact mem_at 2 rfl | exact mem_at 3 rfl | exact mem_at 4 rfl | exact mem_at 5 rfl | exact mem_at 6 rfl | exact mem_at 7 rfl | exact mem_at 8 rfl | exact mem_at 9 rfl | exact mem_at 10 rfl | exact mem_at 11 rfl | exact mem_at 12 rfl | exact mem_at 13 rfl | exact mem_at 14 rfl | exact mem_at 15 rfl | exact mem_at 16 rfl | exact mem_at 17 rfl | exact mem_at 18 rfl | exact mem_at 19 rfl | exact mem_at 20 rfl | exact mem_at 21 rfl)) (evl_cons (ev_def (ev_var (by first | exact mem_at 0 rfl | exact mem_at 1 rfl | exact mem_at 2 rfl | exact mem_at 3 rfl | exact mem_at 4 rfl | exact mem_at 5 rfl | exact mem_at 6 rfl | exact mem_at 7 rfl | exact mem_at 8 rfl | exact mem_at 9 rfl | exact mem_at 10 rfl | exact mem_at 11 rfl | exact mem_at 12 rfl | exact mem_at 13 rfl | exact mem_at 14 rfl | exact mem_at 15 rfl | exact mem_at 16 rfl | exact mem_at 17 rfl | exact mem_at 18 rfl | exact mem_at 19 rfl | exact mem_at 20 rfl | exact mem_at 21 rfl)) (evl_cons (ev_var (by first | exact mem_at 0 rfl | exact mem_at 1 rfl | exact mem_at 2 rfl | exact mem_at 3 rfl | exact mem_at 4 rfl | exact mem_at 5 rfl | exact mem_at 6 rfl | exact mem_at 7 rfl | exact mem_at 8 rfl | exact mem_at 9 rfl | exact mem_at 10 rfl | exact mem_at 11 rfl | exact mem_at 12 rfl | exact mem_at 13 rfl | exact mem_at 14 rfl | exact mem_at 15 rfl | exact mem_at 16 rfl | exact mem_at 17 rfl | exact mem_at 18 rfl | exact mem_at 19 rfl | exact mem_at 20 rfl | exact mem_at 21 rfl)) evl_nil) evkw_nil hko hkd (hk _ (like_into2 _ _) _ (.head _))) (evl_cons (ev_var (by first | exact mem_at 0 rfl | exact mem_at 1 rfl | exact mem_at 2 rfl | exact mem_at 3 rfl | exact mem_at 4 rfl | exact mem_at 5 rfl | exact mem_at 6 rfl | exact mem_at 7 rfl | exact mem_at 8 rfl | exact mem_at 9 rfl | exact mem_at 10 rfl | exact mem_at 11 rfl | exact mem_at 12 rfl | exact mem_at 13 rfl | exact mem_at 14 rfl | exact mem_at 15 rfl | exact mem_at 16 rfl | exact mem_at 17 rfl | exact mem_at 18 rfl | exact mem_at 19 rfl | exact mem_at 20 rfl | exact mem_at 21 rfl)) (evl_cons (ev_var (by first | exact mem_at 0 rfl | exact mem_at 1 rfl | exact mem_at 2 rfl | exact mem_at 3 rfl | exact mem_at 4 rfl | exact mem_at 5 rfl | exact mem_at 6 rfl | exact mem_at 7 rfl | exact mem_at 8 rfl | exact mem_at 9 rfl | exact mem_at 10 rfl | exact mem_at 11 rfl | exact mem_at 12 rfl | exact mem_at 13 rfl | exact mem_at 14 rfl | exact mem_at 15 rfl | exact mem_at 16 rfl | exact mem_at 17 rfl | exact mem_at 18 rfl | exact mem_at 19 rfl | exact mem_at 20 rfl | exact mem_at 21 rfl)) evl_nil)))) (evkw_cons (ev_var (by first | exact mem_at 0 rfl | exact mem_at 1 rfl | exact mem_at 2 rfl | exact mem_at 3 rfl | exact mem_at 4 rfl | exact mem_at 5 rfl | exact mem_at 6 rfl | exact mem_at 7 rfl | exact mem_at 8 rfl | exact mem_at 9 rfl | exact mem_at 10 rfl | exact mem_at 11 rfl | exact mem_at 12 rfl | exact mem_at 13 rfl | exact mem_at 14 rfl | exact mem_at 15 rfl | exact mem_at 16 rfl | exact mem_at 17 rfl | exact mem_at 18 rfl | exact mem_at 19 rfl | exact mem_at 20 rfl | exact mem_at 21 rfl)) evkw_nil) (I.at (a := 142) rfl) rfl
          (bl_key4 (I.into _) (by show 0 < C.fuel - 1; (first | lia | omega)) hko hkd (fun C' hC d hd => hk C' ((like_into _ _).trans hC) d (.tail _ hd)) hz hp (fun F i h => hc F i h))) (by first | exact Or.inl rfl | exact Or.inr ⟨rfl, rfl, rfl⟩) (by intro y ds e; cases e; decide) (Pk.g (by repeat (first | exact Pk.nil | refine Pk.here ?_ | refine Pk.cons (by first | exact mem_at 0 rfl | exact mem_at 1 rfl | exact mem_at 2 rfl | exact mem_at 3 rfl | exact mem_at 4 rfl | exact mem_at 5 rfl | exact mem_at 6 rfl | exact mem_at 7 rfl | exact mem_at 8 rfl | exact mem_at 9 rfl | exact mem_at 10 rfl | exact mem_at 11 rfl | exact mem_at 12 rfl | exact mem_at 13 rfl | exact mem_at 14 rfl | exact mem_at 15 rfl | exact mem_at 16 rfl | exact mem_at 17 rfl | exact mem_at 18 rfl | exact mem_at 19 rfl | exact mem_at 20 rfl | exact mem_at 21 rfl) rfl ?_)))))) ?_
      exact ex_one (ex_meth (evl_cons (ev_var (by first | exact mem_at 0 rfl | exact mem_at 1 rfl | exact mem_at 2 rfl | exact mem_at 3 rfl | exact mem_at 4 rfl | exact mem_at 5 rfl | exact mem_at 6 rfl | exact mem_at 7 rfl | exact mem_at 8 rfl | exact mem_at 9 rfl | exact mem_at 10 rfl | exact mem_at 11 rfl | exact mem_at 12 rfl | exact mem_at 13 rfl | exact mem_at 14 rfl | exact mem_at 15 rfl | exact mem_at 16 rfl | exact mem_at 17 rfl | exact mem_at 18 rfl | exact mem_at 19 rfl | exact mem_at 20 rfl | exact mem_at 21 rfl)) (evl_cons (ev_var (by first | exact mem_at 0 rfl | exact mem_at 1 rfl | exact mem_at 2 rfl | exact mem_at 3 rfl | exact mem_at 4 rfl | exact mem_at 5 rfl | exact mem_at 6 rfl | exact mem_at 7 rfl | exact mem_at 8 rfl | exact mem_at 9 rfl | exact mem_at 10 rfl | exact mem_at 11 rfl | exact mem_at 12 rfl | exact mem_at 13 rfl | exact mem_at 14 rfl | exact mem_at 15 rfl | exact mem_at 16 rfl | exact mem_at 17 rfl | exact mem_at 18 rfl | exact mem_at 19 rfl | exact mem_at 20 rfl | exact mem_at 21 rfl)) evl_nil)) PySem.F.slot_list_insert PySem.F.type_list_insert (mutOk_insert hp (by first | decide | assumption | with_reducible exact Int.natCast_nonneg _ | with_reducible exact Nat.le_trans (by assumption) (by decide) | with_reducible exact Nat.lt_of_lt_of_le (by assumption) (by decide) | with_reducible exact lt_mil (Nat.lt_of_lt_of_le (by assumption) (by decide)) | with_reducible exact lt_mil (Nat.lt_of_le_of_lt (by assumption) (by decide)) | with_reducible exact Nat.le_trans (Nat.le_of_lt (by assumption)) (by decide) | (first | lia | omega))) (noLst_ok rfl) (hi := rfl))
    · subst e
      exact ⟨rfl, sm, kp, hn⟩
theorem ir_key (I : Is2 P C) (hf : 1 < C.fuel) {ds : List PyData} {x : PyData} {p : Nat} {kv : Addr} {ko : Obj} {kd : FuncData} {key : PyData → PyData} (hko : C.g kv = some ko) (hkd : ko.data = .func kd) (hk : ∀ C', Like 2 C C' → ∀ d ∈ x :: ds, CallOk C' (.ref kv) [.dat d] [] [] (.dat (key d))) (hz : ds.length ≤ 1000) (hp : p ≤ ds.length) (hc : ∀ F i, (h : i < ds.length) → CmpR F .Lt (.dat (key x)) (.dat (key ds[i])) (decide (p ≤ i))) :
    MutOk C (.ref 115) [.dat x] [Str.ofString "key"] [.val (.ref kv)] ds (ds.take p ++ x :: ds.drop p) := .mk fun ok W s l lv n vs ks S hWl hgl hl rl hx hy => by
    obtain ⟨_, rfl, r2⟩ := BAll.inv1 hx
    obtain ⟨_, rfl, r5⟩ := BAll.inv1 hy
    refine wpAny_call (codeAny_mono (enter_mut (x := Str.ofString "a") (ds' := ds.take p ++ x :: ds.drop p) (Γ' := fun _ => [(Str.ofString "lo", .dat (.int p)), (Str.ofString "a", .val (.ref l)), (Str.ofString "x", .dat x), (Str.ofString "hi", .dat .none), (Str.ofString "key", .val (.ref kv))]) ok (by first | decide | assumption | with_reducible exact Int.natCast_nonneg _ | with_reducible exact Nat.le_trans (by assumption) (by decide) | with_reducible exact Nat.lt_of_lt_of_le (by assumption) (by decide) | with_reducible exact lt_mil (Nat.lt_of_lt_of_le (by assumption) (by decide)) | with_reducible exact lt_mil (Nat.lt_of_le_of_lt (by assumption) (by decide)) | with_reducible exact Nat.le_trans (Nat.le_of_lt (by assumption)) (by decide) | (first | lia | omega)) S hWl hgl hl rl (I.lk (a := 115) rfl) (by rw [I.K]; rfl) (binds := [(Str.ofString "a", _), (Str.ofString "x", _), (Str.ofString "lo", _), (Str.ofString "hi", _), (Str.ofString "key", _)]) (kp_binds (K := hd2.heap_39 P) (I.inn S) (fun _ => rfl))
      (.cons (b := .val (.ref l)) rfl (.cons r2 (.cons (b := .dat (.int 0)) (.int _ _) (.cons (b := .dat .none) .none (.cons r5 .nil))))) (show [Str.ofString "a", Str.ofString "x", Str.ofString "lo", Str.ofString "hi", Str.ofString "key"].Nodup by decide) rfl (.head _) (fun L => ?_) (fun L => (by first | exact mem_at 0 rfl | exact mem_at 1 rfl | exact mem_at 2 rfl | exact mem_at 3 rfl | exact mem_at 4 rfl | exact mem_at 5 rfl | exact mem_at 6 rfl | exact mem_at 7 rfl | exact mem_at 8 rfl | exact mem_at 9 rfl | exact mem_at 10 rfl | exact mem_at 11 rfl | exact mem_at 12 rfl | exact mem_at 13 rfl | exact mem_at 14 rfl | exact mem_at 15 rfl | exact mem_at 16 rfl | exact mem_at 17 rfl | exact mem_at 18 rfl | exact mem_at 19 rfl | exact mem_at 20 rfl | exact mem_at 21 rfl)) (fun _ => rfl) (noLst_ok rfl)) fun r s' ⟨e, sm, kp, hn⟩ => ?_)
    · refine ex_cons (Γ₁ := [(Str.ofString "lo", .dat (.int p)), (Str.ofString "a", .val (.ref l)), (Str.ofString "x", .dat x), (Str.ofString "hi", .dat .none), (Str.ofString "key", .val (.ref kv))]) (own₁ := some (Str.ofString "a", ds)) (ex_if_false (et_cmp (ev_var (by first | exact mem_at 0 rfl | exact mem_at 1 rfl | exact mem_at 2 rfl | exact mem_at 3 rfl | exact mem_at 4 rfl | exact mem_at 5 rfl | exact mem_at 6 rfl | exact mem_at 7 rfl | exact mem_at 8 rfl | exact mem_at 9 rfl | exact mem_at 10 rfl | exact mem_at 11 rfl | exact mem_at 12 rfl | exact mem_at 13 rfl | exact mem_at 14 rfl | exact mem_at 15 rfl | exact mem_at 16 rfl | exact mem_at 17 rfl | exact mem_at 18 rfl | exact mem_at 19 rfl | exact mem_at 20 rfl | exact mem_at 21 rfl)) ev_none cmpR_is_none_ref) (ex_one (ex_assign (b := .dat (.int p))
        (ev_def (ev_glob rfl (I.gl rfl)) (evl_cons (ev_var (b := .lst ds) (by first | exact mem_at 0 rfl | exact mem_at 1 rfl | exact mem_at 2 rfl | exact mem_at 3 rfl | exact mem_at 4 rfl | exact mem_at 5 rfl | exact mem_at 6 rfl | exact mem_at 7 rfl | exact mem_at 8 rfl | exact mem_at 9 rfl | exact mem_at 10 rfl | exact mem_at 11 rfl | exact mem_at 12 rfl | exact mem_at 13 rfl | exact mem_at 14 rfl | exact mem_at 15 rfl | exact mem_at 16 rfl | exact mem_at 17 rfl | exact mem_at 18 rfl | exact mem_at 19 rfl | exact mem_at 20 rfl | exact mem_at 21 rfl)) (evl_cons (ev_def (ev_var (by first | exact mem_at 0 rfl | exact mem_at 1 rfl | exact mem_at 2 rfl | exact mem_at 3 rfl | exact mem_at 4 rfl | exact mem_at 5 rfl | exact mem_at 6 rfl | exact mem_at 7 rfl | exact mem_at 8 rfl | exact mem_at 9 rfl | exact mem_at 10 rfl | exact mem_at 11 rfl | exact mem_at 12 rfl | exact mem_at 13 rfl | exact mem_at 14 rfl | exact mem_at 15 rfl | exact mem_at 16 rfl | exact mem_at 17 rfl | exact mem_at 18 rfl | exact mem_at 19 rfl | exact mem_at 20 rfl | exact mem_at 21 rfl)) (evl_cons (ev_var (by first | exact mem_at 0 rfl | exact mem_at 1 rfl | exact mem_at 2 rfl | exact mem_at 3 rfl | exact mem_at 4 rfl | exact mem_at 5 rfl | exact mem_at 6 rfl | exact mem_at 7 rfl | exact mem_at 8 rfl | exact mem_at 9 rfl | exact mem_at 10 rfl | exact mem_at 11 rfl | exact mem_at 12 rfl | exact mem_at 13 rfl | exact mem_at 14 rfl | exact mem_at 15 rfl | exact mem_at 16 rfl | exact mem_at 17 rfl | exact mem_at 18 rfl | exact mem_at 19 rfl | exact mem_at 20 rfl | exact mem_at 21 rfl)) evl_nil) evkw_nil hko hkd (hk _ (like_into2 _ _) _ (.head _))) (evl_cons (ev_var (by first | exact mem_at 0 rfl | exact mem_at 1 rfl | exact mem_at 2 rfl | exact mem_at 3 rfl | exact mem_at 4 rfl | exact mem_at 5 rfl | exact mem_at 6 rfl | exact mem_at 7 rfl | exact mem_at 8 rfl | exact mem_at 9 rfl | exact mem_at 10 rfl | exact mem_at 11 rfl | exact mem_at 12 rfl | exact mem_at 13 rfl | exact mem_at 14 rfl | exact mem_at 15 rfl | exact mem_at 16 rfl | exact mem_at 17 rfl | exact mem_at 18 rfl | exact mem_at 19 rfl | exact mem_at 20 rfl | exact mem_at 21 rfl)) (evl_cons (ev_var (by first | exact mem_at 0 rfl | exact mem_at 1 rfl | exact mem_at 2 rfl | exact mem_at 3 rfl | exact mem_at 4 rfl | exact mem_at 5 rfl | exact mem_at 6 rfl | exact mem_at 7 rfl | exact mem_at 8 rfl | exact mem_at 9 rfl | exact mem_at 10 rfl | exact mem_at 11 rfl | exact mem_at 12 rfl | exact mem_at 13 rfl | exact mem_at 14 rfl | exact mem_at 15 rfl | exact mem_at 16 rfl | exact mem_at 17 rfl | exact mem_at 18 rfl | exact mem_at 19 rfl | exact mem_at 20 rfl | exact mem_at 21 rfl)) evl_nil)))) (evkw_cons (ev_var (by first | exact mem_at 0 rfl | exact mem_at 1 rfl | exact mem_at 2 rfl | exact mem_at 3 rfl | exact mem_at 4 rfl | exact mem_at 5 rfl | exact mem_at 6 rfl | exact mem_at 7 rfl | exact mem_at 8 rfl | exact mem_at 9 rfl | exact mem_at 10 rfl | exact mem_at 11 rfl | exact mem_at 12 rfl | exact mem_at 13 rfl | exact mem_at 14 rfl | exact mem_at 15 rfl | exact mem_at 16 rfl | exact mem_at 17 rfl | exact mem_at 18 rfl | exact mem_at 19 rfl | exact mem_at 20 rfl | exact mem_at 21 rfl)) evkw_nil) (I.at (a := 124) rfl) rfl
          (br_key4 (I.into _) (by show 0 < C.fuel - 1; (first | lia | omega)) hko hkd (fun C' hC d hd => hk C' ((like_into _ _).trans hC) d (.tail _ hd)) hz hp (fun F i h => hc F i h))) (by first | exact Or.inl rfl | exact Or.inr ⟨rfl, rfl, rfl⟩) (by intro y ds e; cases e; decide) (Pk.g (by repeat (first | exact Pk.nil | refine Pk.here ?_ | refine Pk.cons (by first | exact mem_at 0 rfl | exact mem_at 1 rfl | exact mem_at 2 rfl | exact mem_at 3 rfl | exact mem_at 4 rfl | exact mem_at 5 rfl | exact mem_at 6 rfl | exact mem_at 7 rfl | exact mem_at 8 rfl | exact mem_at 9 rfl | exact mem_at 10 rfl | exact mem_at 11 rfl | exact mem_at 12 rfl | exact mem_at 13 rfl | exact mem_at 14 rfl | exact mem_at 15 rfl | exact mem_at 16 rfl | exact mem_at 17 rfl | exact mem_at 18 rfl | exact mem_at 19 rfl | exact mem_at 20 rfl | exact mem_at 21 rfl) rfl ?_)))))) ?_
      exact ex_one (ex_meth (evl_cons (ev_var (by first | exact mem_at 0 rfl | exact mem_at 1 rfl | exact mem_at 2 rfl | exact mem_at 3 rfl | exact mem_at 4 rfl | exact mem_at 5 rfl | exact mem_at 6 rfl | exact mem_at 7 rfl | exact mem_at 8 rfl | exact mem_at 9 rfl | exact mem_at 10 rfl | exact mem_at 11 rfl | exact mem_at 12 rfl | exact mem_at 13 rfl | exact mem_at 14 rfl | exact mem_at 15 rfl | exact mem_at 16 rfl | exact mem_at 17 rfl | exact mem_at 18 rfl | exact mem_at 19 rfl | exact mem_at 20 rfl | exact mem_at 21 rfl)) (evl_cons (ev_var (by first | exact mem_at 0 rfl | exact mem_at 1 rfl | exact mem_at 2 rfl | exact mem_at 3 rfl | exact mem_at 4 rfl | exact mem_at 5 rfl | exact mem_at 6 rfl | exact mem_at 7 rfl | exact mem_at 8 rfl | exact mem_at 9 rfl | exact mem_at 10 rfl | exact mem_at 11 rfl | exact mem_at 12 rfl | exact mem_at 13 rfl | exact mem_at 14 rfl | exact mem_at 15 rfl | exact mem_at 16 rfl | exact mem_at 17 rfl | exact mem_at 18 rfl | exact mem_at 19 rfl | exact mem_at 20 rfl | exact mem_at 21 rfl)) evl_nil)) PySem.F.slot_list_insert PySem.F.type_list_insert (mutOk_insert hp (by first | decide | assumption | with_reducible exact Int.natCast_nonneg _ | with_reducible exact Nat.le_trans (by assumption) (by decide) | with_reducible exact Nat.lt_of_lt_of_le (by assumption) (by decide) | with_reducible exact lt_mil (Nat.lt_of_lt_of_le (by assumption) (by decide)) | with_reducible exact lt_mil (Nat.lt_of_le_of_lt (by assumption) (by decide)) | with_reducible exact Nat.le_trans (Nat.le_of_lt (by assumption)) (by decide) | (first | lia | omega))) (noLst_ok rfl) (hi := rfl))
    · subst e
      exact ⟨rfl, sm, kp, hn⟩
end
end Mine

namespace Mine
open PySem PySem.W PyProof.Rows PySem.Calls
set_option maxRecDepth 100000

/-! ### the row of law 2, as plain data -/
abbrev It := Nat × Nat × List Nat
def ky (e : It) : List Nat := e.2.2.reverse
def itD (e : It) : PyData := .list [.int (e.1 : Int), .int (e.2.1 : Int), .str (st e.2.2)]
def kyD : PyData → PyData
  | .list [_, _, .str x] => .str (st x.cps.toList.reverse)
  | _ => .none
theorem kyD_it (e : It) : kyD (itD e) = .str (st (ky e)) := by simp [kyD, itD, st, ky]
def cntL (row : List It) (x : List Nat) : Nat := row.countP fun e => decide (ky e < x)
def cntR (row : List It) (x : List Nat) : Nat := row.countP fun e => decide (¬ x < ky e)
def insAt (row : List It) (p : Nat) (e : It) : List It := row.take p ++ e :: row.drop p
def lowOf (sz c0 : Nat) (w : List Nat) : List Nat := List.replicate (sz - w.length) c0 ++ w
def stepRow (sz c0 c1 : Nat) (row : List It) (turn : Nat) (dd : List Nat × Nat) : List It :=
  if dd.2 ≠ 2 then
    let r1 := insAt row (cntR row (lowOf sz c0 dd.1).reverse) (turn, 0, lowOf sz c0 dd.1)
    insAt r1 (cntL r1 (lowOf sz c1 dd.1).reverse) (turn, 1, lowOf sz c1 dd.1)
  else if cntL row (lowOf sz c0 dd.1).reverse < cntR row (lowOf sz c0 dd.1).reverse then
    let r1 := row.take (cntR row (lowOf sz c0 dd.1).reverse - 1) ++ row.drop (cntR row (lowOf sz c0 dd.1).reverse)
    r1.take (cntL r1 (lowOf sz c1 dd.1).reverse) ++ r1.drop (cntL r1 (lowOf sz c1 dd.1).reverse + 1)
  else row
def rowUp (sz c0 c1 : Nat) (deeds : List (List Nat × Nat)) : Nat → List It
  | 0 => []
  | k + 1 => match deeds[k]? with
    | some dd => stepRow sz c0 c1 (rowUp sz c0 c1 deeds k) k dd
    | none => rowUp sz c0 c1 deeds k
def leftStep (left : List (List Nat × Nat)) (turn : Nat) (dd : List Nat × Nat) : List (List Nat × Nat) :=
  if dd.2 ≠ 2 then left ++ [(dd.1, turn)]
  else match (left.filter fun e => decide (e.1 = dd.1)).getLast? with
    | some z => left.filter fun e => decide (e ≠ z)
    | none => left
def leftUp (deeds : List (List Nat × Nat)) : Nat → List (List Nat × Nat)
  | 0 => []
  | k + 1 => match deeds[k]? with
    | some dd => leftStep (leftUp deeds k) k dd
    | none => leftUp deeds k
def leD (e : List Nat × Nat) : PyData := .list [.str (st e.1), .int (e.2 : Int)]

def KSorted (row : List It) : Prop := row.Pairwise fun a b => ¬ ky b < ky a

theorem cntL_at {row : List It} (h : KSorted row) (x : List Nat) : ∀ i, (hi : i < row.length) → decide (ky row[i] < x) = decide (i < cntL row x) := by
  induction row with
  | nil => intro i hi; cases hi
  | cons e r ih =>
    intro i hi
    cases h with
    | cons h1 h2 =>
      unfold cntL
      rw [List.countP_cons]
      by_cases he : ky e < x
      · cases i with
        | zero => simp [he]
        | succ i => have := ih h2 i (by simpa using hi); simp [he] at this ⊢; unfold cntL at this; omega
      · have h0 : cntL r x = 0 := by
          unfold cntL
          rw [List.countP_eq_zero]
          intro b hb
          simp only [decide_eq_true_eq]
          intro hbx
          exact h1 b hb (Std.lt_of_lt_of_le hbx (List.not_lt.mp he))
        unfold cntL at h0
        rw [h0]
        cases i with
        | zero => simp [he]
        | succ i =>
          have hb : r[i]'(by simpa using hi) ∈ r := List.getElem_mem _
          have := List.countP_eq_zero.mp h0 _ hb
          simp at this
          simp [he, this]
theorem cntR_at {row : List It} (h : KSorted row) (x : List Nat) : ∀ i, (hi : i < row.length) → decide (x < ky row[i]) = decide (cntR row x ≤ i) := by
  induction row with
  | nil => intro i hi; cases hi
  | cons e r ih =>
    intro i hi
    cases h with
    | cons h1 h2 =>
      unfold cntR
      rw [List.countP_cons]
      by_cases he : x < ky e
      · have h0 : cntR r x = 0 := by
          unfold cntR
          rw [List.countP_eq_zero]
          intro b hb
          simp only [decide_eq_true_eq, Classical.not_not]
          exact Std.lt_of_lt_of_le he (List.not_lt.mp (h1 b hb))
        unfold cntR at h0
        rw [h0]
        cases i with
        | zero => simp [he]
        | succ i =>
          have hb : r[i]'(by simpa using hi) ∈ r := List.getElem_mem _
          have := List.countP_eq_zero.mp h0 _ hb
          simp at this
          simp [he, this]
      · cases i with
        | zero => simp [he]
        | succ i => have := ih h2 i (by simpa using hi); simp [he] at this ⊢; unfold cntR at this; simp at this; omega
end Mine

namespace Mine
open PySem PySem.W PyProof.Rows PySem.Calls
set_option maxRecDepth 100000

theorem cntR_le (row : List It) (x : List Nat) : cntR row x ≤ row.length := List.countP_le_length
theorem cntL_le (row : List It) (x : List Nat) : cntL row x ≤ row.length := List.countP_le_length
theorem KSorted.sub {a b : List It} (h : KSorted b) (s : a.Sublist b) : KSorted a := List.Pairwise.sublist s h

theorem mem_take_cntR {row : List It} (h : KSorted row) {x : List Nat} {a : It} (ha : a ∈ row.take (cntR row x)) : ¬ x < ky a := by
  obtain ⟨i, hi, rfl⟩ := List.getElem_of_mem ha
  rw [List.length_take] at hi
  rw [List.getElem_take]
  have := cntR_at h x i (by first | decide | assumption | with_reducible exact Int.natCast_nonneg _ | with_reducible exact Nat.le_trans (by assumption) (by decide) | with_reducible exact Nat.lt_of_lt_of_le (by assumption) (by decide) | with_reducible exact lt_mil (Nat.lt_of_lt_of_le (by assumption) (by decide)) | with_reducible exact lt_mil (Nat.lt_of_le_of_lt (by assumption) (by decide)) | with_reducible exact Nat.le_trans (Nat.le_of_lt (by assumption)) (by decide) | (first | lia | omega))
  intro hx
  rw [decide_eq_true hx] at this
  have := of_decide_eq_true this.symm
  (first | lia | omega)
theorem mem_drop_cntR {row : List It} (h : KSorted row) {x : List Nat} {a : It} (ha : a ∈ row.drop (cntR row x)) : x < ky a := by
  obtain ⟨i, hi, rfl⟩ := List.getElem_of_mem ha
  rw [List.length_drop] at hi
  rw [List.getElem_drop]
  have := cntR_at h x (cntR row x + i) (by first | decide | assumption | with_reducible exact Int.natCast_nonneg _ | with_reducible exact Nat.le_trans (by assumption) (by decide) | with_reducible exact Nat.lt_of_lt_of_le (by assumption) (by decide) | with_reducible exact lt_mil (Nat.lt_of_lt_of_le (by assumption) (by decide)) | with_reducible exact lt_mil (Nat.lt_of_le_of_lt (by assumption) (by decide)) | with_reducible exact Nat.le_trans (Nat.le_of_lt (by assumption)) (by decide) | omega)
  rw [decide_eq_true (show cntR row x ≤ cntR row x + i by omega)] at this
  exact of_decide_eq_true this
theorem mem_take_cntL {row : List It} (h : KSorted row) {x : List Nat} {a : It} (ha : a ∈ row.take (cntL row x)) : ky a < x := by
  obtain ⟨i, hi, rfl⟩ := List.getElem_of_mem ha
  rw [List.length_take] at hi
  rw [List.getElem_take]
  have := cntL_at h x i (by first | decide | assumption | with_reducible exact Int.natCast_nonneg _ | with_reducible exact Nat.le_trans (by assumption) (by decide) | with_reducible exact Nat.lt_of_lt_of_le (by assumption) (by decide) | with_reducible exact lt_mil (Nat.lt_of_lt_of_le (by assumption) (by decide)) | with_reducible exact lt_mil (Nat.lt_of_le_of_lt (by assumption) (by decide)) | with_reducible exact Nat.le_trans (Nat.le_of_lt (by assumption)) (by decide) | omega)
  rw [decide_eq_true (show i < cntL row x by omega)] at this
  exact of_decide_eq_true this
theorem mem_drop_cntL {row : List It} (h : KSorted row) {x : List Nat} {a : It} (ha : a ∈ row.drop (cntL row x)) : ¬ ky a < x := by
  obtain ⟨i, hi, rfl⟩ := List.getElem_of_mem ha
  rw [List.length_drop] at hi
  rw [List.getElem_drop]
  have := cntL_at h x (cntL row x + i) (by first | decide | assumption | with_reducible exact Int.natCast_nonneg _ | with_reducible exact Nat.le_trans (by assumption) (by decide) | with_reducible exact Nat.lt_of_lt_of_le (by assumption) (by decide) | with_reducible exact lt_mil (Nat.lt_of_lt_of_le (by assumption) (by decide)) | with_reducible exact lt_mil (Nat.lt_of_le_of_lt (by assumption) (by decide)) | with_reducible exact Nat.le_trans (Nat.le_of_lt (by assumption)) (by decide) | (first | lia | omega))
  intro hx
  rw [decide_eq_true hx] at this
  have := of_decide_eq_true this.symm
  (first | lia | omega)
theorem pairwise_insAt {R : It → It → Prop} {row : List It} {p : Nat} {e : It} (h : row.Pairwise R) (h1 : ∀ a ∈ row.take p, R a e) (h2 : ∀ b ∈ row.drop p, R e b) : (insAt row p e).Pairwise R := by
  unfold insAt
  have hh := h
  rw [← List.take_append_drop p row, List.pairwise_append] at hh
  obtain ⟨a1, a2, a3⟩ := hh
  rw [List.pairwise_append]
  refine ⟨a1, List.Pairwise.cons h2 a2, fun a ha b hb => ?_⟩
  rcases List.mem_cons.mp hb with rfl | hb
  · exact h1 a ha
  · exact a3 a ha b hb
theorem KSorted.insR {row : List It} (h : KSorted row) (e : It) : KSorted (insAt row (cntR row (ky e)) e) :=
  pairwise_insAt h (fun a ha => mem_take_cntR h ha) fun b hb => List.lt_asymm (mem_drop_cntR h hb)
theorem KSorted.insL {row : List It} (h : KSorted row) (e : It) : KSorted (insAt row (cntL row (ky e)) e) :=
  pairwise_insAt h (fun a ha => List.lt_asymm (mem_take_cntL h ha)) fun b hb => mem_drop_cntL h hb
theorem take_drop_sub (row : List It) (a b : Nat) (h : a ≤ b) : (row.take a ++ row.drop b).Sublist row := by
  have h1 : (row.drop b).Sublist (row.drop a) := by
    have e : row.drop b = (row.drop a).drop (b - a) := by rw [List.drop_drop]; congr 1; (first | lia | omega)
    rw [e]; exact List.drop_sublist _ _
  have := (List.Sublist.refl (row.take a)).append h1
  rwa [List.take_append_drop] at this
theorem mem_insAt {row : List It} {p : Nat} {e a : It} : a ∈ insAt row p e ↔ a = e ∨ a ∈ row := by
  unfold insAt
  have : a ∈ row ↔ a ∈ row.take p ∨ a ∈ row.drop p := by
    rw [← List.mem_append, List.take_append_drop]
  rw [List.mem_append, List.mem_cons, this]
  constructor
  · rintro (h | h | h)
    · exact .inr (.inl h)
    · exact .inl h
    · exact .inr (.inr h)
  · rintro (h | h | h)
    · exact .inr (.inl h)
    · exact .inl h
    · exact .inr (.inr h)

def OkRow (sz : Nat) (row : List It) : Prop := KSorted row ∧ (∀ e ∈ row, e.2.2.length ≤ sz + 8)
theorem lowOf_length (sz c : Nat) (w : List Nat) (h : w.length ≤ sz) : (lowOf sz c w).length = sz := by simp [lowOf]; (first | lia | omega)
theorem lowOf_len (sz c : Nat) (w : List Nat) (h : w.length ≤ 8) : (lowOf sz c w).length ≤ sz + 8 := by simp [lowOf]; (first | lia | omega)
theorem OkRow.step {sz c0 c1 : Nat} {row : List It} {turn : Nat} {dd : List Nat × Nat} (h : OkRow sz row) (hw : dd.1.length ≤ 8) : OkRow sz (stepRow sz c0 c1 row turn dd) := by
  unfold stepRow
  obtain ⟨h1, h2⟩ := h
  split
  · have a1 := h1.insR (turn, 0, lowOf sz c0 dd.1)
    refine ⟨a1.insL (turn, 1, lowOf sz c1 dd.1), fun e he => ?_⟩
    rcases mem_insAt.mp he with rfl | he
    · exact lowOf_len _ _ _ hw
    · rcases mem_insAt.mp he with rfl | he
      · exact lowOf_len _ _ _ hw
      · exact h2 e he
  · split
    · rename_i hlt
      have s1 := take_drop_sub row (cntR row (lowOf sz c0 dd.1).reverse - 1) (cntR row (lowOf sz c0 dd.1).reverse) (by first | decide | assumption | with_reducible exact Int.natCast_nonneg _ | with_reducible exact Nat.le_trans (by assumption) (by decide) | with_reducible exact Nat.lt_of_lt_of_le (by assumption) (by decide) | with_reducible exact lt_mil (Nat.lt_of_lt_of_le (by assumption) (by decide)) | with_reducible exact lt_mil (Nat.lt_of_le_of_lt (by assumption) (by decide)) | with_reducible exact Nat.le_trans (Nat.le_of_lt (by assumption)) (by decide) | (first | lia | omega))
      have s2 := fun p => (take_drop_sub (row.take (cntR row (lowOf sz c0 dd.1).reverse - 1) ++ row.drop (cntR row (lowOf sz c0 dd.1).reverse)) p (p + 1) (by first | decide | assumption | with_reducible exact Int.natCast_nonneg _ | with_reducible exact Nat.le_trans (by assumption) (by decide) | with_reducible exact Nat.lt_of_lt_of_le (by assumption) (by decide) | with_reducible exact lt_mil (Nat.lt_of_lt_of_le (by assumption) (by decide)) | with_reducible exact lt_mil (Nat.lt_of_le_of_lt (by assumption) (by decide)) | with_reducible exact Nat.le_trans (Nat.le_of_lt (by assumption)) (by decide) | (first | lia | omega))).trans s1
      exact ⟨h1.sub (s2 _), fun e he => h2 e ((s2 _).subset he)⟩
    · exact ⟨h1, h2⟩
theorem okRow_up {sz c0 c1 : Nat} {deeds : List (List Nat × Nat)} (hw : ∀ d ∈ deeds, d.1.length ≤ 8) : ∀ k, OkRow sz (rowUp sz c0 c1 deeds k)
  | 0 => ⟨List.Pairwise.nil, by intro e he; cases he⟩
  | k + 1 => by
    unfold rowUp
    split
    · rename_i dd hd
      exact (okRow_up hw k).step (hw _ (List.mem_of_getElem? hd))
    · exact okRow_up hw k
theorem insAt_len {row : List It} {p : Nat} {e : It} : (insAt row p e).length ≤ row.length + 1 := by
  have h : (row.take p ++ row.drop p).length = row.length := by rw [List.take_append_drop]
  rw [List.length_append] at h
  unfold insAt
  rw [List.length_append, List.length_cons, ← Nat.add_assoc, h]
  exact Nat.le_refl _
theorem stepRow_len {sz c0 c1 : Nat} {row : List It} {turn : Nat} {dd : List Nat × Nat} : (stepRow sz c0 c1 row turn dd).length ≤ row.length + 2 := by
  unfold stepRow
  split
  · exact Nat.le_trans insAt_len (Nat.add_le_add_right insAt_len 1)
  · split
    · have h1 := (take_drop_sub row (cntR row (lowOf sz c0 dd.1).reverse - 1) (cntR row (lowOf sz c0 dd.1).reverse) (Nat.sub_le _ _)).length_le
      have h2 := fun p => (take_drop_sub (row.take (cntR row (lowOf sz c0 dd.1).reverse - 1) ++ row.drop (cntR row (lowOf sz c0 dd.1).reverse)) p (p + 1) (Nat.le_succ _)).length_le
      exact Nat.le_trans (h2 _) (Nat.le_trans h1 (Nat.le_add_right _ _))
    · exact Nat.le_add_right _ _
theorem rowUp_len {sz c0 c1 : Nat} {deeds : List (List Nat × Nat)} : ∀ k, (rowUp sz c0 c1 deeds k).length ≤ 2 * k
  | 0 => Nat.le_refl _
  | k + 1 => by
    have ih := rowUp_len (sz := sz) (c0 := c0) (c1 := c1) (deeds := deeds) k
    unfold rowUp
    split
    · exact Nat.le_trans stepRow_len (Nat.add_le_add_right ih 2)
    · exact Nat.le_trans ih (Nat.le_add_right _ 2)
end Mine

namespace Mine
open PySem PySem.W PyProof.Rows PySem.Calls
set_option maxRecDepth 100000

section
variable {P : Params} {C : Cx}
def figF (n : Int) : PyData → PyData
  | .int k => .str (st [48 + (n / 2 ^ k.toNat % 2).toNat])
  | _ => .none
theorem sp_figures (I : Is2 P C) (hf : 0 < C.fuel) {n : Int} {m : Nat} (hm : m ≤ 8) : CallOk C (.ref 147) [.dat (.int n), .dat (.int m)] [] [] (.dat (.str (st (figs n m)))) :=
  callOk_of fun ok W s vs ks S hx hy => by
    obtain ⟨_, _, rfl, r1, r2⟩ := BAll.inv2 hx
    obtain rfl := BAll.inv0 hy
    refine enter ok hf S (I.lk (a := 147) rfl) (by rw [I.K]; rfl) (binds := [(Str.ofString "number", _), (Str.ofString "many", _)]) (kp_binds (K := hd2.heap_39 P) (I.inn S) (fun _ => rfl))
      (.cons r1 (.cons r2 .nil)) (show [Str.ofString "number", Str.ofString "many"].Nodup by decide) rfl fun L => ?_
    refine ex_one (ex_return (ev_eq (ev_meth (ev_strL (l := []) rfl) (evl_cons (ev_lst (ev_eq (a := .dat (.list ((((List.range (m : Int).toNat).reverse.map fun i : Nat => PyData.int (i : Int)).filter fun _ => true).map (figF n)))) (b := .dat (.list (((figs n m).map fun c => [c]).map fun l => .str (st l)))) (ev_comp (cl := [(Str.ofString "number", L + 1)]) (Γc := [(Str.ofString "number", .dat (.int n))]) (fun _ => true) (figF n) rfl (fun y c h => h)
      (evi_rangeDown (n := m) (ev_builtin rfl (I.gl rfl) rfl) (ev_bin (ev_var (by first | exact mem_at 0 rfl | exact mem_at 1 rfl | exact mem_at 2 rfl | exact mem_at 3 rfl | exact mem_at 4 rfl | exact mem_at 5 rfl | exact mem_at 6 rfl | exact mem_at 7 rfl | exact mem_at 8 rfl | exact mem_at 9 rfl | exact mem_at 10 rfl | exact mem_at 11 rfl | exact mem_at 12 rfl | exact mem_at 13 rfl | exact mem_at 14 rfl | exact mem_at 15 rfl | exact mem_at 16 rfl | exact mem_at 17 rfl | exact mem_at 18 rfl | exact mem_at 19 rfl | exact mem_at 20 rfl | exact mem_at 21 rfl)) ev_int binR_sub_int) (ev_neg ev_int) (ev_neg ev_int) (by first | decide | assumption | with_reducible exact Int.natCast_nonneg _ | with_reducible exact Nat.le_trans (by assumption) (by decide) | with_reducible exact Nat.lt_of_lt_of_le (by assumption) (by decide) | with_reducible exact lt_mil (Nat.lt_of_lt_of_le (by assumption) (by decide)) | with_reducible exact lt_mil (Nat.lt_of_le_of_lt (by assumption) (by decide)) | with_reducible exact Nat.le_trans (Nat.le_of_lt (by assumption)) (by decide) | (first | lia | omega))) (by simp; (first | lia | omega)) ?_ ?_) ?_)) evl_nil) methIs_join (callOk_join (ls := (figs n m).map fun c => [c]) ?_)) ?_))
    · exact (by intro q hq; repeat (first | (rcases List.mem_cons.mp hq with rfl | hq; exact ⟨(by first | exact mem_at 0 rfl | exact mem_at 1 rfl | exact mem_at 2 rfl | exact mem_at 3 rfl | exact mem_at 4 rfl | exact mem_at 5 rfl | exact mem_at 6 rfl | exact mem_at 7 rfl | exact mem_at 8 rfl | exact mem_at 9 rfl | exact mem_at 10 rfl | exact mem_at 11 rfl | exact mem_at 12 rfl | exact mem_at 13 rfl | exact mem_at 14 rfl | exact mem_at 15 rfl | exact mem_at 16 rfl | exact mem_at 17 rfl | exact mem_at 18 rfl | exact mem_at 19 rfl | exact mem_at 20 rfl | exact mem_at 21 rfl), show (some NameKind.cell : Option NameKind) ≠ some .local by decide, by first | exact Or.inl rfl | exact Or.inr ⟨rfl, rfl⟩, rfl⟩) | cases hq))
    · intro L d hd
      simp only [List.mem_map, List.mem_reverse, List.mem_range, Int.toNat_natCast] at hd
      obtain ⟨k, hk, rfl⟩ := hd
      refine ⟨[(Str.ofString "k", .dat (.int (k : Int))), (Str.ofString "number", .dat (.int n))], asg_name (by first | exact Or.inl rfl | exact Or.inr ⟨rfl, rfl, rfl⟩) (by intro y ds e; first | (cases e; done) | (cases e; decide)) (Pk.g (by repeat (first | exact Pk.nil | refine Pk.here ?_ | refine Pk.cons (by first | exact mem_at 0 rfl | exact mem_at 1 rfl | exact mem_at 2 rfl | exact mem_at 3 rfl | exact mem_at 4 rfl | exact mem_at 5 rfl | exact mem_at 6 rfl | exact mem_at 7 rfl | exact mem_at 8 rfl | exact mem_at 9 rfl | exact mem_at 10 rfl | exact mem_at 11 rfl | exact mem_at 12 rfl | exact mem_at 13 rfl | exact mem_at 14 rfl | exact mem_at 15 rfl | exact mem_at 16 rfl | exact mem_at 17 rfl | exact mem_at 18 rfl | exact mem_at 19 rfl | exact mem_at 20 rfl | exact mem_at 21 rfl) rfl ?_))), evts_nil, fun _ => ?_⟩
      refine ev_item (ev_strL (l := [48, 49]) rfl) (ev_bin (ev_bin (ev_var (by first | exact mem_at 0 rfl | exact mem_at 1 rfl | exact mem_at 2 rfl | exact mem_at 3 rfl | exact mem_at 4 rfl | exact mem_at 5 rfl | exact mem_at 6 rfl | exact mem_at 7 rfl | exact mem_at 8 rfl | exact mem_at 9 rfl | exact mem_at 10 rfl | exact mem_at 11 rfl | exact mem_at 12 rfl | exact mem_at 13 rfl | exact mem_at 14 rfl | exact mem_at 15 rfl | exact mem_at 16 rfl | exact mem_at 17 rfl | exact mem_at 18 rfl | exact mem_at 19 rfl | exact mem_at 20 rfl | exact mem_at 21 rfl)) (ev_bin ev_int (ev_var (by first | exact mem_at 0 rfl | exact mem_at 1 rfl | exact mem_at 2 rfl | exact mem_at 3 rfl | exact mem_at 4 rfl | exact mem_at 5 rfl | exact mem_at 6 rfl | exact mem_at 7 rfl | exact mem_at 8 rfl | exact mem_at 9 rfl | exact mem_at 10 rfl | exact mem_at 11 rfl | exact mem_at 12 rfl | exact mem_at 13 rfl | exact mem_at 14 rfl | exact mem_at 15 rfl | exact mem_at 16 rfl | exact mem_at 17 rfl | exact mem_at 18 rfl | exact mem_at 19 rfl | exact mem_at 20 rfl | exact mem_at 21 rfl)) (binR_pow (by first | decide | assumption | with_reducible exact Int.natCast_nonneg _ | with_reducible exact Nat.le_trans (by assumption) (by decide) | with_reducible exact Nat.lt_of_lt_of_le (by assumption) (by decide) | with_reducible exact lt_mil (Nat.lt_of_lt_of_le (by assumption) (by decide)) | with_reducible exact lt_mil (Nat.lt_of_le_of_lt (by assumption) (by decide)) | with_reducible exact Nat.le_trans (Nat.le_of_lt (by assumption)) (by decide) | (first | lia | omega)) ?_)) (binR_div (Int.pow_pos (by first | decide | assumption | with_reducible exact Int.natCast_nonneg _ | with_reducible exact Nat.le_trans (by assumption) (by decide) | with_reducible exact Nat.lt_of_lt_of_le (by assumption) (by decide) | with_reducible exact lt_mil (Nat.lt_of_lt_of_le (by assumption) (by decide)) | with_reducible exact lt_mil (Nat.lt_of_le_of_lt (by assumption) (by decide)) | with_reducible exact Nat.le_trans (Nat.le_of_lt (by assumption)) (by decide) | (first | lia | omega))) ?_)) ev_int (binR_md (by first | decide | assumption | with_reducible exact Int.natCast_nonneg _ | with_reducible exact Nat.le_trans (by assumption) (by decide) | with_reducible exact Nat.lt_of_lt_of_le (by assumption) (by decide) | with_reducible exact lt_mil (Nat.lt_of_lt_of_le (by assumption) (by decide)) | with_reducible exact lt_mil (Nat.lt_of_le_of_lt (by assumption) (by decide)) | with_reducible exact Nat.le_trans (Nat.le_of_lt (by assumption)) (by decide) | (first | lia | omega)))) (getR_str (by rw [bit_of]; (first | lia | omega)) ?_ (by rw [bit_of]; (first | lia | omega)))
      · have : Builtin.Int.intBits 2 = 2 := by decide
        rw [this]; (first | lia | omega)
      · rw [Int.toNat_natCast]; have := pow2_small (k := k) (by first | decide | assumption | with_reducible exact Int.natCast_nonneg _ | with_reducible exact Nat.le_trans (by assumption) (by decide) | with_reducible exact Nat.lt_of_lt_of_le (by assumption) (by decide) | with_reducible exact lt_mil (Nat.lt_of_lt_of_le (by assumption) (by decide)) | with_reducible exact lt_mil (Nat.lt_of_le_of_lt (by assumption) (by decide)) | with_reducible exact Nat.le_trans (Nat.le_of_lt (by assumption)) (by decide) | (first | lia | omega)); (first | lia | omega)
      · rw [bit_of, Int.toNat_natCast, Int.toNat_natCast]
        have : (n / 2 ^ k % 2).toNat = 0 ∨ (n / 2 ^ k % 2).toNat = 1 := by (first | lia | omega)
        rcases this with h | h <;> rw [h] <;> rfl
    · rw [filter_tt]
      simp [figs, figF]
    · rw [flatten_single]; simp [figs_length]; (first | lia | omega)
    · rw [flatten_single]; simp
end
end Mine

namespace Mine
open PySem PySem.W PyProof.Rows PySem.Calls
set_option maxRecDepth 100000

section
variable {P : Params} {C : Cx}
theorem sp_backwards (I : Is2 P C) (hf : 0 < C.fuel) {a b : PyData} {l : List Nat} (hl : l.length ≤ 1000) : CallOk C (.ref 154) [.dat (.list [a, b, .str (st l)])] [] [] (.dat (.str (st l.reverse))) :=
  callOk_of fun ok W s vs ks S hx hy => by
    obtain ⟨_, rfl, r1⟩ := BAll.inv1 hx
    obtain rfl := BAll.inv0 hy
    refine enter ok hf S (I.lk (a := 154) rfl) (by rw [I.K]; rfl) (binds := [(Str.ofString "one", _)]) (kp_binds (K := hd2.heap_39 P) (I.inn S) (fun _ => rfl))
      (.cons r1 .nil) (show [Str.ofString "one"].Nodup by decide) rfl fun L => ?_
    exact ex_one (ex_return (ev_slice (ev_item (ev_lst (ev_var (by first | exact mem_at 0 rfl | exact mem_at 1 rfl | exact mem_at 2 rfl | exact mem_at 3 rfl | exact mem_at 4 rfl | exact mem_at 5 rfl | exact mem_at 6 rfl | exact mem_at 7 rfl | exact mem_at 8 rfl | exact mem_at 9 rfl | exact mem_at 10 rfl | exact mem_at 11 rfl | exact mem_at 12 rfl | exact mem_at 13 rfl | exact mem_at 14 rfl | exact mem_at 15 rfl | exact mem_at 16 rfl | exact mem_at 17 rfl | exact mem_at 18 rfl | exact mem_at 19 rfl | exact mem_at 20 rfl | exact mem_at 21 rfl))) ev_int (getR_list (by first | decide | assumption | with_reducible exact Int.natCast_nonneg _ | with_reducible exact Nat.le_trans (by assumption) (by decide) | with_reducible exact Nat.lt_of_lt_of_le (by assumption) (by decide) | with_reducible exact lt_mil (Nat.lt_of_lt_of_le (by assumption) (by decide)) | with_reducible exact lt_mil (Nat.lt_of_le_of_lt (by assumption) (by decide)) | with_reducible exact Nat.le_trans (Nat.le_of_lt (by assumption)) (by decide) | (first | lia | omega)) rfl (by first | decide | assumption | with_reducible exact Int.natCast_nonneg _ | with_reducible exact Nat.le_trans (by assumption) (by decide) | with_reducible exact Nat.lt_of_lt_of_le (by assumption) (by decide) | with_reducible exact lt_mil (Nat.lt_of_lt_of_le (by assumption) (by decide)) | with_reducible exact lt_mil (Nat.lt_of_le_of_lt (by assumption) (by decide)) | with_reducible exact Nat.le_trans (Nat.le_of_lt (by assumption)) (by decide) | (first | lia | omega)))) evp_none evp_none (evp_some (ev_neg ev_int)) (sliceR_str_rev (by first | decide | assumption | with_reducible exact Int.natCast_nonneg _ | with_reducible exact Nat.le_trans (by assumption) (by decide) | with_reducible exact Nat.lt_of_lt_of_le (by assumption) (by decide) | with_reducible exact lt_mil (Nat.lt_of_lt_of_le (by assumption) (by decide)) | with_reducible exact lt_mil (Nat.lt_of_le_of_lt (by assumption) (by decide)) | with_reducible exact Nat.le_trans (Nat.le_of_lt (by assumption)) (by decide) | (first | lia | omega)))))
theorem sp_it (I : Is2 P C) (hf : 0 < C.fuel) {e : It} (hl : e.2.2.length ≤ 1000) : CallOk C (.ref 154) [.dat (itD e)] [] [] (.dat (kyD (itD e))) := by
  rw [kyD_it]; exact sp_backwards I hf hl

theorem sp_format (I : Is2 P C) (hf : 0 < C.fuel) {v : Value} {l : List Nat} {c a w : Nat} (hc : c < 128) (ha : a = 60 ∨ a = 62) (h1 : 1 ≤ w) (h2 : w ≤ 7) (hz : l.length ≤ 1000) :
    CallOk C (.ref 78) [.val v, .dat (.str (st l)), .dat (.str (st [c, a, 48 + w]))] [] [] (.dat (.str (st (fill c a w l)))) :=
  callOk_of fun ok W s vs ks S hx hy => by
    obtain ⟨_, _, _, rfl, r1, r2, r3⟩ := BAll.inv3 hx
    obtain rfl := BAll.inv0 hy
    refine enter ok hf S (I.lk (a := 78) rfl) (by rw [I.K]; rfl) (binds := [(Str.ofString "self", _), (Str.ofString "value", _), (Str.ofString "format_spec", _)]) (kp_binds (K := hd2.heap_39 P) (I.inn S) (fun _ => rfl))
      (.cons r1 (.cons r2 (.cons r3 .nil))) (show [Str.ofString "self", Str.ofString "value", Str.ofString "format_spec"].Nodup by decide) rfl fun L => ?_
    exact ex_one (ex_return (ev_call_bi (ev_builtin rfl (I.gl rfl) rfl) (evl_cons (ev_var (by first | exact mem_at 0 rfl | exact mem_at 1 rfl | exact mem_at 2 rfl | exact mem_at 3 rfl | exact mem_at 4 rfl | exact mem_at 5 rfl | exact mem_at 6 rfl | exact mem_at 7 rfl | exact mem_at 8 rfl | exact mem_at 9 rfl | exact mem_at 10 rfl | exact mem_at 11 rfl | exact mem_at 12 rfl | exact mem_at 13 rfl | exact mem_at 14 rfl | exact mem_at 15 rfl | exact mem_at 16 rfl | exact mem_at 17 rfl | exact mem_at 18 rfl | exact mem_at 19 rfl | exact mem_at 20 rfl | exact mem_at 21 rfl)) (evl_cons (ev_var (by first | exact mem_at 0 rfl | exact mem_at 1 rfl | exact mem_at 2 rfl | exact mem_at 3 rfl | exact mem_at 4 rfl | exact mem_at 5 rfl | exact mem_at 6 rfl | exact mem_at 7 rfl | exact mem_at 8 rfl | exact mem_at 9 rfl | exact mem_at 10 rfl | exact mem_at 11 rfl | exact mem_at 12 rfl | exact mem_at 13 rfl | exact mem_at 14 rfl | exact mem_at 15 rfl | exact mem_at 16 rfl | exact mem_at 17 rfl | exact mem_at 18 rfl | exact mem_at 19 rfl | exact mem_at 20 rfl | exact mem_at 21 rfl)) evl_nil)) (callOk_format_str hc ha h1 h2 hz)))

/-- the writer -/
structure Wr (C : Cx) (x dx : Addr) : Prop where
  x : C.g x = some (instObj 102 dx)
  d : C.g dx = some emptyDict
theorem ev_write {F : Fm} {Γ : List (Str × Bd)} {o : Expr} {es : List Expr} {apos pos : Pos} {x dx : Addr} {l : List Nat} {c a w : Nat} (I : Is2 P F.toCx) (hf : 0 < F.fuel) (X : Wr F.toCx x dx) (hc : c < 128) (ha : a = 60 ∨ a = 62) (h1 : 1 ≤ w) (h2 : w ≤ 7) (hz : l.length ≤ 1000)
    (ho : EvB F Γ o (.val (.ref x))) (y : EvL F Γ pos es [.dat (.str (st l)), .dat (.str (st [c, a, 48 + w]))])
    (hbase : ∀ env, attributeBase o (Str.ofString "format_field") env (eval o env) = eval o env := by intro _; rfl) (hn : ∀ env, (starEach es env).any (·.1) = false := by intro _; rfl) (hlen : decide (es.length < 29) = true := by rfl) (hline : (apos.endLine == pos.line) = true := by rfl) :
    EvB F Γ (.Call (.Attribute o (Str.ofString "format_field") apos) es [] pos) (.dat (.str (st (fill c a w l)))) :=
  ev_inst ho y X.x X.d (by rw [I.K]; rfl) (by rw [I.K]; rfl) (by rw [I.K]; rfl) (I.at (a := 78) rfl) rfl (sp_format I hf hc ha h1 h2 hz) hbase hn hlen hline
end
end Mine

namespace Mine
open PySem PySem.W PyProof.Rows PySem.Calls
set_option maxRecDepth 100000

theorem Is2.like {P : Params} {k : Nat} {C C' : Cx} (I : Is2 P C) (h : Like k C C') : Is2 P C' := ⟨h.K.trans I.K, fun a o e => by rw [h.g]; rw [h.K] at e; exact I.g a o e, fun n v e => by rw [h.mg]; rw [h.K] at e; exact I.mg n v e⟩
theorem Wr.like {k : Nat} {C C' : Cx} {x dx : Addr} (I : Wr C x dx) (h : Like k C C') : Wr C' x dx := ⟨by rw [h.g]; exact I.x, by rw [h.g]; exact I.d⟩
def dD (d : List Nat × Nat) : PyData := .list [.str (st d.1), .int (d.2 : Int)]
theorem map_insAt (row : List It) (p : Nat) (e : It) : (insAt row p e).map itD = (row.map itD).take p ++ itD e :: (row.map itD).drop p := by simp [insAt, List.map_take, List.map_drop]

section
variable {P : Params} {C : Cx}
theorem row_key (I : Is2 P C) (hf : 0 < C.fuel) {row : List It} (h : ∀ e ∈ row, e.2.2.length ≤ 1000) : ∀ d ∈ row.map itD, CallOk C (.ref 154) [.dat d] [] [] (.dat (kyD d)) := fun d hd => by
  obtain ⟨e, he, rfl⟩ := List.mem_map.mp hd
  exact sp_it I hf (h e he)
theorem row_bl {row : List It} {x : List Nat} (h : KSorted row) : ∀ F i, (hi : i < (row.map itD).length) → CmpR F .Lt (.dat (kyD (row.map itD)[i])) (.dat (.str (st x))) (decide (i < cntL row x)) := fun F i hi => by
  rw [List.length_map] at hi
  rw [List.getElem_map, kyD_it, ← cntL_at h x i hi]
  exact cmpR_lt_str
theorem row_br {row : List It} {x : List Nat} (h : KSorted row) : ∀ F i, (hi : i < (row.map itD).length) → CmpR F .Lt (.dat (.str (st x))) (.dat (kyD (row.map itD)[i])) (decide (cntR row x ≤ i)) := fun F i hi => by
  rw [List.length_map] at hi
  rw [List.getElem_map, kyD_it, ← cntR_at h x i hi]
  exact cmpR_lt_str
theorem row_ir (I : Is2 P C) (hf : 3 < C.fuel) {row : List It} {e : It} (h : KSorted row) (hl : ∀ a ∈ row, a.2.2.length ≤ 1000) (he : e.2.2.length ≤ 1000) (hz : row.length ≤ 1000) :
    MutOk C (.ref 115) [.dat (itD e)] [Str.ofString "key"] [.val (.ref 154)] (row.map itD) ((insAt row (cntR row (ky e)) e).map itD) := by
  rw [map_insAt]
  refine ir_key I (by first | decide | assumption | with_reducible exact Int.natCast_nonneg _ | with_reducible exact Nat.le_trans (by assumption) (by decide) | with_reducible exact Nat.lt_of_lt_of_le (by assumption) (by decide) | with_reducible exact lt_mil (Nat.lt_of_lt_of_le (by assumption) (by decide)) | with_reducible exact lt_mil (Nat.lt_of_le_of_lt (by assumption) (by decide)) | with_reducible exact Nat.le_trans (Nat.le_of_lt (by assumption)) (by decide) | (first | lia | omega)) (key := kyD) (I.at (a := 154) rfl) rfl (fun C' hC d hd => ?_) (by simpa using hz) (by simpa using cntR_le row _) (fun F i hi => by rw [kyD_it]; exact row_br h F i hi)
  have hf' : 0 < C'.fuel := by have := hC.fuel; (first | lia | omega)
  rcases List.mem_cons.mp hd with rfl | hd
  · exact sp_it (I.like hC) hf' he
  · exact row_key (I.like hC) hf' hl d hd
theorem row_il (I : Is2 P C) (hf : 3 < C.fuel) {row : List It} {e : It} (h : KSorted row) (hl : ∀ a ∈ row, a.2.2.length ≤ 1000) (he : e.2.2.length ≤ 1000) (hz : row.length ≤ 1000) :
    MutOk C (.ref 133) [.dat (itD e)] [Str.ofString "key"] [.val (.ref 154)] (row.map itD) ((insAt row (cntL row (ky e)) e).map itD) := by
  rw [map_insAt]
  refine il_key I (by first | decide | assumption | with_reducible exact Int.natCast_nonneg _ | with_reducible exact Nat.le_trans (by assumption) (by decide) | with_reducible exact Nat.lt_of_lt_of_le (by assumption) (by decide) | with_reducible exact lt_mil (Nat.lt_of_lt_of_le (by assumption) (by decide)) | with_reducible exact lt_mil (Nat.lt_of_le_of_lt (by assumption) (by decide)) | with_reducible exact Nat.le_trans (Nat.le_of_lt (by assumption)) (by decide) | (first | lia | omega)) (key := kyD) (I.at (a := 154) rfl) rfl (fun C' hC d hd => ?_) (by simpa using hz) (by simpa using cntL_le row _) (fun F i hi => by rw [kyD_it]; exact row_bl h F i hi)
  have hf' : 0 < C'.fuel := by have := hC.fuel; (first | lia | omega)
  rcases List.mem_cons.mp hd with rfl | hd
  · exact sp_it (I.like hC) hf' he
  · exact row_key (I.like hC) hf' hl d hd

theorem fill_low {sz c : Nat} {w : List Nat} : fill c 62 sz w = lowOf sz c w := by simp [fill, lowOf]
theorem range_at {n i : Nat} (h : i < ((List.range n).map fun i : Nat => PyData.int (i : Int)).length) : ((List.range n).map fun i : Nat => PyData.int (i : Int))[i] = .int (i : Int) := by simp
theorem fuel_like {C C' : Cx} {env : Env} {k : Nat} (h : Like k (C.into env).toCx C') (hf : k + 1 < C.fuel) : 0 < C'.fuel := by
  have h1 := h.fuel
  have h2 : (C.into env).toCx.fuel = C.fuel - 1 := rfl
  (first | lia | omega)
theorem evn_eq {F : Fm} {Γ : List (Str × Bd)} {e : Expr} {a b : List PyData} (x : EvN F Γ e a) (h : a = b) : EvN F Γ e b := h ▸ x
theorem sp_row (I : Is2 P C) (hf : 5 < C.fuel) {x dx : Addr} (X : Wr C x dx) {deeds : List (List Nat × Nat)} (hd : ∀ d ∈ deeds, d.1.length ≤ 8) (hz : deeds.length ≤ 100) {sz c0 c1 c2 : Nat} (hs : ∀ d ∈ deeds, d.1.length ≤ sz) (hc0 : c0 < 128) (hc1 : c1 < 128) (h1 : 1 ≤ sz) (h7 : sz ≤ 7) :
    CallOk C (.ref 161) [.val (.ref x), .dat (.list (deeds.map dD)), .dat (.str (st [48 + sz])), .dat (.list [.str (st [c0]), .str (st [c1]), .str (st [c2])])] [] [] (.dat (.list ((rowUp sz c0 c1 deeds deeds.length).map itD))) :=
  callOk_of fun ok W s vs ks S hx hy => by
    obtain ⟨_, _, _, _, rfl, r1, r2, r3, r4⟩ := BAll.inv4 hx
    obtain rfl := BAll.inv0 hy
    refine enter ok (by first | decide | assumption | with_reducible exact Int.natCast_nonneg _ | with_reducible exact Nat.le_trans (by assumption) (by decide) | with_reducible exact Nat.lt_of_lt_of_le (by assumption) (by decide) | with_reducible exact lt_mil (Nat.lt_of_lt_of_le (by assumption) (by decide)) | with_reducible exact lt_mil (Nat.lt_of_le_of_lt (by assumption) (by decide)) | with_reducible exact Nat.le_trans (Nat.le_of_lt (by assumption)) (by decide) | (first | lia | omega)) S (I.lk (a := 161) rfl) (by rw [I.K]; rfl) (binds := [(Str.ofString "writer", _), (Str.ofString "deeds", _), (Str.ofString "width", _), (Str.ofString "fills", _)]) (kp_binds (K := hd2.heap_39 P) (I.inn S) (fun _ => rfl))
      (.cons r1 (.cons r2 (.cons r3 (.cons r4 .nil)))) (show [Str.ofString "writer", Str.ofString "deeds", Str.ofString "width", Str.ofString "fills"].Nodup by decide) rfl fun L => ?_
    refine ex_cons (ex_assign_own (Γ' := [(Str.ofString "writer", .val (.ref x)), (Str.ofString "deeds", .dat (.list (deeds.map dD))), (Str.ofString "width", .dat (.str (st [48 + sz]))), (Str.ofString "fills", .dat (.list [.str (st [c0]), .str (st [c1]), .str (st [c2])]))]) evn_nil (by first | exact Or.inl rfl | exact Or.inr ⟨rfl, rfl, rfl⟩) (Pq.g (by repeat (first | exact Pq.nil | refine Pq.cons (by first | exact mem_at 0 rfl | exact mem_at 1 rfl | exact mem_at 2 rfl | exact mem_at 3 rfl | exact mem_at 4 rfl | exact mem_at 5 rfl | exact mem_at 6 rfl | exact mem_at 7 rfl | exact mem_at 8 rfl | exact mem_at 9 rfl | exact mem_at 10 rfl | exact mem_at 11 rfl | exact mem_at 12 rfl | exact mem_at 13 rfl | exact mem_at 14 rfl | exact mem_at 15 rfl | exact mem_at 16 rfl | exact mem_at 17 rfl | exact mem_at 18 rfl | exact mem_at 19 rfl | exact mem_at 20 rfl | exact mem_at 21 rfl) rfl ?_)))) ?_
    refine ex_cons (Γ₁ := [(Str.ofString "writer", .val (.ref x)), (Str.ofString "deeds", .dat (.list (deeds.map dD))), (Str.ofString "width", .dat (.str (st [48 + sz]))), (Str.ofString "fills", .dat (.list [.str (st [c0]), .str (st [c1]), .str (st [c2])]))]) (own₁ := some (Str.ofString "row", (rowUp sz c0 c1 deeds deeds.length).map itD)) ?_ (ex_freeze (ex_one (ex_return (ev_var (by first | exact mem_at 0 rfl | exact mem_at 1 rfl | exact mem_at 2 rfl | exact mem_at 3 rfl | exact mem_at 4 rfl | exact mem_at 5 rfl | exact mem_at 6 rfl | exact mem_at 7 rfl | exact mem_at 8 rfl | exact mem_at 9 rfl | exact mem_at 10 rfl | exact mem_at 11 rfl | exact mem_at 12 rfl | exact mem_at 13 rfl | exact mem_at 14 rfl | exact mem_at 15 rfl | exact mem_at 16 rfl | exact mem_at 17 rfl | exact mem_at 18 rfl | exact mem_at 19 rfl | exact mem_at 20 rfl | exact mem_at 21 rfl)))))
    refine ex_for (items := (List.range deeds.length).map fun i : Nat => PyData.int (i : Int)) (fun _ => [(Str.ofString "writer", .val (.ref x)), (Str.ofString "deeds", .dat (.list (deeds.map dD))), (Str.ofString "width", .dat (.str (st [48 + sz]))), (Str.ofString "fills", .dat (.list [.str (st [c0]), .str (st [c1]), .str (st [c2])]))])
      (fun i => [(Str.ofString "turn", .dat (.int (i : Int))), (Str.ofString "writer", .val (.ref x)), (Str.ofString "deeds", .dat (.list (deeds.map dD))), (Str.ofString "width", .dat (.str (st [48 + sz]))), (Str.ofString "fills", .dat (.list [.str (st [c0]), .str (st [c1]), .str (st [c2])]))])
      (fun i => some (Str.ofString "row", (rowUp sz c0 c1 deeds i).map itD)) deeds.length ?_ ?_ ?_ (.inl ⟨by simp, rfl⟩)
    · exact evi_range1 (n := (deeds.length : Int)) (ev_builtin rfl ((I.into _).gl rfl) rfl) (ev_eq (ev_call_bi (ev_builtin rfl ((I.into _).gl rfl) rfl) (evl_cons (ev_lst (ev_var (by first | exact mem_at 0 rfl | exact mem_at 1 rfl | exact mem_at 2 rfl | exact mem_at 3 rfl | exact mem_at 4 rfl | exact mem_at 5 rfl | exact mem_at 6 rfl | exact mem_at 7 rfl | exact mem_at 8 rfl | exact mem_at 9 rfl | exact mem_at 10 rfl | exact mem_at 11 rfl | exact mem_at 12 rfl | exact mem_at 13 rfl | exact mem_at 14 rfl | exact mem_at 15 rfl | exact mem_at 16 rfl | exact mem_at 17 rfl | exact mem_at 18 rfl | exact mem_at 19 rfl | exact mem_at 20 rfl | exact mem_at 21 rfl))) evl_nil) (callOk_len_list (by simp; (first | lia | omega)))) (by simp)) (by first | decide | assumption | with_reducible exact Int.natCast_nonneg _ | with_reducible exact Nat.le_trans (by assumption) (by decide) | with_reducible exact Nat.lt_of_lt_of_le (by assumption) (by decide) | with_reducible exact lt_mil (Nat.lt_of_lt_of_le (by assumption) (by decide)) | with_reducible exact lt_mil (Nat.lt_of_le_of_lt (by assumption) (by decide)) | with_reducible exact Nat.le_trans (Nat.le_of_lt (by assumption)) (by decide) | (first | lia | omega))
    · intro i hi _
      rw [range_at hi]
      exact asg_name (by first | exact Or.inl rfl | exact Or.inr ⟨rfl, rfl, rfl⟩) (by intro y ds e; first | (cases e; done) | (cases e; decide)) (Pk.g (by repeat (first | exact Pk.nil | refine Pk.here ?_ | refine Pk.cons (by first | exact mem_at 0 rfl | exact mem_at 1 rfl | exact mem_at 2 rfl | exact mem_at 3 rfl | exact mem_at 4 rfl | exact mem_at 5 rfl | exact mem_at 6 rfl | exact mem_at 7 rfl | exact mem_at 8 rfl | exact mem_at 9 rfl | exact mem_at 10 rfl | exact mem_at 11 rfl | exact mem_at 12 rfl | exact mem_at 13 rfl | exact mem_at 14 rfl | exact mem_at 15 rfl | exact mem_at 16 rfl | exact mem_at 17 rfl | exact mem_at 18 rfl | exact mem_at 19 rfl | exact mem_at 20 rfl | exact mem_at 21 rfl) rfl ?_)))
    · intro i hi _
      rw [List.length_map, List.length_range] at hi
      obtain ⟨d, hdi⟩ : ∃ d, deeds[i]? = some d := ⟨_, List.getElem?_eq_getElem hi⟩
      have hdl8 := hd _ (List.mem_of_getElem? hdi)
      have hdl : d.1.length ≤ sz := hs _ (List.mem_of_getElem? hdi)
      obtain ⟨hS, hL⟩ := okRow_up (sz := sz) (c0 := c0) (c1 := c1) hd i
      have hRz := rowUp_len (sz := sz) (c0 := c0) (c1 := c1) (deeds := deeds) i
      have hup : rowUp sz c0 c1 deeds (i + 1) = stepRow sz c0 c1 (rowUp sz c0 c1 deeds i) i d := by rw [rowUp, hdi]
      simp only [hup]
      generalize rowUp sz c0 c1 deeds i = R at hS hL hRz ⊢
      have hL1 : ∀ e ∈ R, e.2.2.length ≤ 1000 := fun e he => by have := hL e he; (first | lia | omega)
      unfold stepRow
      generalize hlw : lowOf sz c0 d.1 = lw
      generalize hhg : lowOf sz c1 d.1 = hg
      have hlw' : lw.length = sz := hlw ▸ lowOf_length _ _ _ hdl
      have hhg' : hg.length = sz := hhg ▸ lowOf_length _ _ _ hdl
      refine ex_cons (ex_assign (Γ' := [(Str.ofString "low", .dat (.str (st lw))), (Str.ofString "turn", .dat (.int (i : Int))), (Str.ofString "writer", .val (.ref x)), (Str.ofString "deeds", .dat (.list (deeds.map dD))), (Str.ofString "width", .dat (.str (st [48 + sz]))), (Str.ofString "fills", .dat (.list [.str (st [c0]), .str (st [c1]), .str (st [c2])]))]) (ev_eq (b := .dat (.str (st lw))) (ev_write (I.into _) (by show 0 < C.fuel - 1; (first | lia | omega)) (X.like (like_into _ _)) hc0 (.inr rfl) h1 h7 (by first | decide | assumption | with_reducible exact Int.natCast_nonneg _ | with_reducible exact Nat.le_trans (by assumption) (by decide) | with_reducible exact Nat.lt_of_lt_of_le (by assumption) (by decide) | with_reducible exact lt_mil (Nat.lt_of_lt_of_le (by assumption) (by decide)) | with_reducible exact lt_mil (Nat.lt_of_le_of_lt (by assumption) (by decide)) | with_reducible exact Nat.le_trans (Nat.le_of_lt (by assumption)) (by decide) | (first | lia | omega)) (ev_var (by first | exact mem_at 0 rfl | exact mem_at 1 rfl | exact mem_at 2 rfl | exact mem_at 3 rfl | exact mem_at 4 rfl | exact mem_at 5 rfl | exact mem_at 6 rfl | exact mem_at 7 rfl | exact mem_at 8 rfl | exact mem_at 9 rfl | exact mem_at 10 rfl | exact mem_at 11 rfl | exact mem_at 12 rfl | exact mem_at 13 rfl | exact mem_at 14 rfl | exact mem_at 15 rfl | exact mem_at 16 rfl | exact mem_at 17 rfl | exact mem_at 18 rfl | exact mem_at 19 rfl | exact mem_at 20 rfl | exact mem_at 21 rfl)) (evl_cons (ev_item (ev_lst (ev_item (ev_lst (ev_var (by first | exact mem_at 0 rfl | exact mem_at 1 rfl | exact mem_at 2 rfl | exact mem_at 3 rfl | exact mem_at 4 rfl | exact mem_at 5 rfl | exact mem_at 6 rfl | exact mem_at 7 rfl | exact mem_at 8 rfl | exact mem_at 9 rfl | exact mem_at 10 rfl | exact mem_at 11 rfl | exact mem_at 12 rfl | exact mem_at 13 rfl | exact mem_at 14 rfl | exact mem_at 15 rfl | exact mem_at 16 rfl | exact mem_at 17 rfl | exact mem_at 18 rfl | exact mem_at 19 rfl | exact mem_at 20 rfl | exact mem_at 21 rfl))) (ev_var (by first | exact mem_at 0 rfl | exact mem_at 1 rfl | exact mem_at 2 rfl | exact mem_at 3 rfl | exact mem_at 4 rfl | exact mem_at 5 rfl | exact mem_at 6 rfl | exact mem_at 7 rfl | exact mem_at 8 rfl | exact mem_at 9 rfl | exact mem_at 10 rfl | exact mem_at 11 rfl | exact mem_at 12 rfl | exact mem_at 13 rfl | exact mem_at 14 rfl | exact mem_at 15 rfl | exact mem_at 16 rfl | exact mem_at 17 rfl | exact mem_at 18 rfl | exact mem_at 19 rfl | exact mem_at 20 rfl | exact mem_at 21 rfl)) (getR_list (d := dD d) (by first | decide | assumption | with_reducible exact Int.natCast_nonneg _ | with_reducible exact Nat.le_trans (by assumption) (by decide) | with_reducible exact Nat.lt_of_lt_of_le (by assumption) (by decide) | with_reducible exact lt_mil (Nat.lt_of_lt_of_le (by assumption) (by decide)) | with_reducible exact lt_mil (Nat.lt_of_le_of_lt (by assumption) (by decide)) | with_reducible exact Nat.le_trans (Nat.le_of_lt (by assumption)) (by decide) | (first | lia | omega)) (by rw [Int.toNat_natCast, List.getElem?_map, hdi]; rfl) (by first | decide | assumption | with_reducible exact Int.natCast_nonneg _ | with_reducible exact Nat.le_trans (by assumption) (by decide) | with_reducible exact Nat.lt_of_lt_of_le (by assumption) (by decide) | with_reducible exact lt_mil (Nat.lt_of_lt_of_le (by assumption) (by decide)) | with_reducible exact lt_mil (Nat.lt_of_le_of_lt (by assumption) (by decide)) | with_reducible exact Nat.le_trans (Nat.le_of_lt (by assumption)) (by decide) | (first | lia | omega))))) ev_int (getR_list (d := .str (st d.1)) (by first | decide | assumption | with_reducible exact Int.natCast_nonneg _ | with_reducible exact Nat.le_trans (by assumption) (by decide) | with_reducible exact Nat.lt_of_lt_of_le (by assumption) (by decide) | with_reducible exact lt_mil (Nat.lt_of_lt_of_le (by assumption) (by decide)) | with_reducible exact lt_mil (Nat.lt_of_le_of_lt (by assumption) (by decide)) | with_reducible exact Nat.le_trans (Nat.le_of_lt (by assumption)) (by decide) | (first | lia | omega)) rfl (by first | decide | assumption | with_reducible exact Int.natCast_nonneg _ | with_reducible exact Nat.le_trans (by assumption) (by decide) | with_reducible exact Nat.lt_of_lt_of_le (by assumption) (by decide) | with_reducible exact lt_mil (Nat.lt_of_lt_of_le (by assumption) (by decide)) | with_reducible exact lt_mil (Nat.lt_of_le_of_lt (by assumption) (by decide)) | with_reducible exact Nat.le_trans (Nat.le_of_lt (by assumption)) (by decide) | (first | lia | omega)))) (evl_cons (ev_eq (b := .dat (.str (st [c0, 62, 48 + sz]))) (ev_bin (ev_bin (ev_item (ev_lst (ev_var (by first | exact mem_at 0 rfl | exact mem_at 1 rfl | exact mem_at 2 rfl | exact mem_at 3 rfl | exact mem_at 4 rfl | exact mem_at 5 rfl | exact mem_at 6 rfl | exact mem_at 7 rfl | exact mem_at 8 rfl | exact mem_at 9 rfl | exact mem_at 10 rfl | exact mem_at 11 rfl | exact mem_at 12 rfl | exact mem_at 13 rfl | exact mem_at 14 rfl | exact mem_at 15 rfl | exact mem_at 16 rfl | exact mem_at 17 rfl | exact mem_at 18 rfl | exact mem_at 19 rfl | exact mem_at 20 rfl | exact mem_at 21 rfl))) ev_int (getR_list (d := .str (st [c0])) (by first | decide | assumption | with_reducible exact Int.natCast_nonneg _ | with_reducible exact Nat.le_trans (by assumption) (by decide) | with_reducible exact Nat.lt_of_lt_of_le (by assumption) (by decide) | with_reducible exact lt_mil (Nat.lt_of_lt_of_le (by assumption) (by decide)) | with_reducible exact lt_mil (Nat.lt_of_le_of_lt (by assumption) (by decide)) | with_reducible exact Nat.le_trans (Nat.le_of_lt (by assumption)) (by decide) | (first | lia | omega)) rfl (by first | decide | assumption | with_reducible exact Int.natCast_nonneg _ | with_reducible exact Nat.le_trans (by assumption) (by decide) | with_reducible exact Nat.lt_of_lt_of_le (by assumption) (by decide) | with_reducible exact lt_mil (Nat.lt_of_lt_of_le (by assumption) (by decide)) | with_reducible exact lt_mil (Nat.lt_of_le_of_lt (by assumption) (by decide)) | with_reducible exact Nat.le_trans (Nat.le_of_lt (by assumption)) (by decide) | (first | lia | omega)))) (ev_strL (l := [62]) rfl) (binR_add_str (by simp))) (ev_var (by first | exact mem_at 0 rfl | exact mem_at 1 rfl | exact mem_at 2 rfl | exact mem_at 3 rfl | exact mem_at 4 rfl | exact mem_at 5 rfl | exact mem_at 6 rfl | exact mem_at 7 rfl | exact mem_at 8 rfl | exact mem_at 9 rfl | exact mem_at 10 rfl | exact mem_at 11 rfl | exact mem_at 12 rfl | exact mem_at 13 rfl | exact mem_at 14 rfl | exact mem_at 15 rfl | exact mem_at 16 rfl | exact mem_at 17 rfl | exact mem_at 18 rfl | exact mem_at 19 rfl | exact mem_at 20 rfl | exact mem_at 21 rfl)) (binR_add_str (by simp))) rfl) evl_nil))) (by rw [fill_low, hlw])) (by first | exact Or.inl rfl | exact Or.inr ⟨rfl, rfl, rfl⟩) (by intro y ds e; first | (cases e; done) | (cases e; decide)) (Pk.g (by repeat (first | exact Pk.nil | refine Pk.here ?_ | refine Pk.cons (by first | exact mem_at 0 rfl | exact mem_at 1 rfl | exact mem_at 2 rfl | exact mem_at 3 rfl | exact mem_at 4 rfl | exact mem_at 5 rfl | exact mem_at 6 rfl | exact mem_at 7 rfl | exact mem_at 8 rfl | exact mem_at 9 rfl | exact mem_at 10 rfl | exact mem_at 11 rfl | exact mem_at 12 rfl | exact mem_at 13 rfl | exact mem_at 14 rfl | exact mem_at 15 rfl | exact mem_at 16 rfl | exact mem_at 17 rfl | exact mem_at 18 rfl | exact mem_at 19 rfl | exact mem_at 20 rfl | exact mem_at 21 rfl) rfl ?_)))) ?_
      refine ex_cons (ex_assign (Γ' := [(Str.ofString "high", .dat (.str (st hg))), (Str.ofString "low", .dat (.str (st lw))), (Str.ofString "turn", .dat (.int (i : Int))), (Str.ofString "writer", .val (.ref x)), (Str.ofString "deeds", .dat (.list (deeds.map dD))), (Str.ofString "width", .dat (.str (st [48 + sz]))), (Str.ofString "fills", .dat (.list [.str (st [c0]), .str (st [c1]), .str (st [c2])]))]) (ev_eq (b := .dat (.str (st hg))) (ev_write (I.into _) (by show 0 < C.fuel - 1; (first | lia | omega)) (X.like (like_into _ _)) hc1 (.inr rfl) h1 h7 (by first | decide | assumption | with_reducible exact Int.natCast_nonneg _ | with_reducible exact Nat.le_trans (by assumption) (by decide) | with_reducible exact Nat.lt_of_lt_of_le (by assumption) (by decide) | with_reducible exact lt_mil (Nat.lt_of_lt_of_le (by assumption) (by decide)) | with_reducible exact lt_mil (Nat.lt_of_le_of_lt (by assumption) (by decide)) | with_reducible exact Nat.le_trans (Nat.le_of_lt (by assumption)) (by decide) | (first | lia | omega)) (ev_var (by first | exact mem_at 0 rfl | exact mem_at 1 rfl | exact mem_at 2 rfl | exact mem_at 3 rfl | exact mem_at 4 rfl | exact mem_at 5 rfl | exact mem_at 6 rfl | exact mem_at 7 rfl | exact mem_at 8 rfl | exact mem_at 9 rfl | exact mem_at 10 rfl | exact mem_at 11 rfl | exact mem_at 12 rfl | exact mem_at 13 rfl | exact mem_at 14 rfl | exact mem_at 15 rfl | exact mem_at 16 rfl | exact mem_at 17 rfl | exact mem_at 18 rfl | exact mem_at 19 rfl | exact mem_at 20 rfl | exact mem_at 21 rfl)) (evl_cons (ev_item (ev_lst (ev_item (ev_lst (ev_var (by first | exact mem_at 0 rfl | exact mem_at 1 rfl | exact mem_at 2 rfl | exact mem_at 3 rfl | exact mem_at 4 rfl | exact mem_at 5 rfl | exact mem_at 6 rfl | exact mem_at 7 rfl | exact mem_at 8 rfl | exact mem_at 9 rfl | exact mem_at 10 rfl | exact mem_at 11 rfl | exact mem_at 12 rfl | exact mem_at 13 rfl | exact mem_at 14 rfl | exact mem_at 15 rfl | exact mem_at 16 rfl | exact mem_at 17 rfl | exact mem_at 18 rfl | exact mem_at 19 rfl | exact mem_at 20 rfl | exact mem_at 21 rfl))) (ev_var (by first | exact mem_at 0 rfl | exact mem_at 1 rfl | exact mem_at 2 rfl | exact mem_at 3 rfl | exact mem_at 4 rfl | exact mem_at 5 rfl | exact mem_at 6 rfl | exact mem_at 7 rfl | exact mem_at 8 rfl | exact mem_at 9 rfl | exact mem_at 10 rfl | exact mem_at 11 rfl | exact mem_at 12 rfl | exact mem_at 13 rfl | exact mem_at 14 rfl | exact mem_at 15 rfl | exact mem_at 16 rfl | exact mem_at 17 rfl | exact mem_at 18 rfl | exact mem_at 19 rfl | exact mem_at 20 rfl | exact mem_at 21 rfl)) (getR_list (d := dD d) (by first | decide | assumption | with_reducible exact Int.natCast_nonneg _ | with_reducible exact Nat.le_trans (by assumption) (by decide) | with_reducible exact Nat.lt_of_lt_of_le (by assumption) (by decide) | with_reducible exact lt_mil (Nat.lt_of_lt_of_le (by assumption) (by decide)) | with_reducible exact lt_mil (Nat.lt_of_le_of_lt (by assumption) (by decide)) | with_reducible exact Nat.le_trans (Nat.le_of_lt (by assumption)) (by decide) | (first | lia | omega)) (by rw [Int.toNat_natCast, List.getElem?_map, hdi]; rfl) (by first | decide | assumption | with_reducible exact Int.natCast_nonneg _ | with_reducible exact Nat.le_trans (by assumption) (by decide) | with_reducible exact Nat.lt_of_lt_of_le (by assumption) (by decide) | with_reducible exact lt_mil (Nat.lt_of_lt_of_le (by assumption) (by decide)) | with_reducible exact lt_mil (Nat.lt_of_le_of_lt (by assumption) (by decide)) | with_reducible exact Nat.le_trans (Nat.le_of_lt (by assumption)) (by decide) | (first | lia | omega))))) ev_int (getR_list (d := .str (st d.1)) (by first | decide | assumption | with_reducible exact Int.natCast_nonneg _ | with_reducible exact Nat.le_trans (by assumption) (by decide) | with_reducible exact Nat.lt_of_lt_of_le (by assumption) (by decide) | with_reducible exact lt_mil (Nat.lt_of_lt_of_le (by assumption) (by decide)) | with_reducible exact lt_mil (Nat.lt_of_le_of_lt (by assumption) (by decide)) | with_reducible exact Nat.le_trans (Nat.le_of_lt (by assumption)) (by decide) | (first | lia | omega)) rfl (by first | decide | assumption | with_reducible exact Int.natCast_nonneg _ | with_reducible exact Nat.le_trans (by assumption) (by decide) | with_reducible exact Nat.lt_of_lt_of_le (by assumption) (by decide) | with_reducible exact lt_mil (Nat.lt_of_lt_of_le (by assumption) (by decide)) | with_reducible exact lt_mil (Nat.lt_of_le_of_lt (by assumption) (by decide)) | with_reducible exact Nat.le_trans (Nat.le_of_lt (by assumption)) (by decide) | (first | lia | omega)))) (evl_cons (ev_eq (b := .dat (.str (st [c1, 62, 48 + sz]))) (ev_bin (ev_bin (ev_item (ev_lst (ev_var (by first | exact mem_at 0 rfl | exact mem_at 1 rfl | exact mem_at 2 rfl | exact mem_at 3 rfl | exact mem_at 4 rfl | exact mem_at 5 rfl | exact mem_at 6 rfl | exact mem_at 7 rfl | exact mem_at 8 rfl | exact mem_at 9 rfl | exact mem_at 10 rfl | exact mem_at 11 rfl | exact mem_at 12 rfl | exact mem_at 13 rfl | exact mem_at 14 rfl | exact mem_at 15 rfl | exact mem_at 16 rfl | exact mem_at 17 rfl | exact mem_at 18 rfl | exact mem_at 19 rfl | exact mem_at 20 rfl | exact mem_at 21 rfl))) ev_int (getR_list (d := .str (st [c1])) (by first | decide | assumption | with_reducible exact Int.natCast_nonneg _ | with_reducible exact Nat.le_trans (by assumption) (by decide) | with_reducible exact Nat.lt_of_lt_of_le (by assumption) (by decide) | with_reducible exact lt_mil (Nat.lt_of_lt_of_le (by assumption) (by decide)) | with_reducible exact lt_mil (Nat.lt_of_le_of_lt (by assumption) (by decide)) | with_reducible exact Nat.le_trans (Nat.le_of_lt (by assumption)) (by decide) | (first | lia | omega)) rfl (by first | decide | assumption | with_reducible exact Int.natCast_nonneg _ | with_reducible exact Nat.le_trans (by assumption) (by decide) | with_reducible exact Nat.lt_of_lt_of_le (by assumption) (by decide) | with_reducible exact lt_mil (Nat.lt_of_lt_of_le (by assumption) (by decide)) | with_reducible exact lt_mil (Nat.lt_of_le_of_lt (by assumption) (by decide)) | with_reducible exact Nat.le_trans (Nat.le_of_lt (by assumption)) (by decide) | (first | lia | omega)))) (ev_strL (l := [62]) rfl) (binR_add_str (by simp))) (ev_var (by first | exact mem_at 0 rfl | exact mem_at 1 rfl | exact mem_at 2 rfl | exact mem_at 3 rfl | exact mem_at 4 rfl | exact mem_at 5 rfl | exact mem_at 6 rfl | exact mem_at 7 rfl | exact mem_at 8 rfl | exact mem_at 9 rfl | exact mem_at 10 rfl | exact mem_at 11 rfl | exact mem_at 12 rfl | exact mem_at 13 rfl | exact mem_at 14 rfl | exact mem_at 15 rfl | exact mem_at 16 rfl | exact mem_at 17 rfl | exact mem_at 18 rfl | exact mem_at 19 rfl | exact mem_at 20 rfl | exact mem_at 21 rfl)) (binR_add_str (by simp))) rfl) evl_nil))) (by rw [fill_low, hhg])) (by first | exact Or.inl rfl | exact Or.inr ⟨rfl, rfl, rfl⟩) (by intro y ds e; first | (cases e; done) | (cases e; decide)) (Pk.g (by repeat (first | exact Pk.nil | refine Pk.here ?_ | refine Pk.cons (by first | exact mem_at 0 rfl | exact mem_at 1 rfl | exact mem_at 2 rfl | exact mem_at 3 rfl | exact mem_at 4 rfl | exact mem_at 5 rfl | exact mem_at 6 rfl | exact mem_at 7 rfl | exact mem_at 8 rfl | exact mem_at 9 rfl | exact mem_at 10 rfl | exact mem_at 11 rfl | exact mem_at 12 rfl | exact mem_at 13 rfl | exact mem_at 14 rfl | exact mem_at 15 rfl | exact mem_at 16 rfl | exact mem_at 17 rfl | exact mem_at 18 rfl | exact mem_at 19 rfl | exact mem_at 20 rfl | exact mem_at 21 rfl) rfl ?_)))) ?_
      refine ex_cons (ex_assign (Γ' := [(Str.ofString "first", .dat (.int (cntL R lw.reverse : Nat))), (Str.ofString "high", .dat (.str (st hg))), (Str.ofString "low", .dat (.str (st lw))), (Str.ofString "turn", .dat (.int (i : Int))), (Str.ofString "writer", .val (.ref x)), (Str.ofString "deeds", .dat (.list (deeds.map dD))), (Str.ofString "width", .dat (.str (st [48 + sz]))), (Str.ofString "fills", .dat (.list [.str (st [c0]), .str (st [c1]), .str (st [c2])]))]) (ev_def (ev_glob rfl ((I.into _).gl rfl)) (evl_cons (ev_var (b := .lst (R.map itD)) (by first | exact mem_at 0 rfl | exact mem_at 1 rfl | exact mem_at 2 rfl | exact mem_at 3 rfl | exact mem_at 4 rfl | exact mem_at 5 rfl | exact mem_at 6 rfl | exact mem_at 7 rfl | exact mem_at 8 rfl | exact mem_at 9 rfl | exact mem_at 10 rfl | exact mem_at 11 rfl | exact mem_at 12 rfl | exact mem_at 13 rfl | exact mem_at 14 rfl | exact mem_at 15 rfl | exact mem_at 16 rfl | exact mem_at 17 rfl | exact mem_at 18 rfl | exact mem_at 19 rfl | exact mem_at 20 rfl | exact mem_at 21 rfl)) (evl_cons (ev_slice (ev_var (b := .dat (.str (st lw))) (by first | exact mem_at 0 rfl | exact mem_at 1 rfl | exact mem_at 2 rfl | exact mem_at 3 rfl | exact mem_at 4 rfl | exact mem_at 5 rfl | exact mem_at 6 rfl | exact mem_at 7 rfl | exact mem_at 8 rfl | exact mem_at 9 rfl | exact mem_at 10 rfl | exact mem_at 11 rfl | exact mem_at 12 rfl | exact mem_at 13 rfl | exact mem_at 14 rfl | exact mem_at 15 rfl | exact mem_at 16 rfl | exact mem_at 17 rfl | exact mem_at 18 rfl | exact mem_at 19 rfl | exact mem_at 20 rfl | exact mem_at 21 rfl)) evp_none evp_none (evp_some (ev_neg ev_int)) (sliceR_str_rev (by first | decide | assumption | with_reducible exact Int.natCast_nonneg _ | with_reducible exact Nat.le_trans (by assumption) (by decide) | with_reducible exact Nat.lt_of_lt_of_le (by assumption) (by decide) | with_reducible exact lt_mil (Nat.lt_of_lt_of_le (by assumption) (by decide)) | with_reducible exact lt_mil (Nat.lt_of_le_of_lt (by assumption) (by decide)) | with_reducible exact Nat.le_trans (Nat.le_of_lt (by assumption)) (by decide) | (first | lia | omega)))) evl_nil)) (evkw_cons (ev_glob rfl ((I.into _).gl rfl)) evkw_nil) ((I.into _).at (a := 142) rfl) rfl (bl_key (I.into _) (by show 0 < C.fuel - 1; (first | lia | omega)) (key := kyD) ((I.into _).at (a := 154) rfl) rfl (fun C' hC => row_key ((I.into _).like hC) (fuel_like hC (by first | decide | assumption | with_reducible exact Int.natCast_nonneg _ | with_reducible exact Nat.le_trans (by assumption) (by decide) | with_reducible exact Nat.lt_of_lt_of_le (by assumption) (by decide) | with_reducible exact lt_mil (Nat.lt_of_lt_of_le (by assumption) (by decide)) | with_reducible exact lt_mil (Nat.lt_of_le_of_lt (by assumption) (by decide)) | with_reducible exact Nat.le_trans (Nat.le_of_lt (by assumption)) (by decide) | (first | lia | omega))) hL1) (by simp; (first | lia | omega)) (by simpa using cntL_le _ _) (row_bl hS))) (by first | exact Or.inl rfl | exact Or.inr ⟨rfl, rfl, rfl⟩) (by intro y ds e; first | (cases e; done) | (cases e; decide)) (Pk.g (by repeat (first | exact Pk.nil | refine Pk.here ?_ | refine Pk.cons (by first | exact mem_at 0 rfl | exact mem_at 1 rfl | exact mem_at 2 rfl | exact mem_at 3 rfl | exact mem_at 4 rfl | exact mem_at 5 rfl | exact mem_at 6 rfl | exact mem_at 7 rfl | exact mem_at 8 rfl | exact mem_at 9 rfl | exact mem_at 10 rfl | exact mem_at 11 rfl | exact mem_at 12 rfl | exact mem_at 13 rfl | exact mem_at 14 rfl | exact mem_at 15 rfl | exact mem_at 16 rfl | exact mem_at 17 rfl | exact mem_at 18 rfl | exact mem_at 19 rfl | exact mem_at 20 rfl | exact mem_at 21 rfl) rfl ?_)))) ?_
      refine ex_cons (ex_assign (Γ' := [(Str.ofString "behind", .dat (.int (cntR R lw.reverse : Nat))), (Str.ofString "first", .dat (.int (cntL R lw.reverse : Nat))), (Str.ofString "high", .dat (.str (st hg))), (Str.ofString "low", .dat (.str (st lw))), (Str.ofString "turn", .dat (.int (i : Int))), (Str.ofString "writer", .val (.ref x)), (Str.ofString "deeds", .dat (.list (deeds.map dD))), (Str.ofString "width", .dat (.str (st [48 + sz]))), (Str.ofString "fills", .dat (.list [.str (st [c0]), .str (st [c1]), .str (st [c2])]))]) (ev_def (ev_glob rfl ((I.into _).gl rfl)) (evl_cons (ev_var (b := .lst (R.map itD)) (by first | exact mem_at 0 rfl | exact mem_at 1 rfl | exact mem_at 2 rfl | exact mem_at 3 rfl | exact mem_at 4 rfl | exact mem_at 5 rfl | exact mem_at 6 rfl | exact mem_at 7 rfl | exact mem_at 8 rfl | exact mem_at 9 rfl | exact mem_at 10 rfl | exact mem_at 11 rfl | exact mem_at 12 rfl | exact mem_at 13 rfl | exact mem_at 14 rfl | exact mem_at 15 rfl | exact mem_at 16 rfl | exact mem_at 17 rfl | exact mem_at 18 rfl | exact mem_at 19 rfl | exact mem_at 20 rfl | exact mem_at 21 rfl)) (evl_cons (ev_slice (ev_var (b := .dat (.str (st lw))) (by first | exact mem_at 0 rfl | exact mem_at 1 rfl | exact mem_at 2 rfl | exact mem_at 3 rfl | exact mem_at 4 rfl | exact mem_at 5 rfl | exact mem_at 6 rfl | exact mem_at 7 rfl | exact mem_at 8 rfl | exact mem_at 9 rfl | exact mem_at 10 rfl | exact mem_at 11 rfl | exact mem_at 12 rfl | exact mem_at 13 rfl | exact mem_at 14 rfl | exact mem_at 15 rfl | exact mem_at 16 rfl | exact mem_at 17 rfl | exact mem_at 18 rfl | exact mem_at 19 rfl | exact mem_at 20 rfl | exact mem_at 21 rfl)) evp_none evp_none (evp_some (ev_neg ev_int)) (sliceR_str_rev (by first | decide | assumption | with_reducible exact Int.natCast_nonneg _ | with_reducible exact Nat.le_trans (by assumption) (by decide) | with_reducible exact Nat.lt_of_lt_of_le (by assumption) (by decide) | with_reducible exact lt_mil (Nat.lt_of_lt_of_le (by assumption) (by decide)) | with_reducible exact lt_mil (Nat.lt_of_le_of_lt (by assumption) (by decide)) | with_reducible exact Nat.le_trans (Nat.le_of_lt (by assumption)) (by decide) | (first | lia | omega)))) evl_nil)) (evkw_cons (ev_glob rfl ((I.into _).gl rfl)) evkw_nil) ((I.into _).at (a := 124) rfl) rfl (br_key (I.into _) (by show 0 < C.fuel - 1; (first | lia | omega)) (key := kyD) ((I.into _).at (a := 154) rfl) rfl (fun C' hC => row_key ((I.into _).like hC) (fuel_like hC (by first | decide | assumption | with_reducible exact Int.natCast_nonneg _ | with_reducible exact Nat.le_trans (by assumption) (by decide) | with_reducible exact Nat.lt_of_lt_of_le (by assumption) (by decide) | with_reducible exact lt_mil (Nat.lt_of_lt_of_le (by assumption) (by decide)) | with_reducible exact lt_mil (Nat.lt_of_le_of_lt (by assumption) (by decide)) | with_reducible exact Nat.le_trans (Nat.le_of_lt (by assumption)) (by decide) | (first | lia | omega))) hL1) (by simp; (first | lia | omega)) (by simpa using cntR_le _ _) (row_br hS))) (by first | exact Or.inl rfl | exact Or.inr ⟨rfl, rfl, rfl⟩) (by intro y ds e; first | (cases e; done) | (cases e; decide)) (Pk.g (by repeat (first | exact Pk.nil | refine Pk.here ?_ | refine Pk.cons (by first | exact mem_at 0 rfl | exact mem_at 1 rfl | exact mem_at 2 rfl | exact mem_at 3 rfl | exact mem_at 4 rfl | exact mem_at 5 rfl | exact mem_at 6 rfl | exact mem_at 7 rfl | exact mem_at 8 rfl | exact mem_at 9 rfl | exact mem_at 10 rfl | exact mem_at 11 rfl | exact mem_at 12 rfl | exact mem_at 13 rfl | exact mem_at 14 rfl | exact mem_at 15 rfl | exact mem_at 16 rfl | exact mem_at 17 rfl | exact mem_at 18 rfl | exact mem_at 19 rfl | exact mem_at 20 rfl | exact mem_at 21 rfl) rfl ?_)))) ?_
      refine ex_one (ex_if (et_cmp (ev_item (ev_lst (ev_item (ev_lst (ev_var (by first | exact mem_at 0 rfl | exact mem_at 1 rfl | exact mem_at 2 rfl | exact mem_at 3 rfl | exact mem_at 4 rfl | exact mem_at 5 rfl | exact mem_at 6 rfl | exact mem_at 7 rfl | exact mem_at 8 rfl | exact mem_at 9 rfl | exact mem_at 10 rfl | exact mem_at 11 rfl | exact mem_at 12 rfl | exact mem_at 13 rfl | exact mem_at 14 rfl | exact mem_at 15 rfl | exact mem_at 16 rfl | exact mem_at 17 rfl | exact mem_at 18 rfl | exact mem_at 19 rfl | exact mem_at 20 rfl | exact mem_at 21 rfl))) (ev_var (by first | exact mem_at 0 rfl | exact mem_at 1 rfl | exact mem_at 2 rfl | exact mem_at 3 rfl | exact mem_at 4 rfl | exact mem_at 5 rfl | exact mem_at 6 rfl | exact mem_at 7 rfl | exact mem_at 8 rfl | exact mem_at 9 rfl | exact mem_at 10 rfl | exact mem_at 11 rfl | exact mem_at 12 rfl | exact mem_at 13 rfl | exact mem_at 14 rfl | exact mem_at 15 rfl | exact mem_at 16 rfl | exact mem_at 17 rfl | exact mem_at 18 rfl | exact mem_at 19 rfl | exact mem_at 20 rfl | exact mem_at 21 rfl)) (getR_list (d := dD d) (by first | decide | assumption | with_reducible exact Int.natCast_nonneg _ | with_reducible exact Nat.le_trans (by assumption) (by decide) | with_reducible exact Nat.lt_of_lt_of_le (by assumption) (by decide) | with_reducible exact lt_mil (Nat.lt_of_lt_of_le (by assumption) (by decide)) | with_reducible exact lt_mil (Nat.lt_of_le_of_lt (by assumption) (by decide)) | with_reducible exact Nat.le_trans (Nat.le_of_lt (by assumption)) (by decide) | (first | lia | omega)) (by rw [Int.toNat_natCast, List.getElem?_map, hdi]; rfl) (by first | decide | assumption | with_reducible exact Int.natCast_nonneg _ | with_reducible exact Nat.le_trans (by assumption) (by decide) | with_reducible exact Nat.lt_of_lt_of_le (by assumption) (by decide) | with_reducible exact lt_mil (Nat.lt_of_lt_of_le (by assumption) (by decide)) | with_reducible exact lt_mil (Nat.lt_of_le_of_lt (by assumption) (by decide)) | with_reducible exact Nat.le_trans (Nat.le_of_lt (by assumption)) (by decide) | (first | lia | omega))))) ev_int (getR_list (d := .int (d.2 : Int)) (by first | decide | assumption | with_reducible exact Int.natCast_nonneg _ | with_reducible exact Nat.le_trans (by assumption) (by decide) | with_reducible exact Nat.lt_of_lt_of_le (by assumption) (by decide) | with_reducible exact lt_mil (Nat.lt_of_lt_of_le (by assumption) (by decide)) | with_reducible exact lt_mil (Nat.lt_of_le_of_lt (by assumption) (by decide)) | with_reducible exact Nat.le_trans (Nat.le_of_lt (by assumption)) (by decide) | (first | lia | omega)) rfl (by first | decide | assumption | with_reducible exact Int.natCast_nonneg _ | with_reducible exact Nat.le_trans (by assumption) (by decide) | with_reducible exact Nat.lt_of_lt_of_le (by assumption) (by decide) | with_reducible exact lt_mil (Nat.lt_of_lt_of_le (by assumption) (by decide)) | with_reducible exact lt_mil (Nat.lt_of_le_of_lt (by assumption) (by decide)) | with_reducible exact Nat.le_trans (Nat.le_of_lt (by assumption)) (by decide) | (first | lia | omega)))) ev_int cmpR_ne_int) ?_ ?_)
      · intro h
        have h : d.2 ≠ 2 := by have := of_decide_eq_true h; (first | lia | omega)
        rw [if_pos h]
        have hS1 := hS.insR (i, 0, lw)
        have hL2 : ∀ e ∈ insAt R (cntR R (ky (i, 0, lw))) (i, 0, lw), e.2.2.length ≤ 1000 := fun e he => by
          rcases mem_insAt.mp he with rfl | he
          · show lw.length ≤ 1000; (first | lia | omega)
          · exact hL1 e he
        have hz1 : (insAt R (cntR R (ky (i, 0, lw))) (i, 0, lw)).length ≤ 1000 := by simp [insAt]; (first | lia | omega)
        refine ex_cons (ex_mut (ds := R.map itD) (args := [.dat (itD (i, 0, lw))]) (ev_glob rfl ((I.into _).gl rfl)) (evl_cons (ev_list (ds := [.int (i : Int), .int 0, .str (st lw)]) (evd_cons (ev_var (by first | exact mem_at 0 rfl | exact mem_at 1 rfl | exact mem_at 2 rfl | exact mem_at 3 rfl | exact mem_at 4 rfl | exact mem_at 5 rfl | exact mem_at 6 rfl | exact mem_at 7 rfl | exact mem_at 8 rfl | exact mem_at 9 rfl | exact mem_at 10 rfl | exact mem_at 11 rfl | exact mem_at 12 rfl | exact mem_at 13 rfl | exact mem_at 14 rfl | exact mem_at 15 rfl | exact mem_at 16 rfl | exact mem_at 17 rfl | exact mem_at 18 rfl | exact mem_at 19 rfl | exact mem_at 20 rfl | exact mem_at 21 rfl)) (evd_cons ev_int (evd_cons (ev_var (by first | exact mem_at 0 rfl | exact mem_at 1 rfl | exact mem_at 2 rfl | exact mem_at 3 rfl | exact mem_at 4 rfl | exact mem_at 5 rfl | exact mem_at 6 rfl | exact mem_at 7 rfl | exact mem_at 8 rfl | exact mem_at 9 rfl | exact mem_at 10 rfl | exact mem_at 11 rfl | exact mem_at 12 rfl | exact mem_at 13 rfl | exact mem_at 14 rfl | exact mem_at 15 rfl | exact mem_at 16 rfl | exact mem_at 17 rfl | exact mem_at 18 rfl | exact mem_at 19 rfl | exact mem_at 20 rfl | exact mem_at 21 rfl)) evd_nil)))) evl_nil) (evkw_cons (ev_glob rfl ((I.into _).gl rfl)) evkw_nil) (fun _ _ p => ⟨p.st.g _ _ ((I.into _).at (a := 115) rfl), rfl⟩) (row_ir (I.into _) (by show 3 < C.fuel - 1; (first | lia | omega)) hS hL1 (by show lw.length ≤ 1000; (first | lia | omega)) (by first | decide | assumption | with_reducible exact Int.natCast_nonneg _ | with_reducible exact Nat.le_trans (by assumption) (by decide) | with_reducible exact Nat.lt_of_lt_of_le (by assumption) (by decide) | with_reducible exact lt_mil (Nat.lt_of_lt_of_le (by assumption) (by decide)) | with_reducible exact lt_mil (Nat.lt_of_le_of_lt (by assumption) (by decide)) | with_reducible exact Nat.le_trans (Nat.le_of_lt (by assumption)) (by decide) | (first | lia | omega))) (hno := noLst_ok rfl) (hi := rfl)) ?_
        refine ex_cons (ex_mut (ds := (insAt R (cntR R (ky (i, 0, lw))) (i, 0, lw)).map itD) (args := [.dat (itD (i, 1, hg))]) (ev_glob rfl ((I.into _).gl rfl)) (evl_cons (ev_list (ds := [.int (i : Int), .int 1, .str (st hg)]) (evd_cons (ev_var (by first | exact mem_at 0 rfl | exact mem_at 1 rfl | exact mem_at 2 rfl | exact mem_at 3 rfl | exact mem_at 4 rfl | exact mem_at 5 rfl | exact mem_at 6 rfl | exact mem_at 7 rfl | exact mem_at 8 rfl | exact mem_at 9 rfl | exact mem_at 10 rfl | exact mem_at 11 rfl | exact mem_at 12 rfl | exact mem_at 13 rfl | exact mem_at 14 rfl | exact mem_at 15 rfl | exact mem_at 16 rfl | exact mem_at 17 rfl | exact mem_at 18 rfl | exact mem_at 19 rfl | exact mem_at 20 rfl | exact mem_at 21 rfl)) (evd_cons ev_int (evd_cons (ev_var (by first | exact mem_at 0 rfl | exact mem_at 1 rfl | exact mem_at 2 rfl | exact mem_at 3 rfl | exact mem_at 4 rfl | exact mem_at 5 rfl | exact mem_at 6 rfl | exact mem_at 7 rfl | exact mem_at 8 rfl | exact mem_at 9 rfl | exact mem_at 10 rfl | exact mem_at 11 rfl | exact mem_at 12 rfl | exact mem_at 13 rfl | exact mem_at 14 rfl | exact mem_at 15 rfl | exact mem_at 16 rfl | exact mem_at 17 rfl | exact mem_at 18 rfl | exact mem_at 19 rfl | exact mem_at 20 rfl | exact mem_at 21 rfl)) evd_nil)))) evl_nil) (evkw_cons (ev_glob rfl ((I.into _).gl rfl)) evkw_nil) (fun _ _ p => ⟨p.st.g _ _ ((I.into _).at (a := 133) rfl), rfl⟩) (row_il (I.into _) (by show 3 < C.fuel - 1; (first | lia | omega)) hS1 hL2 (by show hg.length ≤ 1000; (first | lia | omega)) (by first | decide | assumption | with_reducible exact Int.natCast_nonneg _ | with_reducible exact Nat.le_trans (by assumption) (by decide) | with_reducible exact Nat.lt_of_lt_of_le (by assumption) (by decide) | with_reducible exact lt_mil (Nat.lt_of_lt_of_le (by assumption) (by decide)) | with_reducible exact lt_mil (Nat.lt_of_le_of_lt (by assumption) (by decide)) | with_reducible exact Nat.le_trans (Nat.le_of_lt (by assumption)) (by decide) | (first | lia | omega))) (hno := noLst_ok rfl) (hi := rfl)) (ex_sub (Sb.g (by repeat (first | exact Sb.nil | refine Sb.cons (by first | exact mem_at 0 rfl | exact mem_at 1 rfl | exact mem_at 2 rfl | exact mem_at 3 rfl | exact mem_at 4 rfl | exact mem_at 5 rfl | exact mem_at 6 rfl | exact mem_at 7 rfl | exact mem_at 8 rfl | exact mem_at 9 rfl | exact mem_at 10 rfl | exact mem_at 11 rfl | exact mem_at 12 rfl | exact mem_at 13 rfl | exact mem_at 14 rfl | exact mem_at 15 rfl | exact mem_at 16 rfl | exact mem_at 17 rfl | exact mem_at 18 rfl | exact mem_at 19 rfl | exact mem_at 20 rfl | exact mem_at 21 rfl) ?_))) ex_nil)
      · intro h
        have h : ¬ d.2 ≠ 2 := by have := of_decide_eq_false h; (first | lia | omega)
        rw [if_neg h]
        refine ex_one (ex_if (et_cmp (ev_var (by first | exact mem_at 0 rfl | exact mem_at 1 rfl | exact mem_at 2 rfl | exact mem_at 3 rfl | exact mem_at 4 rfl | exact mem_at 5 rfl | exact mem_at 6 rfl | exact mem_at 7 rfl | exact mem_at 8 rfl | exact mem_at 9 rfl | exact mem_at 10 rfl | exact mem_at 11 rfl | exact mem_at 12 rfl | exact mem_at 13 rfl | exact mem_at 14 rfl | exact mem_at 15 rfl | exact mem_at 16 rfl | exact mem_at 17 rfl | exact mem_at 18 rfl | exact mem_at 19 rfl | exact mem_at 20 rfl | exact mem_at 21 rfl)) (ev_var (by first | exact mem_at 0 rfl | exact mem_at 1 rfl | exact mem_at 2 rfl | exact mem_at 3 rfl | exact mem_at 4 rfl | exact mem_at 5 rfl | exact mem_at 6 rfl | exact mem_at 7 rfl | exact mem_at 8 rfl | exact mem_at 9 rfl | exact mem_at 10 rfl | exact mem_at 11 rfl | exact mem_at 12 rfl | exact mem_at 13 rfl | exact mem_at 14 rfl | exact mem_at 15 rfl | exact mem_at 16 rfl | exact mem_at 17 rfl | exact mem_at 18 rfl | exact mem_at 19 rfl | exact mem_at 20 rfl | exact mem_at 21 rfl)) cmpR_gt_int) ?_ ?_)
        · intro h
          have h : cntL R lw.reverse < cntR R lw.reverse := by have := of_decide_eq_true h; (first | lia | omega)
          rw [if_pos h]
          have hcz := cntR_le R lw.reverse
          have s1 := take_drop_sub R (cntR R lw.reverse - 1) (cntR R lw.reverse) (by first | decide | assumption | with_reducible exact Int.natCast_nonneg _ | with_reducible exact Nat.le_trans (by assumption) (by decide) | with_reducible exact Nat.lt_of_lt_of_le (by assumption) (by decide) | with_reducible exact lt_mil (Nat.lt_of_lt_of_le (by assumption) (by decide)) | with_reducible exact lt_mil (Nat.lt_of_le_of_lt (by assumption) (by decide)) | with_reducible exact Nat.le_trans (Nat.le_of_lt (by assumption)) (by decide) | (first | lia | omega))
          have hS1 := hS.sub s1
          have hL2 : ∀ e ∈ (R.take (cntR R lw.reverse - 1) ++ R.drop (cntR R lw.reverse)), e.2.2.length ≤ 1000 := fun e he => hL1 e (s1.subset he)
          have hz1 := s1.length_le
          generalize hR1 : R.take (cntR R lw.reverse - 1) ++ R.drop (cntR R lw.reverse) = R1 at hS1 hL2 hz1 ⊢
          refine ex_cons (ex_assign_own (Γ' := [(Str.ofString "behind", .dat (.int (cntR R lw.reverse : Nat))), (Str.ofString "first", .dat (.int (cntL R lw.reverse : Nat))), (Str.ofString "high", .dat (.str (st hg))), (Str.ofString "low", .dat (.str (st lw))), (Str.ofString "turn", .dat (.int (i : Int))), (Str.ofString "writer", .val (.ref x)), (Str.ofString "deeds", .dat (.list (deeds.map dD))), (Str.ofString "width", .dat (.str (st [48 + sz]))), (Str.ofString "fills", .dat (.list [.str (st [c0]), .str (st [c1]), .str (st [c2])]))]) (ds := R1.map itD) (evn_eq (evn_add (ev_lst (ev_slice (ev_var (b := .lst (R.map itD)) (by first | exact mem_at 0 rfl | exact mem_at 1 rfl | exact mem_at 2 rfl | exact mem_at 3 rfl | exact mem_at 4 rfl | exact mem_at 5 rfl | exact mem_at 6 rfl | exact mem_at 7 rfl | exact mem_at 8 rfl | exact mem_at 9 rfl | exact mem_at 10 rfl | exact mem_at 11 rfl | exact mem_at 12 rfl | exact mem_at 13 rfl | exact mem_at 14 rfl | exact mem_at 15 rfl | exact mem_at 16 rfl | exact mem_at 17 rfl | exact mem_at 18 rfl | exact mem_at 19 rfl | exact mem_at 20 rfl | exact mem_at 21 rfl)) evp_none (evp_some (ev_bin (ev_var (by first | exact mem_at 0 rfl | exact mem_at 1 rfl | exact mem_at 2 rfl | exact mem_at 3 rfl | exact mem_at 4 rfl | exact mem_at 5 rfl | exact mem_at 6 rfl | exact mem_at 7 rfl | exact mem_at 8 rfl | exact mem_at 9 rfl | exact mem_at 10 rfl | exact mem_at 11 rfl | exact mem_at 12 rfl | exact mem_at 13 rfl | exact mem_at 14 rfl | exact mem_at 15 rfl | exact mem_at 16 rfl | exact mem_at 17 rfl | exact mem_at 18 rfl | exact mem_at 19 rfl | exact mem_at 20 rfl | exact mem_at 21 rfl)) ev_int binR_sub_int)) evp_none (sliceR_list (by simp; (first | lia | omega))))) (ev_lst (ev_slice (ev_var (b := .lst (R.map itD)) (by first | exact mem_at 0 rfl | exact mem_at 1 rfl | exact mem_at 2 rfl | exact mem_at 3 rfl | exact mem_at 4 rfl | exact mem_at 5 rfl | exact mem_at 6 rfl | exact mem_at 7 rfl | exact mem_at 8 rfl | exact mem_at 9 rfl | exact mem_at 10 rfl | exact mem_at 11 rfl | exact mem_at 12 rfl | exact mem_at 13 rfl | exact mem_at 14 rfl | exact mem_at 15 rfl | exact mem_at 16 rfl | exact mem_at 17 rfl | exact mem_at 18 rfl | exact mem_at 19 rfl | exact mem_at 20 rfl | exact mem_at 21 rfl)) (evp_some (ev_var (by first | exact mem_at 0 rfl | exact mem_at 1 rfl | exact mem_at 2 rfl | exact mem_at 3 rfl | exact mem_at 4 rfl | exact mem_at 5 rfl | exact mem_at 6 rfl | exact mem_at 7 rfl | exact mem_at 8 rfl | exact mem_at 9 rfl | exact mem_at 10 rfl | exact mem_at 11 rfl | exact mem_at 12 rfl | exact mem_at 13 rfl | exact mem_at 14 rfl | exact mem_at 15 rfl | exact mem_at 16 rfl | exact mem_at 17 rfl | exact mem_at 18 rfl | exact mem_at 19 rfl | exact mem_at 20 rfl | exact mem_at 21 rfl))) evp_none evp_none (sliceR_list (by simp; (first | lia | omega))))) ?_) ?_) (by first | exact Or.inl rfl | exact Or.inr ⟨rfl, rfl, rfl⟩) (Pq.g (by repeat (first | exact Pq.nil | refine Pq.cons (by first | exact mem_at 0 rfl | exact mem_at 1 rfl | exact mem_at 2 rfl | exact mem_at 3 rfl | exact mem_at 4 rfl | exact mem_at 5 rfl | exact mem_at 6 rfl | exact mem_at 7 rfl | exact mem_at 8 rfl | exact mem_at 9 rfl | exact mem_at 10 rfl | exact mem_at 11 rfl | exact mem_at 12 rfl | exact mem_at 13 rfl | exact mem_at 14 rfl | exact mem_at 15 rfl | exact mem_at 16 rfl | exact mem_at 17 rfl | exact mem_at 18 rfl | exact mem_at 19 rfl | exact mem_at 20 rfl | exact mem_at 21 rfl) rfl ?_)))) ?_
          · rw [pySl_upto _ (by first | decide | assumption | with_reducible exact Int.natCast_nonneg _ | with_reducible exact Nat.le_trans (by assumption) (by decide) | with_reducible exact Nat.lt_of_lt_of_le (by assumption) (by decide) | with_reducible exact lt_mil (Nat.lt_of_lt_of_le (by assumption) (by decide)) | with_reducible exact lt_mil (Nat.lt_of_le_of_lt (by assumption) (by decide)) | with_reducible exact Nat.le_trans (Nat.le_of_lt (by assumption)) (by decide) | (first | lia | omega)), pySl_from _ (by first | decide | assumption | with_reducible exact Int.natCast_nonneg _ | with_reducible exact Nat.le_trans (by assumption) (by decide) | with_reducible exact Nat.lt_of_lt_of_le (by assumption) (by decide) | with_reducible exact lt_mil (Nat.lt_of_lt_of_le (by assumption) (by decide)) | with_reducible exact lt_mil (Nat.lt_of_le_of_lt (by assumption) (by decide)) | with_reducible exact Nat.le_trans (Nat.le_of_lt (by assumption)) (by decide) | (first | lia | omega))]
            simp; (first | lia | omega)
          · rw [pySl_upto _ (by first | decide | assumption | with_reducible exact Int.natCast_nonneg _ | with_reducible exact Nat.le_trans (by assumption) (by decide) | with_reducible exact Nat.lt_of_lt_of_le (by assumption) (by decide) | with_reducible exact lt_mil (Nat.lt_of_lt_of_le (by assumption) (by decide)) | with_reducible exact lt_mil (Nat.lt_of_le_of_lt (by assumption) (by decide)) | with_reducible exact Nat.le_trans (Nat.le_of_lt (by assumption)) (by decide) | (first | lia | omega)), pySl_from _ (by first | decide | assumption | with_reducible exact Int.natCast_nonneg _ | with_reducible exact Nat.le_trans (by assumption) (by decide) | with_reducible exact Nat.lt_of_lt_of_le (by assumption) (by decide) | with_reducible exact lt_mil (Nat.lt_of_lt_of_le (by assumption) (by decide)) | with_reducible exact lt_mil (Nat.lt_of_le_of_lt (by assumption) (by decide)) | with_reducible exact Nat.le_trans (Nat.le_of_lt (by assumption)) (by decide) | (first | lia | omega)), ← hR1, List.map_append, List.map_take, List.map_drop]
            congr 2
            (first | lia | omega)
          refine ex_cons (ex_assign (Γ' := [(Str.ofString "place", .dat (.int (cntL R1 hg.reverse : Nat))), (Str.ofString "behind", .dat (.int (cntR R lw.reverse : Nat))), (Str.ofString "first", .dat (.int (cntL R lw.reverse : Nat))), (Str.ofString "high", .dat (.str (st hg))), (Str.ofString "low", .dat (.str (st lw))), (Str.ofString "turn", .dat (.int (i : Int))), (Str.ofString "writer", .val (.ref x)), (Str.ofString "deeds", .dat (.list (deeds.map dD))), (Str.ofString "width", .dat (.str (st [48 + sz]))), (Str.ofString "fills", .dat (.list [.str (st [c0]), .str (st [c1]), .str (st [c2])]))]) (ev_def (ev_glob rfl ((I.into _).gl rfl)) (evl_cons (ev_var (b := .lst (R1.map itD)) (by first | exact mem_at 0 rfl | exact mem_at 1 rfl | exact mem_at 2 rfl | exact mem_at 3 rfl | exact mem_at 4 rfl | exact mem_at 5 rfl | exact mem_at 6 rfl | exact mem_at 7 rfl | exact mem_at 8 rfl | exact mem_at 9 rfl | exact mem_at 10 rfl | exact mem_at 11 rfl | exact mem_at 12 rfl | exact mem_at 13 rfl | exact mem_at 14 rfl | exact mem_at 15 rfl | exact mem_at 16 rfl | exact mem_at 17 rfl | exact mem_at 18 rfl | exact mem_at 19 rfl | exact mem_at 20 rfl | exact mem_at 21 rfl)) (evl_cons (ev_slice (ev_var (b := .dat (.str (st hg))) (by first | exact mem_at 0 rfl | exact mem_at 1 rfl | exact mem_at 2 rfl | exact mem_at 3 rfl | exact mem_at 4 rfl | exact mem_at 5 rfl | exact mem_at 6 rfl | exact mem_at 7 rfl | exact mem_at 8 rfl | exact mem_at 9 rfl | exact mem_at 10 rfl | exact mem_at 11 rfl | exact mem_at 12 rfl | exact mem_at 13 rfl | exact mem_at 14 rfl | exact mem_at 15 rfl | exact mem_at 16 rfl | exact mem_at 17 rfl | exact mem_at 18 rfl | exact mem_at 19 rfl | exact mem_at 20 rfl | exact mem_at 21 rfl)) evp_none evp_none (evp_some (ev_neg ev_int)) (sliceR_str_rev (by first | decide | assumption | with_reducible exact Int.natCast_nonneg _ | with_reducible exact Nat.le_trans (by assumption) (by decide) | with_reducible exact Nat.lt_of_lt_of_le (by assumption) (by decide) | with_reducible exact lt_mil (Nat.lt_of_lt_of_le (by assumption) (by decide)) | with_reducible exact lt_mil (Nat.lt_of_le_of_lt (by assumption) (by decide)) | with_reducible exact Nat.le_trans (Nat.le_of_lt (by assumption)) (by decide) | (first | lia | omega)))) evl_nil)) (evkw_cons (ev_glob rfl ((I.into _).gl rfl)) evkw_nil) ((I.into _).at (a := 142) rfl) rfl (bl_key (I.into _) (by show 0 < C.fuel - 1; (first | lia | omega)) (key := kyD) ((I.into _).at (a := 154) rfl) rfl (fun C' hC => row_key ((I.into _).like hC) (fuel_like hC (by first | decide | assumption | with_reducible exact Int.natCast_nonneg _ | with_reducible exact Nat.le_trans (by assumption) (by decide) | with_reducible exact Nat.lt_of_lt_of_le (by assumption) (by decide) | with_reducible exact lt_mil (Nat.lt_of_lt_of_le (by assumption) (by decide)) | with_reducible exact lt_mil (Nat.lt_of_le_of_lt (by assumption) (by decide)) | with_reducible exact Nat.le_trans (Nat.le_of_lt (by assumption)) (by decide) | (first | lia | omega))) hL2) (by simp; (first | lia | omega)) (by simpa using cntL_le _ _) (row_bl hS1))) (by first | exact Or.inl rfl | exact Or.inr ⟨rfl, rfl, rfl⟩) (by intro y ds e; first | (cases e; done) | (cases e; decide)) (Pk.g (by repeat (first | exact Pk.nil | refine Pk.here ?_ | refine Pk.cons (by first | exact mem_at 0 rfl | exact mem_at 1 rfl | exact mem_at 2 rfl | exact mem_at 3 rfl | exact mem_at 4 rfl | exact mem_at 5 rfl | exact mem_at 6 rfl | exact mem_at 7 rfl | exact mem_at 8 rfl | exact mem_at 9 rfl | exact mem_at 10 rfl | exact mem_at 11 rfl | exact mem_at 12 rfl | exact mem_at 13 rfl | exact mem_at 14 rfl | exact mem_at 15 rfl | exact mem_at 16 rfl | exact mem_at 17 rfl | exact mem_at 18 rfl | exact mem_at 19 rfl | exact mem_at 20 rfl | exact mem_at 21 rfl) rfl ?_)))) ?_
          have hpz := cntL_le R1 hg.reverse
          refine ex_cons (ex_assign_own (Γ' := [(Str.ofString "writer", .val (.ref x)), (Str.ofString "deeds", .dat (.list (deeds.map dD))), (Str.ofString "width", .dat (.str (st [48 + sz]))), (Str.ofString "fills", .dat (.list [.str (st [c0]), .str (st [c1]), .str (st [c2])]))]) (evn_eq (evn_add (ev_lst (ev_slice (ev_var (b := .lst (R1.map itD)) (by first | exact mem_at 0 rfl | exact mem_at 1 rfl | exact mem_at 2 rfl | exact mem_at 3 rfl | exact mem_at 4 rfl | exact mem_at 5 rfl | exact mem_at 6 rfl | exact mem_at 7 rfl | exact mem_at 8 rfl | exact mem_at 9 rfl | exact mem_at 10 rfl | exact mem_at 11 rfl | exact mem_at 12 rfl | exact mem_at 13 rfl | exact mem_at 14 rfl | exact mem_at 15 rfl | exact mem_at 16 rfl | exact mem_at 17 rfl | exact mem_at 18 rfl | exact mem_at 19 rfl | exact mem_at 20 rfl | exact mem_at 21 rfl)) evp_none (evp_some (ev_var (by first | exact mem_at 0 rfl | exact mem_at 1 rfl | exact mem_at 2 rfl | exact mem_at 3 rfl | exact mem_at 4 rfl | exact mem_at 5 rfl | exact mem_at 6 rfl | exact mem_at 7 rfl | exact mem_at 8 rfl | exact mem_at 9 rfl | exact mem_at 10 rfl | exact mem_at 11 rfl | exact mem_at 12 rfl | exact mem_at 13 rfl | exact mem_at 14 rfl | exact mem_at 15 rfl | exact mem_at 16 rfl | exact mem_at 17 rfl | exact mem_at 18 rfl | exact mem_at 19 rfl | exact mem_at 20 rfl | exact mem_at 21 rfl))) evp_none (sliceR_list (by simp; (first | lia | omega))))) (ev_lst (ev_slice (ev_var (b := .lst (R1.map itD)) (by first | exact mem_at 0 rfl | exact mem_at 1 rfl | exact mem_at 2 rfl | exact mem_at 3 rfl | exact mem_at 4 rfl | exact mem_at 5 rfl | exact mem_at 6 rfl | exact mem_at 7 rfl | exact mem_at 8 rfl | exact mem_at 9 rfl | exact mem_at 10 rfl | exact mem_at 11 rfl | exact mem_at 12 rfl | exact mem_at 13 rfl | exact mem_at 14 rfl | exact mem_at 15 rfl | exact mem_at 16 rfl | exact mem_at 17 rfl | exact mem_at 18 rfl | exact mem_at 19 rfl | exact mem_at 20 rfl | exact mem_at 21 rfl)) (evp_some (ev_bin (ev_var (by first | exact mem_at 0 rfl | exact mem_at 1 rfl | exact mem_at 2 rfl | exact mem_at 3 rfl | exact mem_at 4 rfl | exact mem_at 5 rfl | exact mem_at 6 rfl | exact mem_at 7 rfl | exact mem_at 8 rfl | exact mem_at 9 rfl | exact mem_at 10 rfl | exact mem_at 11 rfl | exact mem_at 12 rfl | exact mem_at 13 rfl | exact mem_at 14 rfl | exact mem_at 15 rfl | exact mem_at 16 rfl | exact mem_at 17 rfl | exact mem_at 18 rfl | exact mem_at 19 rfl | exact mem_at 20 rfl | exact mem_at 21 rfl)) ev_int binR_add_int)) evp_none evp_none (sliceR_list (by simp; (first | lia | omega))))) ?_) ?_) (by first | exact Or.inl rfl | exact Or.inr ⟨rfl, rfl, rfl⟩) (Pq.g (by repeat (first | exact Pq.nil | refine Pq.cons (by first | exact mem_at 0 rfl | exact mem_at 1 rfl | exact mem_at 2 rfl | exact mem_at 3 rfl | exact mem_at 4 rfl | exact mem_at 5 rfl | exact mem_at 6 rfl | exact mem_at 7 rfl | exact mem_at 8 rfl | exact mem_at 9 rfl | exact mem_at 10 rfl | exact mem_at 11 rfl | exact mem_at 12 rfl | exact mem_at 13 rfl | exact mem_at 14 rfl | exact mem_at 15 rfl | exact mem_at 16 rfl | exact mem_at 17 rfl | exact mem_at 18 rfl | exact mem_at 19 rfl | exact mem_at 20 rfl | exact mem_at 21 rfl) rfl ?_)))) (ex_sub (Sb.g (by repeat (first | exact Sb.nil | refine Sb.cons (by first | exact mem_at 0 rfl | exact mem_at 1 rfl | exact mem_at 2 rfl | exact mem_at 3 rfl | exact mem_at 4 rfl | exact mem_at 5 rfl | exact mem_at 6 rfl | exact mem_at 7 rfl | exact mem_at 8 rfl | exact mem_at 9 rfl | exact mem_at 10 rfl | exact mem_at 11 rfl | exact mem_at 12 rfl | exact mem_at 13 rfl | exact mem_at 14 rfl | exact mem_at 15 rfl | exact mem_at 16 rfl | exact mem_at 17 rfl | exact mem_at 18 rfl | exact mem_at 19 rfl | exact mem_at 20 rfl | exact mem_at 21 rfl) ?_))) ex_nil)
          · rw [pySl_upto _ (by first | decide | assumption | with_reducible exact Int.natCast_nonneg _ | with_reducible exact Nat.le_trans (by assumption) (by decide) | with_reducible exact Nat.lt_of_lt_of_le (by assumption) (by decide) | with_reducible exact lt_mil (Nat.lt_of_lt_of_le (by assumption) (by decide)) | with_reducible exact lt_mil (Nat.lt_of_le_of_lt (by assumption) (by decide)) | with_reducible exact Nat.le_trans (Nat.le_of_lt (by assumption)) (by decide) | (first | lia | omega)), pySl_from _ (by first | decide | assumption | with_reducible exact Int.natCast_nonneg _ | with_reducible exact Nat.le_trans (by assumption) (by decide) | with_reducible exact Nat.lt_of_lt_of_le (by assumption) (by decide) | with_reducible exact lt_mil (Nat.lt_of_lt_of_le (by assumption) (by decide)) | with_reducible exact lt_mil (Nat.lt_of_le_of_lt (by assumption) (by decide)) | with_reducible exact Nat.le_trans (Nat.le_of_lt (by assumption)) (by decide) | (first | lia | omega))]
            simp; (first | lia | omega)
          · rw [pySl_upto _ (by first | decide | assumption | with_reducible exact Int.natCast_nonneg _ | with_reducible exact Nat.le_trans (by assumption) (by decide) | with_reducible exact Nat.lt_of_lt_of_le (by assumption) (by decide) | with_reducible exact lt_mil (Nat.lt_of_lt_of_le (by assumption) (by decide)) | with_reducible exact lt_mil (Nat.lt_of_le_of_lt (by assumption) (by decide)) | with_reducible exact Nat.le_trans (Nat.le_of_lt (by assumption)) (by decide) | (first | lia | omega)), pySl_from _ (by first | decide | assumption | with_reducible exact Int.natCast_nonneg _ | with_reducible exact Nat.le_trans (by assumption) (by decide) | with_reducible exact Nat.lt_of_lt_of_le (by assumption) (by decide) | with_reducible exact lt_mil (Nat.lt_of_lt_of_le (by assumption) (by decide)) | with_reducible exact lt_mil (Nat.lt_of_le_of_lt (by assumption) (by decide)) | with_reducible exact Nat.le_trans (Nat.le_of_lt (by assumption)) (by decide) | (first | lia | omega)), List.map_append, List.map_take, List.map_drop]
            congr 2
        · intro h
          have h : ¬ cntL R lw.reverse < cntR R lw.reverse := by have := of_decide_eq_false h; (first | lia | omega)
          rw [if_neg h]
          exact ex_sub (Sb.g (by repeat (first | exact Sb.nil | refine Sb.cons (by first | exact mem_at 0 rfl | exact mem_at 1 rfl | exact mem_at 2 rfl | exact mem_at 3 rfl | exact mem_at 4 rfl | exact mem_at 5 rfl | exact mem_at 6 rfl | exact mem_at 7 rfl | exact mem_at 8 rfl | exact mem_at 9 rfl | exact mem_at 10 rfl | exact mem_at 11 rfl | exact mem_at 12 rfl | exact mem_at 13 rfl | exact mem_at 14 rfl | exact mem_at 15 rfl | exact mem_at 16 rfl | exact mem_at 17 rfl | exact mem_at 18 rfl | exact mem_at 19 rfl | exact mem_at 20 rfl | exact mem_at 21 rfl) ?_))) ex_nil
end
end Mine

namespace Mine
open PySem PySem.W PyProof.Rows PySem.Calls
set_option maxRecDepth 100000

def leP (w : List Nat) : PyData → Bool
  | .list [.str x, _] => decide (x = st w)
  | _ => false
theorem leP_le (w : List Nat) (e : List Nat × Nat) : leP w (leD e) = decide (e.1 = w) := by
  show decide (st e.1 = st w) = _
  simp [st_inj]
def leN (z : List Nat × Nat) : PyData → Bool
  | .list [.str x, .int k] => !(decide (x = st z.1) && decide (k = z.2))
  | _ => false
theorem leN_le (z e : List Nat × Nat) : leN z (leD e) = decide (e ≠ z) := by
  show (!(decide (st e.1 = st z.1) && decide ((e.2 : Int) = z.2))) = _
  rw [Bool.eq_iff_iff]
  simp only [st_inj, Bool.not_eq_true', Bool.and_eq_false_iff, decide_eq_false_iff_not, decide_eq_true_eq, ne_eq, Prod.ext_iff]
  constructor
  · rintro (h | h) ⟨h1, h2⟩
    · exact h h1
    · exact h (by rw [h2])
  · intro h
    by_cases h1 : e.1 = z.1
    · exact .inr fun h2 => h ⟨h1, by (first | lia | omega)⟩
    · exact .inl h1
theorem filter_le (left : List (List Nat × Nat)) (p : PyData → Bool) (q : List Nat × Nat → Bool) (h : ∀ e, p (leD e) = q e) : ((left.map leD).filter p).map id = (left.filter q).map leD := by
  rw [List.map_id, List.filter_map]
  congr 1
  apply List.filter_congr
  intro e _
  exact h e
theorem leD_inj {a b : List Nat × Nat} : leD a = leD b ↔ a = b := by
  unfold leD
  simp only [PyData.list.injEq, List.cons.injEq, PyData.str.injEq, st_inj, PyData.int.injEq, and_true, Prod.ext_iff]
  constructor <;> rintro ⟨h1, h2⟩ <;> exact ⟨h1, by (first | lia | omega)⟩
theorem pl_le {e : List Nat × Nat} (h : ∀ c ∈ e.1, c < 0x110000) : Pl 1 (leD e) := .list _ fun d hd => by
  rcases List.mem_cons.mp hd with rfl | hd
  · exact .str _ h
  · rcases List.mem_cons.mp hd with rfl | hd
    · exact .int _
    · cases hd
theorem mem_leftStep {left : List (List Nat × Nat)} {k : Nat} {dd e : List Nat × Nat} (h : e ∈ leftStep left k dd) : e ∈ left ∨ e = (dd.1, k) := by
  unfold leftStep at h
  split at h
  · rcases List.mem_append.mp h with h | h
    · exact .inl h
    · exact .inr (by simpa using h)
  · split at h
    · exact .inl (List.mem_filter.mp h).1
    · exact .inl h
theorem leftStep_len {left : List (List Nat × Nat)} {k : Nat} {dd : List Nat × Nat} : (leftStep left k dd).length ≤ left.length + 1 := by
  unfold leftStep
  split
  · simp
  · split
    · have := List.length_filter_le (fun e => decide (e ≠ (by assumption : List Nat × Nat))) left
      rename_i z _
      have := List.length_filter_le (fun e => decide (e ≠ z)) left
      (first | lia | omega)
    · (first | lia | omega)
theorem leftUp_len {deeds : List (List Nat × Nat)} : ∀ k, (leftUp deeds k).length ≤ k
  | 0 => by simp [leftUp]
  | k + 1 => by
    have ih := leftUp_len (deeds := deeds) k
    unfold leftUp
    split
    · rename_i dd _
      have := leftStep_len (left := leftUp deeds k) (k := k) (dd := dd)
      (first | lia | omega)
    · (first | lia | omega)
theorem leftUp_mem {deeds : List (List Nat × Nat)} : ∀ k, ∀ e ∈ leftUp deeds k, e.2 < k ∧ ∃ d ∈ deeds, d.1 = e.1
  | 0, e, h => by cases h
  | k + 1, e, h => by
    unfold leftUp at h
    split at h
    · rename_i dd hd
      rcases mem_leftStep h with h | rfl
      · have := leftUp_mem k e h
        exact ⟨by (first | lia | omega), this.2⟩
      · exact ⟨by show k < k + 1; (first | lia | omega), dd, List.mem_of_getElem? hd, rfl⟩
    · have := leftUp_mem k e h
      exact ⟨by (first | lia | omega), this.2⟩

section
variable {P : Params} {C : Cx}
theorem sp_left (I : Is2 P C) (hf : 0 < C.fuel) {deeds : List (List Nat × Nat)} (hd : ∀ d ∈ deeds, ∀ c ∈ d.1, c < 0x110000) (hz : deeds.length ≤ 100) :
    CallOk C (.ref 166) [.dat (.list (deeds.map dD))] [] [] (.dat (.list ((leftUp deeds deeds.length).map leD))) :=
  callOk_of fun ok W s vs ks S hx hy => by
    obtain ⟨_, rfl, r1⟩ := BAll.inv1 hx
    obtain rfl := BAll.inv0 hy
    refine enter ok (by first | decide | assumption | with_reducible exact Int.natCast_nonneg _ | with_reducible exact Nat.le_trans (by assumption) (by decide) | with_reducible exact Nat.lt_of_lt_of_le (by assumption) (by decide) | with_reducible exact lt_mil (Nat.lt_of_lt_of_le (by assumption) (by decide)) | with_reducible exact lt_mil (Nat.lt_of_le_of_lt (by assumption) (by decide)) | with_reducible exact Nat.le_trans (Nat.le_of_lt (by assumption)) (by decide) | (first | lia | omega)) S (I.lk (a := 166) rfl) (by rw [I.K]; rfl) (binds := [(Str.ofString "deeds", _)]) (kp_binds (K := hd2.heap_39 P) (I.inn S) (fun _ => rfl))
      (.cons r1 .nil) (show [Str.ofString "deeds"].Nodup by decide) rfl fun L => ?_
    refine ex_cons (ex_assign (Γ' := [(Str.ofString "left", .dat (.list (([] : List (List Nat × Nat)).map leD))), (Str.ofString "deeds", .dat (.list (deeds.map dD)))]) (ev_list evd_nil) (by first | exact Or.inl rfl | exact Or.inr ⟨rfl, rfl, rfl⟩) (by intro y ds e; first | (cases e; done) | (cases e; decide)) (Pk.g (by repeat (first | exact Pk.nil | refine Pk.here ?_ | refine Pk.cons (by first | exact mem_at 0 rfl | exact mem_at 1 rfl | exact mem_at 2 rfl | exact mem_at 3 rfl | exact mem_at 4 rfl | exact mem_at 5 rfl | exact mem_at 6 rfl | exact mem_at 7 rfl | exact mem_at 8 rfl | exact mem_at 9 rfl | exact mem_at 10 rfl | exact mem_at 11 rfl | exact mem_at 12 rfl | exact mem_at 13 rfl | exact mem_at 14 rfl | exact mem_at 15 rfl | exact mem_at 16 rfl | exact mem_at 17 rfl | exact mem_at 18 rfl | exact mem_at 19 rfl | exact mem_at 20 rfl | exact mem_at 21 rfl) rfl ?_)))) ?_
    refine ex_cons (Γ₁ := [(Str.ofString "left", .dat (.list ((leftUp deeds deeds.length).map leD))), (Str.ofString "deeds", .dat (.list (deeds.map dD)))]) (own₁ := none) ?_ (ex_one (ex_return (ev_var (by first | exact mem_at 0 rfl | exact mem_at 1 rfl | exact mem_at 2 rfl | exact mem_at 3 rfl | exact mem_at 4 rfl | exact mem_at 5 rfl | exact mem_at 6 rfl | exact mem_at 7 rfl | exact mem_at 8 rfl | exact mem_at 9 rfl | exact mem_at 10 rfl | exact mem_at 11 rfl | exact mem_at 12 rfl | exact mem_at 13 rfl | exact mem_at 14 rfl | exact mem_at 15 rfl | exact mem_at 16 rfl | exact mem_at 17 rfl | exact mem_at 18 rfl | exact mem_at 19 rfl | exact mem_at 20 rfl | exact mem_at 21 rfl))))
    refine ex_for (items := (List.range deeds.length).map fun i : Nat => PyData.int (i : Int)) (fun i => [(Str.ofString "left", .dat (.list ((leftUp deeds i).map leD))), (Str.ofString "deeds", .dat (.list (deeds.map dD)))])
      (fun i => [(Str.ofString "turn", .dat (.int (i : Int))), (Str.ofString "left", .dat (.list ((leftUp deeds i).map leD))), (Str.ofString "deeds", .dat (.list (deeds.map dD)))]) (fun i => none) deeds.length ?_ ?_ ?_ (.inl ⟨by simp, rfl⟩)
    · exact evi_range1 (n := (deeds.length : Int)) (ev_builtin rfl ((I.into _).gl rfl) rfl) (ev_eq (ev_call_bi (ev_builtin rfl ((I.into _).gl rfl) rfl) (evl_cons (ev_lst (ev_var (by first | exact mem_at 0 rfl | exact mem_at 1 rfl | exact mem_at 2 rfl | exact mem_at 3 rfl | exact mem_at 4 rfl | exact mem_at 5 rfl | exact mem_at 6 rfl | exact mem_at 7 rfl | exact mem_at 8 rfl | exact mem_at 9 rfl | exact mem_at 10 rfl | exact mem_at 11 rfl | exact mem_at 12 rfl | exact mem_at 13 rfl | exact mem_at 14 rfl | exact mem_at 15 rfl | exact mem_at 16 rfl | exact mem_at 17 rfl | exact mem_at 18 rfl | exact mem_at 19 rfl | exact mem_at 20 rfl | exact mem_at 21 rfl))) evl_nil) (callOk_len_list (by simp; (first | lia | omega)))) (by simp)) (by first | decide | assumption | with_reducible exact Int.natCast_nonneg _ | with_reducible exact Nat.le_trans (by assumption) (by decide) | with_reducible exact Nat.lt_of_lt_of_le (by assumption) (by decide) | with_reducible exact lt_mil (Nat.lt_of_lt_of_le (by assumption) (by decide)) | with_reducible exact lt_mil (Nat.lt_of_le_of_lt (by assumption) (by decide)) | with_reducible exact Nat.le_trans (Nat.le_of_lt (by assumption)) (by decide) | (first | lia | omega))
    · intro i hi _
      rw [range_at hi]
      exact asg_name (by first | exact Or.inl rfl | exact Or.inr ⟨rfl, rfl, rfl⟩) (by intro y ds e; first | (cases e; done) | (cases e; decide)) (Pk.g (by repeat (first | exact Pk.nil | refine Pk.here ?_ | refine Pk.cons (by first | exact mem_at 0 rfl | exact mem_at 1 rfl | exact mem_at 2 rfl | exact mem_at 3 rfl | exact mem_at 4 rfl | exact mem_at 5 rfl | exact mem_at 6 rfl | exact mem_at 7 rfl | exact mem_at 8 rfl | exact mem_at 9 rfl | exact mem_at 10 rfl | exact mem_at 11 rfl | exact mem_at 12 rfl | exact mem_at 13 rfl | exact mem_at 14 rfl | exact mem_at 15 rfl | exact mem_at 16 rfl | exact mem_at 17 rfl | exact mem_at 18 rfl | exact mem_at 19 rfl | exact mem_at 20 rfl | exact mem_at 21 rfl) rfl ?_)))
    · intro i hi _
      rw [List.length_map, List.length_range] at hi
      obtain ⟨d, hdi⟩ : ∃ d, deeds[i]? = some d := ⟨_, List.getElem?_eq_getElem hi⟩
      have hdc := hd _ (List.mem_of_getElem? hdi)
      have hup : leftUp deeds (i + 1) = leftStep (leftUp deeds i) i d := by rw [leftUp, hdi]
      have hAz := leftUp_len (deeds := deeds) i
      have hAc : ∀ e ∈ leftUp deeds i, ∀ c ∈ e.1, c < 0x110000 := fun e he => by
        obtain ⟨_, d', hd', e'⟩ := leftUp_mem i e he
        rw [← e']; exact hd d' hd'
      simp only [hup]
      generalize leftUp deeds i = A at hAz hAc ⊢
      unfold leftStep
      refine ex_cons (ex_unpack (Γ' := [(Str.ofString "end", .dat (.str (st d.1))), (Str.ofString "deed", .dat (.int (d.2 : Int))), (Str.ofString "turn", .dat (.int (i : Int))), (Str.ofString "left", .dat (.list (A.map leD))), (Str.ofString "deeds", .dat (.list (deeds.map dD)))]) (ev_item (ev_lst (ev_var (by first | exact mem_at 0 rfl | exact mem_at 1 rfl | exact mem_at 2 rfl | exact mem_at 3 rfl | exact mem_at 4 rfl | exact mem_at 5 rfl | exact mem_at 6 rfl | exact mem_at 7 rfl | exact mem_at 8 rfl | exact mem_at 9 rfl | exact mem_at 10 rfl | exact mem_at 11 rfl | exact mem_at 12 rfl | exact mem_at 13 rfl | exact mem_at 14 rfl | exact mem_at 15 rfl | exact mem_at 16 rfl | exact mem_at 17 rfl | exact mem_at 18 rfl | exact mem_at 19 rfl | exact mem_at 20 rfl | exact mem_at 21 rfl))) (ev_var (by first | exact mem_at 0 rfl | exact mem_at 1 rfl | exact mem_at 2 rfl | exact mem_at 3 rfl | exact mem_at 4 rfl | exact mem_at 5 rfl | exact mem_at 6 rfl | exact mem_at 7 rfl | exact mem_at 8 rfl | exact mem_at 9 rfl | exact mem_at 10 rfl | exact mem_at 11 rfl | exact mem_at 12 rfl | exact mem_at 13 rfl | exact mem_at 14 rfl | exact mem_at 15 rfl | exact mem_at 16 rfl | exact mem_at 17 rfl | exact mem_at 18 rfl | exact mem_at 19 rfl | exact mem_at 20 rfl | exact mem_at 21 rfl)) (getR_list (d := dD d) (by first | decide | assumption | with_reducible exact Int.natCast_nonneg _ | with_reducible exact Nat.le_trans (by assumption) (by decide) | with_reducible exact Nat.lt_of_lt_of_le (by assumption) (by decide) | with_reducible exact lt_mil (Nat.lt_of_lt_of_le (by assumption) (by decide)) | with_reducible exact lt_mil (Nat.lt_of_le_of_lt (by assumption) (by decide)) | with_reducible exact Nat.le_trans (Nat.le_of_lt (by assumption)) (by decide) | (first | lia | omega)) (by rw [Int.toNat_natCast, List.getElem?_map, hdi]; rfl) (by first | decide | assumption | with_reducible exact Int.natCast_nonneg _ | with_reducible exact Nat.le_trans (by assumption) (by decide) | with_reducible exact Nat.lt_of_lt_of_le (by assumption) (by decide) | with_reducible exact lt_mil (Nat.lt_of_lt_of_le (by assumption) (by decide)) | with_reducible exact lt_mil (Nat.lt_of_le_of_lt (by assumption) (by decide)) | with_reducible exact Nat.le_trans (Nat.le_of_lt (by assumption)) (by decide) | (first | lia | omega)))) (asg_tuple (by first | exact names2 | exact names3) rfl (asgAll_cons (Γ₁ := [(Str.ofString "end", .dat (.str (st d.1))), (Str.ofString "turn", .dat (.int (i : Int))), (Str.ofString "left", .dat (.list (A.map leD))), (Str.ofString "deeds", .dat (.list (deeds.map dD)))]) (asg_name (by first | exact Or.inl rfl | exact Or.inr ⟨rfl, rfl, rfl⟩) (by intro y ds e; first | (cases e; done) | (cases e; decide)) (Pk.g (by repeat (first | exact Pk.nil | refine Pk.here ?_ | refine Pk.cons (by first | exact mem_at 0 rfl | exact mem_at 1 rfl | exact mem_at 2 rfl | exact mem_at 3 rfl | exact mem_at 4 rfl | exact mem_at 5 rfl | exact mem_at 6 rfl | exact mem_at 7 rfl | exact mem_at 8 rfl | exact mem_at 9 rfl | exact mem_at 10 rfl | exact mem_at 11 rfl | exact mem_at 12 rfl | exact mem_at 13 rfl | exact mem_at 14 rfl | exact mem_at 15 rfl | exact mem_at 16 rfl | exact mem_at 17 rfl | exact mem_at 18 rfl | exact mem_at 19 rfl | exact mem_at 20 rfl | exact mem_at 21 rfl) rfl ?_)))) (asgAll_cons (asg_name (by first | exact Or.inl rfl | exact Or.inr ⟨rfl, rfl, rfl⟩) (by intro y ds e; first | (cases e; done) | (cases e; decide)) (Pk.g (by repeat (first | exact Pk.nil | refine Pk.here ?_ | refine Pk.cons (by first | exact mem_at 0 rfl | exact mem_at 1 rfl | exact mem_at 2 rfl | exact mem_at 3 rfl | exact mem_at 4 rfl | exact mem_at 5 rfl | exact mem_at 6 rfl | exact mem_at 7 rfl | exact mem_at 8 rfl | exact mem_at 9 rfl | exact mem_at 10 rfl | exact mem_at 11 rfl | exact mem_at 12 rfl | exact mem_at 13 rfl | exact mem_at 14 rfl | exact mem_at 15 rfl | exact mem_at 16 rfl | exact mem_at 17 rfl | exact mem_at 18 rfl | exact mem_at 19 rfl | exact mem_at 20 rfl | exact mem_at 21 rfl) rfl ?_)))) asgAll_nil)))) ?_
      refine ex_cons (ex_assign (Γ' := [(Str.ofString "like", .dat (.list ((A.filter fun e => decide (e.1 = d.1)).map leD))), (Str.ofString "end", .dat (.str (st d.1))), (Str.ofString "deed", .dat (.int (d.2 : Int))), (Str.ofString "turn", .dat (.int (i : Int))), (Str.ofString "left", .dat (.list (A.map leD))), (Str.ofString "deeds", .dat (.list (deeds.map dD)))]) (ev_eq (ev_comp (cl := [(Str.ofString "end", L + 1)]) (Γc := [(Str.ofString "end", .dat (.str (st d.1)))]) (leP d.1) id rfl (lookup_sub (by intro p hp; repeat (first | (rcases List.mem_cons.mp hp with rfl | hp; exact rfl) | cases hp))) (evi_list (ev_var (by first | exact mem_at 0 rfl | exact mem_at 1 rfl | exact mem_at 2 rfl | exact mem_at 3 rfl | exact mem_at 4 rfl | exact mem_at 5 rfl | exact mem_at 6 rfl | exact mem_at 7 rfl | exact mem_at 8 rfl | exact mem_at 9 rfl | exact mem_at 10 rfl | exact mem_at 11 rfl | exact mem_at 12 rfl | exact mem_at 13 rfl | exact mem_at 14 rfl | exact mem_at 15 rfl | exact mem_at 16 rfl | exact mem_at 17 rfl | exact mem_at 18 rfl | exact mem_at 19 rfl | exact mem_at 20 rfl | exact mem_at 21 rfl))) (by simp; (first | lia | omega)) (by intro q hq; repeat (first | (rcases List.mem_cons.mp hq with rfl | hq; exact ⟨(by first | exact mem_at 0 rfl | exact mem_at 1 rfl | exact mem_at 2 rfl | exact mem_at 3 rfl | exact mem_at 4 rfl | exact mem_at 5 rfl | exact mem_at 6 rfl | exact mem_at 7 rfl | exact mem_at 8 rfl | exact mem_at 9 rfl | exact mem_at 10 rfl | exact mem_at 11 rfl | exact mem_at 12 rfl | exact mem_at 13 rfl | exact mem_at 14 rfl | exact mem_at 15 rfl | exact mem_at 16 rfl | exact mem_at 17 rfl | exact mem_at 18 rfl | exact mem_at 19 rfl | exact mem_at 20 rfl | exact mem_at 21 rfl), show (some NameKind.cell : Option NameKind) ≠ some .local by decide, by first | exact Or.inl rfl | exact Or.inr ⟨rfl, rfl⟩, rfl⟩) | cases hq)) ?_) (by rw [filter_le _ _ _ (leP_le d.1)])) (by first | exact Or.inl rfl | exact Or.inr ⟨rfl, rfl, rfl⟩) (by intro y ds e; first | (cases e; done) | (cases e; decide)) (Pk.g (by repeat (first | exact Pk.nil | refine Pk.here ?_ | refine Pk.cons (by first | exact mem_at 0 rfl | exact mem_at 1 rfl | exact mem_at 2 rfl | exact mem_at 3 rfl | exact mem_at 4 rfl | exact mem_at 5 rfl | exact mem_at 6 rfl | exact mem_at 7 rfl | exact mem_at 8 rfl | exact mem_at 9 rfl | exact mem_at 10 rfl | exact mem_at 11 rfl | exact mem_at 12 rfl | exact mem_at 13 rfl | exact mem_at 14 rfl | exact mem_at 15 rfl | exact mem_at 16 rfl | exact mem_at 17 rfl | exact mem_at 18 rfl | exact mem_at 19 rfl | exact mem_at 20 rfl | exact mem_at 21 rfl) rfl ?_)))) ?_
      · intro L' e he
        obtain ⟨e, he', rfl⟩ := List.mem_map.mp he
        refine ⟨[(Str.ofString "one", .dat (leD e)), (Str.ofString "end", .dat (.str (st d.1)))], asg_name (by first | exact Or.inl rfl | exact Or.inr ⟨rfl, rfl, rfl⟩) (by intro y ds e; first | (cases e; done) | (cases e; decide)) (Pk.g (by repeat (first | exact Pk.nil | refine Pk.here ?_ | refine Pk.cons (by first | exact mem_at 0 rfl | exact mem_at 1 rfl | exact mem_at 2 rfl | exact mem_at 3 rfl | exact mem_at 4 rfl | exact mem_at 5 rfl | exact mem_at 6 rfl | exact mem_at 7 rfl | exact mem_at 8 rfl | exact mem_at 9 rfl | exact mem_at 10 rfl | exact mem_at 11 rfl | exact mem_at 12 rfl | exact mem_at 13 rfl | exact mem_at 14 rfl | exact mem_at 15 rfl | exact mem_at 16 rfl | exact mem_at 17 rfl | exact mem_at 18 rfl | exact mem_at 19 rfl | exact mem_at 20 rfl | exact mem_at 21 rfl) rfl ?_))), evts_one (et_eq (et_cmp (ev_item (ev_lst (ev_var (by first | exact mem_at 0 rfl | exact mem_at 1 rfl | exact mem_at 2 rfl | exact mem_at 3 rfl | exact mem_at 4 rfl | exact mem_at 5 rfl | exact mem_at 6 rfl | exact mem_at 7 rfl | exact mem_at 8 rfl | exact mem_at 9 rfl | exact mem_at 10 rfl | exact mem_at 11 rfl | exact mem_at 12 rfl | exact mem_at 13 rfl | exact mem_at 14 rfl | exact mem_at 15 rfl | exact mem_at 16 rfl | exact mem_at 17 rfl | exact mem_at 18 rfl | exact mem_at 19 rfl | exact mem_at 20 rfl | exact mem_at 21 rfl))) ev_int (getR_list (d := .str (st e.1)) (by first | decide | assumption | with_reducible exact Int.natCast_nonneg _ | with_reducible exact Nat.le_trans (by assumption) (by decide) | with_reducible exact Nat.lt_of_lt_of_le (by assumption) (by decide) | with_reducible exact lt_mil (Nat.lt_of_lt_of_le (by assumption) (by decide)) | with_reducible exact lt_mil (Nat.lt_of_le_of_lt (by assumption) (by decide)) | with_reducible exact Nat.le_trans (Nat.le_of_lt (by assumption)) (by decide) | (first | lia | omega)) rfl (by first | decide | assumption | with_reducible exact Int.natCast_nonneg _ | with_reducible exact Nat.le_trans (by assumption) (by decide) | with_reducible exact Nat.lt_of_lt_of_le (by assumption) (by decide) | with_reducible exact lt_mil (Nat.lt_of_lt_of_le (by assumption) (by decide)) | with_reducible exact lt_mil (Nat.lt_of_le_of_lt (by assumption) (by decide)) | with_reducible exact Nat.le_trans (Nat.le_of_lt (by assumption)) (by decide) | (first | lia | omega)))) (ev_var (by first | exact mem_at 0 rfl | exact mem_at 1 rfl | exact mem_at 2 rfl | exact mem_at 3 rfl | exact mem_at 4 rfl | exact mem_at 5 rfl | exact mem_at 6 rfl | exact mem_at 7 rfl | exact mem_at 8 rfl | exact mem_at 9 rfl | exact mem_at 10 rfl | exact mem_at 11 rfl | exact mem_at 12 rfl | exact mem_at 13 rfl | exact mem_at 14 rfl | exact mem_at 15 rfl | exact mem_at 16 rfl | exact mem_at 17 rfl | exact mem_at 18 rfl | exact mem_at 19 rfl | exact mem_at 20 rfl | exact mem_at 21 rfl)) cmpR_eq_str) (leP_le _ _).symm), fun _ => ev_var (by first | exact mem_at 0 rfl | exact mem_at 1 rfl | exact mem_at 2 rfl | exact mem_at 3 rfl | exact mem_at 4 rfl | exact mem_at 5 rfl | exact mem_at 6 rfl | exact mem_at 7 rfl | exact mem_at 8 rfl | exact mem_at 9 rfl | exact mem_at 10 rfl | exact mem_at 11 rfl | exact mem_at 12 rfl | exact mem_at 13 rfl | exact mem_at 14 rfl | exact mem_at 15 rfl | exact mem_at 16 rfl | exact mem_at 17 rfl | exact mem_at 18 rfl | exact mem_at 19 rfl | exact mem_at 20 rfl | exact mem_at 21 rfl)⟩
      refine ex_one (ex_if (et_cmp (ev_var (by first | exact mem_at 0 rfl | exact mem_at 1 rfl | exact mem_at 2 rfl | exact mem_at 3 rfl | exact mem_at 4 rfl | exact mem_at 5 rfl | exact mem_at 6 rfl | exact mem_at 7 rfl | exact mem_at 8 rfl | exact mem_at 9 rfl | exact mem_at 10 rfl | exact mem_at 11 rfl | exact mem_at 12 rfl | exact mem_at 13 rfl | exact mem_at 14 rfl | exact mem_at 15 rfl | exact mem_at 16 rfl | exact mem_at 17 rfl | exact mem_at 18 rfl | exact mem_at 19 rfl | exact mem_at 20 rfl | exact mem_at 21 rfl)) ev_int cmpR_ne_int) ?_ ?_)
      · intro h
        have h : d.2 ≠ 2 := by have := of_decide_eq_true h; (first | lia | omega)
        rw [if_pos h]
        refine ex_one (ex_assign (Γ' := [(Str.ofString "left", .dat (.list ((A ++ [(d.1, i)]).map leD))), (Str.ofString "deeds", .dat (.list (deeds.map dD)))]) (ev_eq (b := .dat (.list ((A ++ [(d.1, i)]).map leD))) (ev_bin (ev_lst (ev_var (by first | exact mem_at 0 rfl | exact mem_at 1 rfl | exact mem_at 2 rfl | exact mem_at 3 rfl | exact mem_at 4 rfl | exact mem_at 5 rfl | exact mem_at 6 rfl | exact mem_at 7 rfl | exact mem_at 8 rfl | exact mem_at 9 rfl | exact mem_at 10 rfl | exact mem_at 11 rfl | exact mem_at 12 rfl | exact mem_at 13 rfl | exact mem_at 14 rfl | exact mem_at 15 rfl | exact mem_at 16 rfl | exact mem_at 17 rfl | exact mem_at 18 rfl | exact mem_at 19 rfl | exact mem_at 20 rfl | exact mem_at 21 rfl))) (ev_lst (ev_list (ds := [leD (d.1, i)]) (evd_cons (ev_list (ds := [.str (st d.1), .int (i : Int)]) (evd_cons (ev_var (by first | exact mem_at 0 rfl | exact mem_at 1 rfl | exact mem_at 2 rfl | exact mem_at 3 rfl | exact mem_at 4 rfl | exact mem_at 5 rfl | exact mem_at 6 rfl | exact mem_at 7 rfl | exact mem_at 8 rfl | exact mem_at 9 rfl | exact mem_at 10 rfl | exact mem_at 11 rfl | exact mem_at 12 rfl | exact mem_at 13 rfl | exact mem_at 14 rfl | exact mem_at 15 rfl | exact mem_at 16 rfl | exact mem_at 17 rfl | exact mem_at 18 rfl | exact mem_at 19 rfl | exact mem_at 20 rfl | exact mem_at 21 rfl)) (evd_cons (ev_var (by first | exact mem_at 0 rfl | exact mem_at 1 rfl | exact mem_at 2 rfl | exact mem_at 3 rfl | exact mem_at 4 rfl | exact mem_at 5 rfl | exact mem_at 6 rfl | exact mem_at 7 rfl | exact mem_at 8 rfl | exact mem_at 9 rfl | exact mem_at 10 rfl | exact mem_at 11 rfl | exact mem_at 12 rfl | exact mem_at 13 rfl | exact mem_at 14 rfl | exact mem_at 15 rfl | exact mem_at 16 rfl | exact mem_at 17 rfl | exact mem_at 18 rfl | exact mem_at 19 rfl | exact mem_at 20 rfl | exact mem_at 21 rfl)) evd_nil))) evd_nil))) (binR_add_list (by simp; (first | lia | omega)))) (by rw [List.map_append]; rfl)) (by first | exact Or.inl rfl | exact Or.inr ⟨rfl, rfl, rfl⟩) (by intro y ds e; first | (cases e; done) | (cases e; decide)) (Pk.g (by repeat (first | exact Pk.nil | refine Pk.here ?_ | refine Pk.cons (by first | exact mem_at 0 rfl | exact mem_at 1 rfl | exact mem_at 2 rfl | exact mem_at 3 rfl | exact mem_at 4 rfl | exact mem_at 5 rfl | exact mem_at 6 rfl | exact mem_at 7 rfl | exact mem_at 8 rfl | exact mem_at 9 rfl | exact mem_at 10 rfl | exact mem_at 11 rfl | exact mem_at 12 rfl | exact mem_at 13 rfl | exact mem_at 14 rfl | exact mem_at 15 rfl | exact mem_at 16 rfl | exact mem_at 17 rfl | exact mem_at 18 rfl | exact mem_at 19 rfl | exact mem_at 20 rfl | exact mem_at 21 rfl) rfl ?_))))
      · intro h
        have h : ¬ d.2 ≠ 2 := by have := of_decide_eq_false h; (first | lia | omega)
        rw [if_neg h]
        have hFz : (A.filter fun e => decide (e.1 = d.1)).length ≤ 100 := Nat.le_trans (List.length_filter_le _ _) (by first | decide | assumption | with_reducible exact Int.natCast_nonneg _ | with_reducible exact Nat.le_trans (by assumption) (by decide) | with_reducible exact Nat.lt_of_lt_of_le (by assumption) (by decide) | with_reducible exact lt_mil (Nat.lt_of_lt_of_le (by assumption) (by decide)) | with_reducible exact lt_mil (Nat.lt_of_le_of_lt (by assumption) (by decide)) | with_reducible exact Nat.le_trans (Nat.le_of_lt (by assumption)) (by decide) | (first | lia | omega))
        have hFm : ∀ e ∈ A.filter fun e => decide (e.1 = d.1), e ∈ A := fun e he => (List.mem_filter.mp he).1
        generalize (A.filter fun e => decide (e.1 = d.1)) = B at hFz hFm ⊢
        refine ex_one (ex_if (c := !B.isEmpty) (et_cmp (ev_var (by first | exact mem_at 0 rfl | exact mem_at 1 rfl | exact mem_at 2 rfl | exact mem_at 3 rfl | exact mem_at 4 rfl | exact mem_at 5 rfl | exact mem_at 6 rfl | exact mem_at 7 rfl | exact mem_at 8 rfl | exact mem_at 9 rfl | exact mem_at 10 rfl | exact mem_at 11 rfl | exact mem_at 12 rfl | exact mem_at 13 rfl | exact mem_at 14 rfl | exact mem_at 15 rfl | exact mem_at 16 rfl | exact mem_at 17 rfl | exact mem_at 18 rfl | exact mem_at 19 rfl | exact mem_at 20 rfl | exact mem_at 21 rfl)) (ev_list evd_nil) (cmpR_ne_pl (n := 2) (m := 1) (.list _ fun x hx => by
            obtain ⟨e, he, rfl⟩ := List.mem_map.mp hx
            exact pl_le (hAc e (hFm e he))) (.list _ (fun x hx => by cases hx)) (by cases B <;> simp))) ?_ ?_)
        · intro h
          obtain ⟨z, hz'⟩ : ∃ z, B.getLast? = some z := by
            cases B with
            | nil => cases h
            | cons b r => exact ⟨_, List.getLast?_eq_some_getLast (by simp)⟩
          rw [hz']
          dsimp only
          have hzc := hAc z (hFm z (List.mem_of_getLast? hz'))
          refine ex_one ?_
          refine ex_assign_comp (cl := [(Str.ofString "like", L + 2)]) (Γc := [(Str.ofString "like", .dat (.list (B.map leD)))]) (leN z) id (by rfl) rfl (lookup_sub (by intro p hp; repeat (first | (rcases List.mem_cons.mp hp with rfl | hp; exact rfl) | cases hp))) (evi_list (ev_var (by first | exact mem_at 0 rfl | exact mem_at 1 rfl | exact mem_at 2 rfl | exact mem_at 3 rfl | exact mem_at 4 rfl | exact mem_at 5 rfl | exact mem_at 6 rfl | exact mem_at 7 rfl | exact mem_at 8 rfl | exact mem_at 9 rfl | exact mem_at 10 rfl | exact mem_at 11 rfl | exact mem_at 12 rfl | exact mem_at 13 rfl | exact mem_at 14 rfl | exact mem_at 15 rfl | exact mem_at 16 rfl | exact mem_at 17 rfl | exact mem_at 18 rfl | exact mem_at 19 rfl | exact mem_at 20 rfl | exact mem_at 21 rfl))) (by simp; (first | lia | omega)) (by intro q hq; repeat (first | (rcases List.mem_cons.mp hq with rfl | hq; exact ⟨(by first | exact mem_at 0 rfl | exact mem_at 1 rfl | exact mem_at 2 rfl | exact mem_at 3 rfl | exact mem_at 4 rfl | exact mem_at 5 rfl | exact mem_at 6 rfl | exact mem_at 7 rfl | exact mem_at 8 rfl | exact mem_at 9 rfl | exact mem_at 10 rfl | exact mem_at 11 rfl | exact mem_at 12 rfl | exact mem_at 13 rfl | exact mem_at 14 rfl | exact mem_at 15 rfl | exact mem_at 16 rfl | exact mem_at 17 rfl | exact mem_at 18 rfl | exact mem_at 19 rfl | exact mem_at 20 rfl | exact mem_at 21 rfl), show (some NameKind.cell : Option NameKind) ≠ some .local by decide, by first | exact Or.inl rfl | exact Or.inr ⟨rfl, rfl⟩, rfl⟩) | cases hq)) ?_ (by first | exact Or.inl rfl | exact Or.inr ⟨rfl, rfl, rfl⟩) (by intro y ds e; first | (cases e; done) | (cases e; decide)) (by rw [filter_le _ _ _ (leN_le z)]; exact (Pk.g (by repeat (first | exact Pk.nil | refine Pk.here ?_ | refine Pk.cons (by first | exact mem_at 0 rfl | exact mem_at 1 rfl | exact mem_at 2 rfl | exact mem_at 3 rfl | exact mem_at 4 rfl | exact mem_at 5 rfl | exact mem_at 6 rfl | exact mem_at 7 rfl | exact mem_at 8 rfl | exact mem_at 9 rfl | exact mem_at 10 rfl | exact mem_at 11 rfl | exact mem_at 12 rfl | exact mem_at 13 rfl | exact mem_at 14 rfl | exact mem_at 15 rfl | exact mem_at 16 rfl | exact mem_at 17 rfl | exact mem_at 18 rfl | exact mem_at 19 rfl | exact mem_at 20 rfl | exact mem_at 21 rfl) rfl ?_))))
          intro L' e he
          obtain ⟨e, he', rfl⟩ := List.mem_map.mp he
          refine ⟨[(Str.ofString "one", .dat (leD e)), (Str.ofString "like", .dat (.list (B.map leD)))], asg_name (by first | exact Or.inl rfl | exact Or.inr ⟨rfl, rfl, rfl⟩) (by intro y ds e; first | (cases e; done) | (cases e; decide)) (Pk.g (by repeat (first | exact Pk.nil | refine Pk.here ?_ | refine Pk.cons (by first | exact mem_at 0 rfl | exact mem_at 1 rfl | exact mem_at 2 rfl | exact mem_at 3 rfl | exact mem_at 4 rfl | exact mem_at 5 rfl | exact mem_at 6 rfl | exact mem_at 7 rfl | exact mem_at 8 rfl | exact mem_at 9 rfl | exact mem_at 10 rfl | exact mem_at 11 rfl | exact mem_at 12 rfl | exact mem_at 13 rfl | exact mem_at 14 rfl | exact mem_at 15 rfl | exact mem_at 16 rfl | exact mem_at 17 rfl | exact mem_at 18 rfl | exact mem_at 19 rfl | exact mem_at 20 rfl | exact mem_at 21 rfl) rfl ?_))), evts_one (et_cmp (ev_var (by first | exact mem_at 0 rfl | exact mem_at 1 rfl | exact mem_at 2 rfl | exact mem_at 3 rfl | exact mem_at 4 rfl | exact mem_at 5 rfl | exact mem_at 6 rfl | exact mem_at 7 rfl | exact mem_at 8 rfl | exact mem_at 9 rfl | exact mem_at 10 rfl | exact mem_at 11 rfl | exact mem_at 12 rfl | exact mem_at 13 rfl | exact mem_at 14 rfl | exact mem_at 15 rfl | exact mem_at 16 rfl | exact mem_at 17 rfl | exact mem_at 18 rfl | exact mem_at 19 rfl | exact mem_at 20 rfl | exact mem_at 21 rfl)) (ev_item (ev_lst (ev_var (by first | exact mem_at 0 rfl | exact mem_at 1 rfl | exact mem_at 2 rfl | exact mem_at 3 rfl | exact mem_at 4 rfl | exact mem_at 5 rfl | exact mem_at 6 rfl | exact mem_at 7 rfl | exact mem_at 8 rfl | exact mem_at 9 rfl | exact mem_at 10 rfl | exact mem_at 11 rfl | exact mem_at 12 rfl | exact mem_at 13 rfl | exact mem_at 14 rfl | exact mem_at 15 rfl | exact mem_at 16 rfl | exact mem_at 17 rfl | exact mem_at 18 rfl | exact mem_at 19 rfl | exact mem_at 20 rfl | exact mem_at 21 rfl))) (ev_neg ev_int) (getR_list_last (d := leD z) (by rw [List.getLast?_map, hz']; rfl) (by simp; (first | lia | omega)))) (cmpR_ne_pl (pl_le (hAc e he')) (pl_le hzc) (by rw [leN_le, decide_eq_true_iff, ne_eq, ne_eq, leD_inj]))), fun _ => ev_var (by first | exact mem_at 0 rfl | exact mem_at 1 rfl | exact mem_at 2 rfl | exact mem_at 3 rfl | exact mem_at 4 rfl | exact mem_at 5 rfl | exact mem_at 6 rfl | exact mem_at 7 rfl | exact mem_at 8 rfl | exact mem_at 9 rfl | exact mem_at 10 rfl | exact mem_at 11 rfl | exact mem_at 12 rfl | exact mem_at 13 rfl | exact mem_at 14 rfl | exact mem_at 15 rfl | exact mem_at 16 rfl | exact mem_at 17 rfl | exact mem_at 18 rfl | exact mem_at 19 rfl | exact mem_at 20 rfl | exact mem_at 21 rfl)⟩
        · intro h
          have hB : B = [] := by cases B with
            | nil => rfl
            | cons b r => cases h
          subst hB
          exact ex_sub (Sb.g (by repeat (first | exact Sb.nil | refine Sb.cons (by first | exact mem_at 0 rfl | exact mem_at 1 rfl | exact mem_at 2 rfl | exact mem_at 3 rfl | exact mem_at 4 rfl | exact mem_at 5 rfl | exact mem_at 6 rfl | exact mem_at 7 rfl | exact mem_at 8 rfl | exact mem_at 9 rfl | exact mem_at 10 rfl | exact mem_at 11 rfl | exact mem_at 12 rfl | exact mem_at 13 rfl | exact mem_at 14 rfl | exact mem_at 15 rfl | exact mem_at 16 rfl | exact mem_at 17 rfl | exact mem_at 18 rfl | exact mem_at 19 rfl | exact mem_at 20 rfl | exact mem_at 21 rfl) ?_))) ex_nil
end
end Mine

namespace Mine
open PySem PySem.W PyProof.Rows PySem.Calls
set_option maxRecDepth 100000

def pileUp (row : List It) : Nat → List Nat
  | 0 => []
  | i + 1 => match row[i]? with
    | some e => if e.2.1 = 0 then pileUp row i ++ [e.1] else (pileUp row i).dropLast
    | none => pileUp row i
theorem pileUp_len {row : List It} : ∀ k, (pileUp row k).length ≤ k
  | 0 => by simp [pileUp]
  | k + 1 => by
    have ih := pileUp_len (row := row) k
    unfold pileUp
    split
    · split
      · simp; (first | lia | omega)
      · simp; (first | lia | omega)
    · (first | lia | omega)
def topOf (p : List Nat) : Int := match p.getLast? with
  | some t => (t : Int)
  | none => -1
def nat2 (p : List Nat) : List PyData := p.map fun t : Nat => PyData.int (t : Int)
def depthsOf (row : List It) (n : Nat) : List Int := (List.range n).map fun i => ((pileUp row i).length : Int)
def topsOf (row : List It) (n : Nat) : List Int := (List.range n).map fun i => topOf (pileUp row i)
structure NestAt (deeds : List (List Nat × Nat)) (sz c0 c1 : Nat) (row : List It) (i : Nat) (e : It) (d : List Nat × Nat) : Prop where
  deed : deeds[e.1]? = some d
  len : d.1.length ≤ sz
  side : (e.2.1 = 0 ∧ e.2.2 = lowOf sz c0 d.1) ∨ (e.2.1 = 1 ∧ (pileUp row i).getLast? = some e.1 ∧ e.2.2 = lowOf sz c1 d.1)
def NestOk (deeds : List (List Nat × Nat)) (sz c0 c1 : Nat) (row : List It) : Prop := ∀ i e, row[i]? = some e → ∃ d, NestAt deeds sz c0 c1 row i e d
theorem flatten_rep (n c : Nat) : (List.replicate n [c]).flatten = List.replicate n c := by
  induction n with
  | zero => rfl
  | succ n ih => rw [List.replicate_succ, List.flatten_cons, ih]; rfl
theorem nat2_top (p : List Nat) : (.int (-1) :: nat2 p).getLast? = some (.int (topOf p)) := by
  unfold topOf nat2
  rw [List.getLast?_cons, List.getLast?_map]
  cases p.getLast? <;> rfl
theorem map_items (row : List It) {i : Nat} (h : i < (row.map itD).length) : ∃ e, row[i]? = some e ∧ (row.map itD)[i] = itD e := by
  rw [List.length_map] at h
  exact ⟨row[i], List.getElem?_eq_getElem h, by simp⟩

section
variable {P : Params} {C : Cx}
theorem sp_nest (I : Is2 P C) (hf : 0 < C.fuel) {deeds : List (List Nat × Nat)} {row : List It} {sz c0 c1 c2 : Nat} (hN : NestOk deeds sz c0 c1 row) (hz : row.length ≤ 200) (hdz : deeds.length ≤ 100) (h7 : sz ≤ 7) (hc : ∀ e ∈ row, e.1 < 1000) :
    CallOk C (.ref 173) [.dat (.list (row.map itD)), .dat (.list (deeds.map dD)), .dat (.int (sz : Int)), .dat (.list [.str (st [c0]), .str (st [c1]), .str (st [c2])])] [] [] (.dat (.tuple [.list ((depthsOf row (row.length + 1)).map .int), .list ((topsOf row (row.length + 1)).map .int)])) :=
  callOk_of fun ok W s vs ks S hx hy => by
    obtain ⟨_, _, _, _, rfl, r1, r2, r3, r4⟩ := BAll.inv4 hx
    obtain rfl := BAll.inv0 hy
    refine enter ok (by first | decide | assumption | with_reducible exact Int.natCast_nonneg _ | with_reducible exact Nat.le_trans (by assumption) (by decide) | with_reducible exact Nat.lt_of_lt_of_le (by assumption) (by decide) | with_reducible exact lt_mil (Nat.lt_of_lt_of_le (by assumption) (by decide)) | with_reducible exact lt_mil (Nat.lt_of_le_of_lt (by assumption) (by decide)) | with_reducible exact Nat.le_trans (Nat.le_of_lt (by assumption)) (by decide) | (first | lia | omega)) S (I.lk (a := 173) rfl) (by rw [I.K]; rfl) (binds := [(Str.ofString "row", _), (Str.ofString "deeds", _), (Str.ofString "size", _), (Str.ofString "fills", _)]) (kp_binds (K := hd2.heap_39 P) (I.inn S) (fun _ => rfl))
      (.cons r1 (.cons r2 (.cons r3 (.cons r4 .nil)))) (show [Str.ofString "row", Str.ofString "deeds", Str.ofString "size", Str.ofString "fills"].Nodup by decide) rfl fun L => ?_
    refine ex_cons (ex_assign (Γ' := [(Str.ofString "pile", .dat (.list [])), (Str.ofString "row", .dat (.list (row.map itD))), (Str.ofString "deeds", .dat (.list (deeds.map dD))), (Str.ofString "size", .dat (.int (sz : Int))), (Str.ofString "fills", .dat (.list [.str (st [c0]), .str (st [c1]), .str (st [c2])]))]) (ev_list evd_nil) (by first | exact Or.inl rfl | exact Or.inr ⟨rfl, rfl, rfl⟩) (by intro y ds e; first | (cases e; done) | (cases e; decide)) (Pk.g (by repeat (first | exact Pk.nil | refine Pk.here ?_ | refine Pk.cons (by first | exact mem_at 0 rfl | exact mem_at 1 rfl | exact mem_at 2 rfl | exact mem_at 3 rfl | exact mem_at 4 rfl | exact mem_at 5 rfl | exact mem_at 6 rfl | exact mem_at 7 rfl | exact mem_at 8 rfl | exact mem_at 9 rfl | exact mem_at 10 rfl | exact mem_at 11 rfl | exact mem_at 12 rfl | exact mem_at 13 rfl | exact mem_at 14 rfl | exact mem_at 15 rfl | exact mem_at 16 rfl | exact mem_at 17 rfl | exact mem_at 18 rfl | exact mem_at 19 rfl | exact mem_at 20 rfl | exact mem_at 21 rfl) rfl ?_)))) ?_
    refine ex_cons (ex_assign (Γ' := [(Str.ofString "pile", .dat (.list [])), (Str.ofString "depths", .dat (.list [.int 0])), (Str.ofString "row", .dat (.list (row.map itD))), (Str.ofString "deeds", .dat (.list (deeds.map dD))), (Str.ofString "size", .dat (.int (sz : Int))), (Str.ofString "fills", .dat (.list [.str (st [c0]), .str (st [c1]), .str (st [c2])]))]) (ev_list (evd_cons ev_int evd_nil)) (by first | exact Or.inl rfl | exact Or.inr ⟨rfl, rfl, rfl⟩) (by intro y ds e; first | (cases e; done) | (cases e; decide)) (Pk.g (by repeat (first | exact Pk.nil | refine Pk.here ?_ | refine Pk.cons (by first | exact mem_at 0 rfl | exact mem_at 1 rfl | exact mem_at 2 rfl | exact mem_at 3 rfl | exact mem_at 4 rfl | exact mem_at 5 rfl | exact mem_at 6 rfl | exact mem_at 7 rfl | exact mem_at 8 rfl | exact mem_at 9 rfl | exact mem_at 10 rfl | exact mem_at 11 rfl | exact mem_at 12 rfl | exact mem_at 13 rfl | exact mem_at 14 rfl | exact mem_at 15 rfl | exact mem_at 16 rfl | exact mem_at 17 rfl | exact mem_at 18 rfl | exact mem_at 19 rfl | exact mem_at 20 rfl | exact mem_at 21 rfl) rfl ?_)))) ?_
    refine ex_cons (ex_assign (Γ' := [(Str.ofString "pile", .dat (.list (nat2 (pileUp row 0)))), (Str.ofString "depths", .dat (.list ((depthsOf row (0 + 1)).map .int))), (Str.ofString "tops", .dat (.list ((topsOf row (0 + 1)).map .int))), (Str.ofString "row", .dat (.list (row.map itD))), (Str.ofString "deeds", .dat (.list (deeds.map dD))), (Str.ofString "size", .dat (.int (sz : Int))), (Str.ofString "fills", .dat (.list [.str (st [c0]), .str (st [c1]), .str (st [c2])]))]) (b := .dat (.list [.int (-1)])) (ev_list (evd_cons (ev_neg ev_int) evd_nil)) (by first | exact Or.inl rfl | exact Or.inr ⟨rfl, rfl, rfl⟩) (by intro y ds e; first | (cases e; done) | (cases e; decide)) (Pk.g (by repeat (first | exact Pk.nil | refine Pk.here ?_ | refine Pk.cons (by first | exact mem_at 0 rfl | exact mem_at 1 rfl | exact mem_at 2 rfl | exact mem_at 3 rfl | exact mem_at 4 rfl | exact mem_at 5 rfl | exact mem_at 6 rfl | exact mem_at 7 rfl | exact mem_at 8 rfl | exact mem_at 9 rfl | exact mem_at 10 rfl | exact mem_at 11 rfl | exact mem_at 12 rfl | exact mem_at 13 rfl | exact mem_at 14 rfl | exact mem_at 15 rfl | exact mem_at 16 rfl | exact mem_at 17 rfl | exact mem_at 18 rfl | exact mem_at 19 rfl | exact mem_at 20 rfl | exact mem_at 21 rfl) rfl ?_)))) ?_
    refine ex_cons (Γ₁ := [(Str.ofString "pile", .dat (.list (nat2 (pileUp row row.length)))), (Str.ofString "depths", .dat (.list ((depthsOf row (row.length + 1)).map .int))), (Str.ofString "tops", .dat (.list ((topsOf row (row.length + 1)).map .int))), (Str.ofString "row", .dat (.list (row.map itD))), (Str.ofString "deeds", .dat (.list (deeds.map dD))), (Str.ofString "size", .dat (.int (sz : Int))), (Str.ofString "fills", .dat (.list [.str (st [c0]), .str (st [c1]), .str (st [c2])]))]) (own₁ := none) ?_ (ex_one (ex_return (ev_tuple (evd_cons (ev_var (by first | exact mem_at 0 rfl | exact mem_at 1 rfl | exact mem_at 2 rfl | exact mem_at 3 rfl | exact mem_at 4 rfl | exact mem_at 5 rfl | exact mem_at 6 rfl | exact mem_at 7 rfl | exact mem_at 8 rfl | exact mem_at 9 rfl | exact mem_at 10 rfl | exact mem_at 11 rfl | exact mem_at 12 rfl | exact mem_at 13 rfl | exact mem_at 14 rfl | exact mem_at 15 rfl | exact mem_at 16 rfl | exact mem_at 17 rfl | exact mem_at 18 rfl | exact mem_at 19 rfl | exact mem_at 20 rfl | exact mem_at 21 rfl)) (evd_cons (ev_var (by first | exact mem_at 0 rfl | exact mem_at 1 rfl | exact mem_at 2 rfl | exact mem_at 3 rfl | exact mem_at 4 rfl | exact mem_at 5 rfl | exact mem_at 6 rfl | exact mem_at 7 rfl | exact mem_at 8 rfl | exact mem_at 9 rfl | exact mem_at 10 rfl | exact mem_at 11 rfl | exact mem_at 12 rfl | exact mem_at 13 rfl | exact mem_at 14 rfl | exact mem_at 15 rfl | exact mem_at 16 rfl | exact mem_at 17 rfl | exact mem_at 18 rfl | exact mem_at 19 rfl | exact mem_at 20 rfl | exact mem_at 21 rfl)) evd_nil)))))
    refine ex_for (items := row.map itD) (fun i => [(Str.ofString "pile", .dat (.list (nat2 (pileUp row i)))), (Str.ofString "depths", .dat (.list ((depthsOf row (i + 1)).map .int))), (Str.ofString "tops", .dat (.list ((topsOf row (i + 1)).map .int))), (Str.ofString "row", .dat (.list (row.map itD))), (Str.ofString "deeds", .dat (.list (deeds.map dD))), (Str.ofString "size", .dat (.int (sz : Int))), (Str.ofString "fills", .dat (.list [.str (st [c0]), .str (st [c1]), .str (st [c2])]))]) (fun i => match row[i]? with | some e => [(Str.ofString "turn", .dat (.int (e.1 : Int))), (Str.ofString "side", .dat (.int (e.2.1 : Int))), (Str.ofString "text", .dat (.str (st e.2.2))), (Str.ofString "pile", .dat (.list (nat2 (pileUp row i)))), (Str.ofString "depths", .dat (.list ((depthsOf row (i + 1)).map .int))), (Str.ofString "tops", .dat (.list ((topsOf row (i + 1)).map .int))), (Str.ofString "row", .dat (.list (row.map itD))), (Str.ofString "deeds", .dat (.list (deeds.map dD))), (Str.ofString "size", .dat (.int (sz : Int))), (Str.ofString "fills", .dat (.list [.str (st [c0]), .str (st [c1]), .str (st [c2])]))] | none => []) (fun i => none) row.length (evi_list (ev_var (by first | exact mem_at 0 rfl | exact mem_at 1 rfl | exact mem_at 2 rfl | exact mem_at 3 rfl | exact mem_at 4 rfl | exact mem_at 5 rfl | exact mem_at 6 rfl | exact mem_at 7 rfl | exact mem_at 8 rfl | exact mem_at 9 rfl | exact mem_at 10 rfl | exact mem_at 11 rfl | exact mem_at 12 rfl | exact mem_at 13 rfl | exact mem_at 14 rfl | exact mem_at 15 rfl | exact mem_at 16 rfl | exact mem_at 17 rfl | exact mem_at 18 rfl | exact mem_at 19 rfl | exact mem_at 20 rfl | exact mem_at 21 rfl))) ?_ ?_ (.inl ⟨by simp, rfl⟩)
    · intro i hi _
      obtain ⟨e, he, hie⟩ := map_items row hi
      rw [hie, he]
      dsimp only
      refine asg_tuple (by first | exact names2 | exact names3) rfl (asgAll_cons (Γ₁ := [(Str.ofString "turn", .dat (.int (e.1 : Int))), (Str.ofString "pile", .dat (.list (nat2 (pileUp row i)))), (Str.ofString "depths", .dat (.list ((depthsOf row (i + 1)).map .int))), (Str.ofString "tops", .dat (.list ((topsOf row (i + 1)).map .int))), (Str.ofString "row", .dat (.list (row.map itD))), (Str.ofString "deeds", .dat (.list (deeds.map dD))), (Str.ofString "size", .dat (.int (sz : Int))), (Str.ofString "fills", .dat (.list [.str (st [c0]), .str (st [c1]), .str (st [c2])]))]) (asg_name (by first | exact Or.inl rfl | exact Or.inr ⟨rfl, rfl, rfl⟩) (by intro y ds e; first | (cases e; done) | (cases e; decide)) (Pk.g (by repeat (first | exact Pk.nil | refine Pk.here ?_ | refine Pk.cons (by first | exact mem_at 0 rfl | exact mem_at 1 rfl | exact mem_at 2 rfl | exact mem_at 3 rfl | exact mem_at 4 rfl | exact mem_at 5 rfl | exact mem_at 6 rfl | exact mem_at 7 rfl | exact mem_at 8 rfl | exact mem_at 9 rfl | exact mem_at 10 rfl | exact mem_at 11 rfl | exact mem_at 12 rfl | exact mem_at 13 rfl | exact mem_at 14 rfl | exact mem_at 15 rfl | exact mem_at 16 rfl | exact mem_at 17 rfl | exact mem_at 18 rfl | exact mem_at 19 rfl | exact mem_at 20 rfl | exact mem_at 21 rfl) rfl ?_)))) (asgAll_cons (Γ₁ := [(Str.ofString "turn", .dat (.int (e.1 : Int))), (Str.ofString "side", .dat (.int (e.2.1 : Int))), (Str.ofString "pile", .dat (.list (nat2 (pileUp row i)))), (Str.ofString "depths", .dat (.list ((depthsOf row (i + 1)).map .int))), (Str.ofString "tops", .dat (.list ((topsOf row (i + 1)).map .int))), (Str.ofString "row", .dat (.list (row.map itD))), (Str.ofString "deeds", .dat (.list (deeds.map dD))), (Str.ofString "size", .dat (.int (sz : Int))), (Str.ofString "fills", .dat (.list [.str (st [c0]), .str (st [c1]), .str (st [c2])]))]) (asg_name (by first | exact Or.inl rfl | exact Or.inr ⟨rfl, rfl, rfl⟩) (by intro y ds e; first | (cases e; done) | (cases e; decide)) (Pk.g (by repeat (first | exact Pk.nil | refine Pk.here ?_ | refine Pk.cons (by first | exact mem_at 0 rfl | exact mem_at 1 rfl | exact mem_at 2 rfl | exact mem_at 3 rfl | exact mem_at 4 rfl | exact mem_at 5 rfl | exact mem_at 6 rfl | exact mem_at 7 rfl | exact mem_at 8 rfl | exact mem_at 9 rfl | exact mem_at 10 rfl | exact mem_at 11 rfl | exact mem_at 12 rfl | exact mem_at 13 rfl | exact mem_at 14 rfl | exact mem_at 15 rfl | exact mem_at 16 rfl | exact mem_at 17 rfl | exact mem_at 18 rfl | exact mem_at 19 rfl | exact mem_at 20 rfl | exact mem_at 21 rfl) rfl ?_)))) (asgAll_cons (asg_name (by first | exact Or.inl rfl | exact Or.inr ⟨rfl, rfl, rfl⟩) (by intro y ds e; first | (cases e; done) | (cases e; decide)) (Pk.g (by repeat (first | exact Pk.nil | refine Pk.here ?_ | refine Pk.cons (by first | exact mem_at 0 rfl | exact mem_at 1 rfl | exact mem_at 2 rfl | exact mem_at 3 rfl | exact mem_at 4 rfl | exact mem_at 5 rfl | exact mem_at 6 rfl | exact mem_at 7 rfl | exact mem_at 8 rfl | exact mem_at 9 rfl | exact mem_at 10 rfl | exact mem_at 11 rfl | exact mem_at 12 rfl | exact mem_at 13 rfl | exact mem_at 14 rfl | exact mem_at 15 rfl | exact mem_at 16 rfl | exact mem_at 17 rfl | exact mem_at 18 rfl | exact mem_at 19 rfl | exact mem_at 20 rfl | exact mem_at 21 rfl) rfl ?_)))) asgAll_nil)))
    · intro i hi _
      obtain ⟨e, he, hie⟩ := map_items row hi
      obtain ⟨d, hN⟩ := hN i e he
      have hL := hN.len
      have hec := hc e (List.mem_of_getElem? he)
      have hpz := pileUp_len (row := row) i
      rw [List.length_map] at hi
      have hup : pileUp row (i + 1) = if e.2.1 = 0 then pileUp row i ++ [e.1] else (pileUp row i).dropLast := by rw [pileUp, he]
      have hpz1 := pileUp_len (row := row) (i + 1)
      rw [he]
      dsimp only
      rcases hN.side with ⟨hs, ht⟩ | ⟨hs, hl, ht⟩
      · refine ex_cons (ex_if_false (et_eq (et_cmp (ev_var (by first | exact mem_at 0 rfl | exact mem_at 1 rfl | exact mem_at 2 rfl | exact mem_at 3 rfl | exact mem_at 4 rfl | exact mem_at 5 rfl | exact mem_at 6 rfl | exact mem_at 7 rfl | exact mem_at 8 rfl | exact mem_at 9 rfl | exact mem_at 10 rfl | exact mem_at 11 rfl | exact mem_at 12 rfl | exact mem_at 13 rfl | exact mem_at 14 rfl | exact mem_at 15 rfl | exact mem_at 16 rfl | exact mem_at 17 rfl | exact mem_at 18 rfl | exact mem_at 19 rfl | exact mem_at 20 rfl | exact mem_at 21 rfl)) (ev_eq (b := .dat (.str (st (lowOf sz c0 d.1)))) (ev_bin (ev_bin (ev_item (ev_lst (ev_var (by first | exact mem_at 0 rfl | exact mem_at 1 rfl | exact mem_at 2 rfl | exact mem_at 3 rfl | exact mem_at 4 rfl | exact mem_at 5 rfl | exact mem_at 6 rfl | exact mem_at 7 rfl | exact mem_at 8 rfl | exact mem_at 9 rfl | exact mem_at 10 rfl | exact mem_at 11 rfl | exact mem_at 12 rfl | exact mem_at 13 rfl | exact mem_at 14 rfl | exact mem_at 15 rfl | exact mem_at 16 rfl | exact mem_at 17 rfl | exact mem_at 18 rfl | exact mem_at 19 rfl | exact mem_at 20 rfl | exact mem_at 21 rfl))) (ev_var (by first | exact mem_at 0 rfl | exact mem_at 1 rfl | exact mem_at 2 rfl | exact mem_at 3 rfl | exact mem_at 4 rfl | exact mem_at 5 rfl | exact mem_at 6 rfl | exact mem_at 7 rfl | exact mem_at 8 rfl | exact mem_at 9 rfl | exact mem_at 10 rfl | exact mem_at 11 rfl | exact mem_at 12 rfl | exact mem_at 13 rfl | exact mem_at 14 rfl | exact mem_at 15 rfl | exact mem_at 16 rfl | exact mem_at 17 rfl | exact mem_at 18 rfl | exact mem_at 19 rfl | exact mem_at 20 rfl | exact mem_at 21 rfl)) (getR_list (d := .str (st [c0])) (by first | decide | assumption | with_reducible exact Int.natCast_nonneg _ | with_reducible exact Nat.le_trans (by assumption) (by decide) | with_reducible exact Nat.lt_of_lt_of_le (by assumption) (by decide) | with_reducible exact lt_mil (Nat.lt_of_lt_of_le (by assumption) (by decide)) | with_reducible exact lt_mil (Nat.lt_of_le_of_lt (by assumption) (by decide)) | with_reducible exact Nat.le_trans (Nat.le_of_lt (by assumption)) (by decide) | (first | lia | omega)) (by rw [Int.toNat_natCast, hs]; rfl) (by first | decide | assumption | with_reducible exact Int.natCast_nonneg _ | with_reducible exact Nat.le_trans (by assumption) (by decide) | with_reducible exact Nat.lt_of_lt_of_le (by assumption) (by decide) | with_reducible exact lt_mil (Nat.lt_of_lt_of_le (by assumption) (by decide)) | with_reducible exact lt_mil (Nat.lt_of_le_of_lt (by assumption) (by decide)) | with_reducible exact Nat.le_trans (Nat.le_of_lt (by assumption)) (by decide) | (first | lia | omega)))) (ev_bin (ev_var (by first | exact mem_at 0 rfl | exact mem_at 1 rfl | exact mem_at 2 rfl | exact mem_at 3 rfl | exact mem_at 4 rfl | exact mem_at 5 rfl | exact mem_at 6 rfl | exact mem_at 7 rfl | exact mem_at 8 rfl | exact mem_at 9 rfl | exact mem_at 10 rfl | exact mem_at 11 rfl | exact mem_at 12 rfl | exact mem_at 13 rfl | exact mem_at 14 rfl | exact mem_at 15 rfl | exact mem_at 16 rfl | exact mem_at 17 rfl | exact mem_at 18 rfl | exact mem_at 19 rfl | exact mem_at 20 rfl | exact mem_at 21 rfl)) (ev_call_bi (ev_builtin rfl ((I.into _).gl rfl) rfl) (evl_cons (ev_item (ev_lst (ev_item (ev_lst (ev_var (by first | exact mem_at 0 rfl | exact mem_at 1 rfl | exact mem_at 2 rfl | exact mem_at 3 rfl | exact mem_at 4 rfl | exact mem_at 5 rfl | exact mem_at 6 rfl | exact mem_at 7 rfl | exact mem_at 8 rfl | exact mem_at 9 rfl | exact mem_at 10 rfl | exact mem_at 11 rfl | exact mem_at 12 rfl | exact mem_at 13 rfl | exact mem_at 14 rfl | exact mem_at 15 rfl | exact mem_at 16 rfl | exact mem_at 17 rfl | exact mem_at 18 rfl | exact mem_at 19 rfl | exact mem_at 20 rfl | exact mem_at 21 rfl))) (ev_var (by first | exact mem_at 0 rfl | exact mem_at 1 rfl | exact mem_at 2 rfl | exact mem_at 3 rfl | exact mem_at 4 rfl | exact mem_at 5 rfl | exact mem_at 6 rfl | exact mem_at 7 rfl | exact mem_at 8 rfl | exact mem_at 9 rfl | exact mem_at 10 rfl | exact mem_at 11 rfl | exact mem_at 12 rfl | exact mem_at 13 rfl | exact mem_at 14 rfl | exact mem_at 15 rfl | exact mem_at 16 rfl | exact mem_at 17 rfl | exact mem_at 18 rfl | exact mem_at 19 rfl | exact mem_at 20 rfl | exact mem_at 21 rfl)) (getR_list (d := dD d) (by first | decide | assumption | with_reducible exact Int.natCast_nonneg _ | with_reducible exact Nat.le_trans (by assumption) (by decide) | with_reducible exact Nat.lt_of_lt_of_le (by assumption) (by decide) | with_reducible exact lt_mil (Nat.lt_of_lt_of_le (by assumption) (by decide)) | with_reducible exact lt_mil (Nat.lt_of_le_of_lt (by assumption) (by decide)) | with_reducible exact Nat.le_trans (Nat.le_of_lt (by assumption)) (by decide) | (first | lia | omega)) (by rw [Int.toNat_natCast, List.getElem?_map, hN.deed]; rfl) (by first | decide | assumption | with_reducible exact Int.natCast_nonneg _ | with_reducible exact Nat.le_trans (by assumption) (by decide) | with_reducible exact Nat.lt_of_lt_of_le (by assumption) (by decide) | with_reducible exact lt_mil (Nat.lt_of_lt_of_le (by assumption) (by decide)) | with_reducible exact lt_mil (Nat.lt_of_le_of_lt (by assumption) (by decide)) | with_reducible exact Nat.le_trans (Nat.le_of_lt (by assumption)) (by decide) | (first | lia | omega))))) ev_int (getR_list (d := .str (st d.1)) (by first | decide | assumption | with_reducible exact Int.natCast_nonneg _ | with_reducible exact Nat.le_trans (by assumption) (by decide) | with_reducible exact Nat.lt_of_lt_of_le (by assumption) (by decide) | with_reducible exact lt_mil (Nat.lt_of_lt_of_le (by assumption) (by decide)) | with_reducible exact lt_mil (Nat.lt_of_le_of_lt (by assumption) (by decide)) | with_reducible exact Nat.le_trans (Nat.le_of_lt (by assumption)) (by decide) | (first | lia | omega)) rfl (by first | decide | assumption | with_reducible exact Int.natCast_nonneg _ | with_reducible exact Nat.le_trans (by assumption) (by decide) | with_reducible exact Nat.lt_of_lt_of_le (by assumption) (by decide) | with_reducible exact lt_mil (Nat.lt_of_lt_of_le (by assumption) (by decide)) | with_reducible exact lt_mil (Nat.lt_of_le_of_lt (by assumption) (by decide)) | with_reducible exact Nat.le_trans (Nat.le_of_lt (by assumption)) (by decide) | (first | lia | omega)))) evl_nil) (callOk_len_str (by first | decide | assumption | with_reducible exact Int.natCast_nonneg _ | with_reducible exact Nat.le_trans (by assumption) (by decide) | with_reducible exact Nat.lt_of_lt_of_le (by assumption) (by decide) | with_reducible exact lt_mil (Nat.lt_of_lt_of_le (by assumption) (by decide)) | with_reducible exact lt_mil (Nat.lt_of_le_of_lt (by assumption) (by decide)) | with_reducible exact Nat.le_trans (Nat.le_of_lt (by assumption)) (by decide) | (first | lia | omega)))) binR_sub_int) (binR_mul_str (by first | decide | assumption | with_reducible exact Int.natCast_nonneg _ | with_reducible exact Nat.le_trans (by assumption) (by decide) | with_reducible exact Nat.lt_of_lt_of_le (by assumption) (by decide) | with_reducible exact lt_mil (Nat.lt_of_lt_of_le (by assumption) (by decide)) | with_reducible exact lt_mil (Nat.lt_of_le_of_lt (by assumption) (by decide)) | with_reducible exact Nat.le_trans (Nat.le_of_lt (by assumption)) (by decide) | (first | lia | omega)) (by first | decide | assumption | with_reducible exact Int.natCast_nonneg _ | with_reducible exact Nat.le_trans (by assumption) (by decide) | with_reducible exact Nat.lt_of_lt_of_le (by assumption) (by decide) | with_reducible exact lt_mil (Nat.lt_of_lt_of_le (by assumption) (by decide)) | with_reducible exact lt_mil (Nat.lt_of_le_of_lt (by assumption) (by decide)) | with_reducible exact Nat.le_trans (Nat.le_of_lt (by assumption)) (by decide) | (first | lia | omega)) (by simp))) (ev_item (ev_lst (ev_item (ev_lst (ev_var (by first | exact mem_at 0 rfl | exact mem_at 1 rfl | exact mem_at 2 rfl | exact mem_at 3 rfl | exact mem_at 4 rfl | exact mem_at 5 rfl | exact mem_at 6 rfl | exact mem_at 7 rfl | exact mem_at 8 rfl | exact mem_at 9 rfl | exact mem_at 10 rfl | exact mem_at 11 rfl | exact mem_at 12 rfl | exact mem_at 13 rfl | exact mem_at 14 rfl | exact mem_at 15 rfl | exact mem_at 16 rfl | exact mem_at 17 rfl | exact mem_at 18 rfl | exact mem_at 19 rfl | exact mem_at 20 rfl | exact mem_at 21 rfl))) (ev_var (by first | exact mem_at 0 rfl | exact mem_at 1 rfl | exact mem_at 2 rfl | exact mem_at 3 rfl | exact mem_at 4 rfl | exact mem_at 5 rfl | exact mem_at 6 rfl | exact mem_at 7 rfl | exact mem_at 8 rfl | exact mem_at 9 rfl | exact mem_at 10 rfl | exact mem_at 11 rfl | exact mem_at 12 rfl | exact mem_at 13 rfl | exact mem_at 14 rfl | exact mem_at 15 rfl | exact mem_at 16 rfl | exact mem_at 17 rfl | exact mem_at 18 rfl | exact mem_at 19 rfl | exact mem_at 20 rfl | exact mem_at 21 rfl)) (getR_list (d := dD d) (by first | decide | assumption | with_reducible exact Int.natCast_nonneg _ | with_reducible exact Nat.le_trans (by assumption) (by decide) | with_reducible exact Nat.lt_of_lt_of_le (by assumption) (by decide) | with_reducible exact lt_mil (Nat.lt_of_lt_of_le (by assumption) (by decide)) | with_reducible exact lt_mil (Nat.lt_of_le_of_lt (by assumption) (by decide)) | with_reducible exact Nat.le_trans (Nat.le_of_lt (by assumption)) (by decide) | (first | lia | omega)) (by rw [Int.toNat_natCast, List.getElem?_map, hN.deed]; rfl) (by first | decide | assumption | with_reducible exact Int.natCast_nonneg _ | with_reducible exact Nat.le_trans (by assumption) (by decide) | with_reducible exact Nat.lt_of_lt_of_le (by assumption) (by decide) | with_reducible exact lt_mil (Nat.lt_of_lt_of_le (by assumption) (by decide)) | with_reducible exact lt_mil (Nat.lt_of_le_of_lt (by assumption) (by decide)) | with_reducible exact Nat.le_trans (Nat.le_of_lt (by assumption)) (by decide) | (first | lia | omega))))) ev_int (getR_list (d := .str (st d.1)) (by first | decide | assumption | with_reducible exact Int.natCast_nonneg _ | with_reducible exact Nat.le_trans (by assumption) (by decide) | with_reducible exact Nat.lt_of_lt_of_le (by assumption) (by decide) | with_reducible exact lt_mil (Nat.lt_of_lt_of_le (by assumption) (by decide)) | with_reducible exact lt_mil (Nat.lt_of_le_of_lt (by assumption) (by decide)) | with_reducible exact Nat.le_trans (Nat.le_of_lt (by assumption)) (by decide) | (first | lia | omega)) rfl (by first | decide | assumption | with_reducible exact Int.natCast_nonneg _ | with_reducible exact Nat.le_trans (by assumption) (by decide) | with_reducible exact Nat.lt_of_lt_of_le (by assumption) (by decide) | with_reducible exact lt_mil (Nat.lt_of_lt_of_le (by assumption) (by decide)) | with_reducible exact lt_mil (Nat.lt_of_le_of_lt (by assumption) (by decide)) | with_reducible exact Nat.le_trans (Nat.le_of_lt (by assumption)) (by decide) | (first | lia | omega)))) (binR_add_str (by rw [flatten_rep, List.length_replicate]; (first | lia | omega)))) (by rw [flatten_rep, show ((sz : Int) - (d.1.length : Int)).toNat = sz - d.1.length by (first | lia | omega)]; rfl)) cmpR_ne_str) (by rw [ht]; simp)) ex_nil) ?_
        refine ex_cons (Γ₁ := [(Str.ofString "pile", .dat (.list (nat2 (pileUp row (i + 1))))), (Str.ofString "turn", .dat (.int (e.1 : Int))), (Str.ofString "depths", .dat (.list ((depthsOf row (i + 1)).map .int))), (Str.ofString "tops", .dat (.list ((topsOf row (i + 1)).map .int))), (Str.ofString "row", .dat (.list (row.map itD))), (Str.ofString "deeds", .dat (.list (deeds.map dD))), (Str.ofString "size", .dat (.int (sz : Int))), (Str.ofString "fills", .dat (.list [.str (st [c0]), .str (st [c1]), .str (st [c2])]))]) (own₁ := none) (ex_if_true (et_eq (et_cmp (ev_var (by first | exact mem_at 0 rfl | exact mem_at 1 rfl | exact mem_at 2 rfl | exact mem_at 3 rfl | exact mem_at 4 rfl | exact mem_at 5 rfl | exact mem_at 6 rfl | exact mem_at 7 rfl | exact mem_at 8 rfl | exact mem_at 9 rfl | exact mem_at 10 rfl | exact mem_at 11 rfl | exact mem_at 12 rfl | exact mem_at 13 rfl | exact mem_at 14 rfl | exact mem_at 15 rfl | exact mem_at 16 rfl | exact mem_at 17 rfl | exact mem_at 18 rfl | exact mem_at 19 rfl | exact mem_at 20 rfl | exact mem_at 21 rfl)) ev_int cmpR_eq_int) (by rw [hs]; rfl)) (ex_one (ex_assign (ev_eq (b := .dat (.list (nat2 (pileUp row (i + 1))))) (ev_bin (ev_lst (ev_var (by first | exact mem_at 0 rfl | exact mem_at 1 rfl | exact mem_at 2 rfl | exact mem_at 3 rfl | exact mem_at 4 rfl | exact mem_at 5 rfl | exact mem_at 6 rfl | exact mem_at 7 rfl | exact mem_at 8 rfl | exact mem_at 9 rfl | exact mem_at 10 rfl | exact mem_at 11 rfl | exact mem_at 12 rfl | exact mem_at 13 rfl | exact mem_at 14 rfl | exact mem_at 15 rfl | exact mem_at 16 rfl | exact mem_at 17 rfl | exact mem_at 18 rfl | exact mem_at 19 rfl | exact mem_at 20 rfl | exact mem_at 21 rfl))) (ev_lst (ev_list (ds := [.int (e.1 : Int)]) (evd_cons (ev_var (by first | exact mem_at 0 rfl | exact mem_at 1 rfl | exact mem_at 2 rfl | exact mem_at 3 rfl | exact mem_at 4 rfl | exact mem_at 5 rfl | exact mem_at 6 rfl | exact mem_at 7 rfl | exact mem_at 8 rfl | exact mem_at 9 rfl | exact mem_at 10 rfl | exact mem_at 11 rfl | exact mem_at 12 rfl | exact mem_at 13 rfl | exact mem_at 14 rfl | exact mem_at 15 rfl | exact mem_at 16 rfl | exact mem_at 17 rfl | exact mem_at 18 rfl | exact mem_at 19 rfl | exact mem_at 20 rfl | exact mem_at 21 rfl)) evd_nil))) (binR_add_list (by simp [nat2]; (first | lia | omega)))) (by rw [hup, if_pos hs]; simp [nat2])) (by first | exact Or.inl rfl | exact Or.inr ⟨rfl, rfl, rfl⟩) (by intro y ds e; first | (cases e; done) | (cases e; decide)) (Pk.g (by repeat (first | exact Pk.nil | refine Pk.here ?_ | refine Pk.cons (by first | exact mem_at 0 rfl | exact mem_at 1 rfl | exact mem_at 2 rfl | exact mem_at 3 rfl | exact mem_at 4 rfl | exact mem_at 5 rfl | exact mem_at 6 rfl | exact mem_at 7 rfl | exact mem_at 8 rfl | exact mem_at 9 rfl | exact mem_at 10 rfl | exact mem_at 11 rfl | exact mem_at 12 rfl | exact mem_at 13 rfl | exact mem_at 14 rfl | exact mem_at 15 rfl | exact mem_at 16 rfl | exact mem_at 17 rfl | exact mem_at 18 rfl | exact mem_at 19 rfl | exact mem_at 20 rfl | exact mem_at 21 rfl) rfl ?_)))))) ?_
        refine ex_cons (ex_assign (Γ' := [(Str.ofString "depths", .dat (.list ((depthsOf row (i + 1 + 1)).map .int))), (Str.ofString "pile", .dat (.list (nat2 (pileUp row (i + 1))))), (Str.ofString "tops", .dat (.list ((topsOf row (i + 1)).map .int))), (Str.ofString "row", .dat (.list (row.map itD))), (Str.ofString "deeds", .dat (.list (deeds.map dD))), (Str.ofString "size", .dat (.int (sz : Int))), (Str.ofString "fills", .dat (.list [.str (st [c0]), .str (st [c1]), .str (st [c2])]))]) (ev_eq (b := .dat (.list ((depthsOf row (i + 1 + 1)).map .int))) (ev_bin (ev_lst (ev_var (by first | exact mem_at 0 rfl | exact mem_at 1 rfl | exact mem_at 2 rfl | exact mem_at 3 rfl | exact mem_at 4 rfl | exact mem_at 5 rfl | exact mem_at 6 rfl | exact mem_at 7 rfl | exact mem_at 8 rfl | exact mem_at 9 rfl | exact mem_at 10 rfl | exact mem_at 11 rfl | exact mem_at 12 rfl | exact mem_at 13 rfl | exact mem_at 14 rfl | exact mem_at 15 rfl | exact mem_at 16 rfl | exact mem_at 17 rfl | exact mem_at 18 rfl | exact mem_at 19 rfl | exact mem_at 20 rfl | exact mem_at 21 rfl))) (ev_lst (ev_list (ds := [.int ((pileUp row (i + 1)).length : Int)]) (evd_cons (ev_eq (ev_call_bi (ev_builtin rfl ((I.into _).gl rfl) rfl) (evl_cons (ev_lst (ev_var (b := .dat (.list (nat2 (pileUp row (i + 1))))) (by first | exact mem_at 0 rfl | exact mem_at 1 rfl | exact mem_at 2 rfl | exact mem_at 3 rfl | exact mem_at 4 rfl | exact mem_at 5 rfl | exact mem_at 6 rfl | exact mem_at 7 rfl | exact mem_at 8 rfl | exact mem_at 9 rfl | exact mem_at 10 rfl | exact mem_at 11 rfl | exact mem_at 12 rfl | exact mem_at 13 rfl | exact mem_at 14 rfl | exact mem_at 15 rfl | exact mem_at 16 rfl | exact mem_at 17 rfl | exact mem_at 18 rfl | exact mem_at 19 rfl | exact mem_at 20 rfl | exact mem_at 21 rfl))) evl_nil) (callOk_len_list (by simp [nat2]; (first | lia | omega)))) (by simp [nat2])) evd_nil))) (binR_add_list (by simp [depthsOf]; (first | lia | omega)))) (by simp [depthsOf, List.range_succ])) (by first | exact Or.inl rfl | exact Or.inr ⟨rfl, rfl, rfl⟩) (by intro y ds e; first | (cases e; done) | (cases e; decide)) (Pk.g (by repeat (first | exact Pk.nil | refine Pk.here ?_ | refine Pk.cons (by first | exact mem_at 0 rfl | exact mem_at 1 rfl | exact mem_at 2 rfl | exact mem_at 3 rfl | exact mem_at 4 rfl | exact mem_at 5 rfl | exact mem_at 6 rfl | exact mem_at 7 rfl | exact mem_at 8 rfl | exact mem_at 9 rfl | exact mem_at 10 rfl | exact mem_at 11 rfl | exact mem_at 12 rfl | exact mem_at 13 rfl | exact mem_at 14 rfl | exact mem_at 15 rfl | exact mem_at 16 rfl | exact mem_at 17 rfl | exact mem_at 18 rfl | exact mem_at 19 rfl | exact mem_at 20 rfl | exact mem_at 21 rfl) rfl ?_)))) ?_
        exact ex_one (ex_assign (ev_eq (b := .dat (.list ((topsOf row (i + 1 + 1)).map .int))) (ev_bin (ev_lst (ev_var (by first | exact mem_at 0 rfl | exact mem_at 1 rfl | exact mem_at 2 rfl | exact mem_at 3 rfl | exact mem_at 4 rfl | exact mem_at 5 rfl | exact mem_at 6 rfl | exact mem_at 7 rfl | exact mem_at 8 rfl | exact mem_at 9 rfl | exact mem_at 10 rfl | exact mem_at 11 rfl | exact mem_at 12 rfl | exact mem_at 13 rfl | exact mem_at 14 rfl | exact mem_at 15 rfl | exact mem_at 16 rfl | exact mem_at 17 rfl | exact mem_at 18 rfl | exact mem_at 19 rfl | exact mem_at 20 rfl | exact mem_at 21 rfl))) (ev_lst (ev_list (ds := [.int (topOf (pileUp row (i + 1)))]) (evd_cons (ev_item (ev_lst (ev_bin (ev_lst (ev_list (ds := [.int (-1)]) (evd_cons (ev_neg ev_int) evd_nil))) (ev_lst (ev_var (b := .dat (.list (nat2 (pileUp row (i + 1))))) (by first | exact mem_at 0 rfl | exact mem_at 1 rfl | exact mem_at 2 rfl | exact mem_at 3 rfl | exact mem_at 4 rfl | exact mem_at 5 rfl | exact mem_at 6 rfl | exact mem_at 7 rfl | exact mem_at 8 rfl | exact mem_at 9 rfl | exact mem_at 10 rfl | exact mem_at 11 rfl | exact mem_at 12 rfl | exact mem_at 13 rfl | exact mem_at 14 rfl | exact mem_at 15 rfl | exact mem_at 16 rfl | exact mem_at 17 rfl | exact mem_at 18 rfl | exact mem_at 19 rfl | exact mem_at 20 rfl | exact mem_at 21 rfl))) (binR_add_list (by simp [nat2]; (first | lia | omega))))) (ev_neg ev_int) (getR_list_last (nat2_top _) (by simp [nat2]; (first | lia | omega)))) evd_nil))) (binR_add_list (by simp [topsOf]; (first | lia | omega)))) (by simp [topsOf, List.range_succ])) (by first | exact Or.inl rfl | exact Or.inr ⟨rfl, rfl, rfl⟩) (by intro y ds e; first | (cases e; done) | (cases e; decide)) (Pk.g (by repeat (first | exact Pk.nil | refine Pk.here ?_ | refine Pk.cons (by first | exact mem_at 0 rfl | exact mem_at 1 rfl | exact mem_at 2 rfl | exact mem_at 3 rfl | exact mem_at 4 rfl | exact mem_at 5 rfl | exact mem_at 6 rfl | exact mem_at 7 rfl | exact mem_at 8 rfl | exact mem_at 9 rfl | exact mem_at 10 rfl | exact mem_at 11 rfl | exact mem_at 12 rfl | exact mem_at 13 rfl | exact mem_at 14 rfl | exact mem_at 15 rfl | exact mem_at 16 rfl | exact mem_at 17 rfl | exact mem_at 18 rfl | exact mem_at 19 rfl | exact mem_at 20 rfl | exact mem_at 21 rfl) rfl ?_))))
      · refine ex_cons (ex_if_false (et_eq (et_cmp (ev_var (by first | exact mem_at 0 rfl | exact mem_at 1 rfl | exact mem_at 2 rfl | exact mem_at 3 rfl | exact mem_at 4 rfl | exact mem_at 5 rfl | exact mem_at 6 rfl | exact mem_at 7 rfl | exact mem_at 8 rfl | exact mem_at 9 rfl | exact mem_at 10 rfl | exact mem_at 11 rfl | exact mem_at 12 rfl | exact mem_at 13 rfl | exact mem_at 14 rfl | exact mem_at 15 rfl | exact mem_at 16 rfl | exact mem_at 17 rfl | exact mem_at 18 rfl | exact mem_at 19 rfl | exact mem_at 20 rfl | exact mem_at 21 rfl)) (ev_eq (b := .dat (.str (st (lowOf sz c1 d.1)))) (ev_bin (ev_bin (ev_item (ev_lst (ev_var (by first | exact mem_at 0 rfl | exact mem_at 1 rfl | exact mem_at 2 rfl | exact mem_at 3 rfl | exact mem_at 4 rfl | exact mem_at 5 rfl | exact mem_at 6 rfl | exact mem_at 7 rfl | exact mem_at 8 rfl | exact mem_at 9 rfl | exact mem_at 10 rfl | exact mem_at 11 rfl | exact mem_at 12 rfl | exact mem_at 13 rfl | exact mem_at 14 rfl | exact mem_at 15 rfl | exact mem_at 16 rfl | exact mem_at 17 rfl | exact mem_at 18 rfl | exact mem_at 19 rfl | exact mem_at 20 rfl | exact mem_at 21 rfl))) (ev_var (by first | exact mem_at 0 rfl | exact mem_at 1 rfl | exact mem_at 2 rfl | exact mem_at 3 rfl | exact mem_at 4 rfl | exact mem_at 5 rfl | exact mem_at 6 rfl | exact mem_at 7 rfl | exact mem_at 8 rfl | exact mem_at 9 rfl | exact mem_at 10 rfl | exact mem_at 11 rfl | exact mem_at 12 rfl | exact mem_at 13 rfl | exact mem_at 14 rfl | exact mem_at 15 rfl | exact mem_at 16 rfl | exact mem_at 17 rfl | exact mem_at 18 rfl | exact mem_at 19 rfl | exact mem_at 20 rfl | exact mem_at 21 rfl)) (getR_list (d := .str (st [c1])) (by first | decide | assumption | with_reducible exact Int.natCast_nonneg _ | with_reducible exact Nat.le_trans (by assumption) (by decide) | with_reducible exact Nat.lt_of_lt_of_le (by assumption) (by decide) | with_reducible exact lt_mil (Nat.lt_of_lt_of_le (by assumption) (by decide)) | with_reducible exact lt_mil (Nat.lt_of_le_of_lt (by assumption) (by decide)) | with_reducible exact Nat.le_trans (Nat.le_of_lt (by assumption)) (by decide) | (first | lia | omega)) (by rw [Int.toNat_natCast, hs]; rfl) (by first | decide | assumption | with_reducible exact Int.natCast_nonneg _ | with_reducible exact Nat.le_trans (by assumption) (by decide) | with_reducible exact Nat.lt_of_lt_of_le (by assumption) (by decide) | with_reducible exact lt_mil (Nat.lt_of_lt_of_le (by assumption) (by decide)) | with_reducible exact lt_mil (Nat.lt_of_le_of_lt (by assumption) (by decide)) | with_reducible exact Nat.le_trans (Nat.le_of_lt (by assumption)) (by decide) | (first | lia | omega)))) (ev_bin (ev_var (by first | exact mem_at 0 rfl | exact mem_at 1 rfl | exact mem_at 2 rfl | exact mem_at 3 rfl | exact mem_at 4 rfl | exact mem_at 5 rfl | exact mem_at 6 rfl | exact mem_at 7 rfl | exact mem_at 8 rfl | exact mem_at 9 rfl | exact mem_at 10 rfl | exact mem_at 11 rfl | exact mem_at 12 rfl | exact mem_at 13 rfl | exact mem_at 14 rfl | exact mem_at 15 rfl | exact mem_at 16 rfl | exact mem_at 17 rfl | exact mem_at 18 rfl | exact mem_at 19 rfl | exact mem_at 20 rfl | exact mem_at 21 rfl)) (ev_call_bi (ev_builtin rfl ((I.into _).gl rfl) rfl) (evl_cons (ev_item (ev_lst (ev_item (ev_lst (ev_var (by first | exact mem_at 0 rfl | exact mem_at 1 rfl | exact mem_at 2 rfl | exact mem_at 3 rfl | exact mem_at 4 rfl | exact mem_at 5 rfl | exact mem_at 6 rfl | exact mem_at 7 rfl | exact mem_at 8 rfl | exact mem_at 9 rfl | exact mem_at 10 rfl | exact mem_at 11 rfl | exact mem_at 12 rfl | exact mem_at 13 rfl | exact mem_at 14 rfl | exact mem_at 15 rfl | exact mem_at 16 rfl | exact mem_at 17 rfl | exact mem_at 18 rfl | exact mem_at 19 rfl | exact mem_at 20 rfl | exact mem_at 21 rfl))) (ev_var (by first | exact mem_at 0 rfl | exact mem_at 1 rfl | exact mem_at 2 rfl | exact mem_at 3 rfl | exact mem_at 4 rfl | exact mem_at 5 rfl | exact mem_at 6 rfl | exact mem_at 7 rfl | exact mem_at 8 rfl | exact mem_at 9 rfl | exact mem_at 10 rfl | exact mem_at 11 rfl | exact mem_at 12 rfl | exact mem_at 13 rfl | exact mem_at 14 rfl | exact mem_at 15 rfl | exact mem_at 16 rfl | exact mem_at 17 rfl | exact mem_at 18 rfl | exact mem_at 19 rfl | exact mem_at 20 rfl | exact mem_at 21 rfl)) (getR_list (d := dD d) (by first | decide | assumption | with_reducible exact Int.natCast_nonneg _ | with_reducible exact Nat.le_trans (by assumption) (by decide) | with_reducible exact Nat.lt_of_lt_of_le (by assumption) (by decide) | with_reducible exact lt_mil (Nat.lt_of_lt_of_le (by assumption) (by decide)) | with_reducible exact lt_mil (Nat.lt_of_le_of_lt (by assumption) (by decide)) | with_reducible exact Nat.le_trans (Nat.le_of_lt (by assumption)) (by decide) | (first | lia | omega)) (by rw [Int.toNat_natCast, List.getElem?_map, hN.deed]; rfl) (by first | decide | assumption | with_reducible exact Int.natCast_nonneg _ | with_reducible exact Nat.le_trans (by assumption) (by decide) | with_reducible exact Nat.lt_of_lt_of_le (by assumption) (by decide) | with_reducible exact lt_mil (Nat.lt_of_lt_of_le (by assumption) (by decide)) | with_reducible exact lt_mil (Nat.lt_of_le_of_lt (by assumption) (by decide)) | with_reducible exact Nat.le_trans (Nat.le_of_lt (by assumption)) (by decide) | (first | lia | omega))))) ev_int (getR_list (d := .str (st d.1)) (by first | decide | assumption | with_reducible exact Int.natCast_nonneg _ | with_reducible exact Nat.le_trans (by assumption) (by decide) | with_reducible exact Nat.lt_of_lt_of_le (by assumption) (by decide) | with_reducible exact lt_mil (Nat.lt_of_lt_of_le (by assumption) (by decide)) | with_reducible exact lt_mil (Nat.lt_of_le_of_lt (by assumption) (by decide)) | with_reducible exact Nat.le_trans (Nat.le_of_lt (by assumption)) (by decide) | (first | lia | omega)) rfl (by first | decide | assumption | with_reducible exact Int.natCast_nonneg _ | with_reducible exact Nat.le_trans (by assumption) (by decide) | with_reducible exact Nat.lt_of_lt_of_le (by assumption) (by decide) | with_reducible exact lt_mil (Nat.lt_of_lt_of_le (by assumption) (by decide)) | with_reducible exact lt_mil (Nat.lt_of_le_of_lt (by assumption) (by decide)) | with_reducible exact Nat.le_trans (Nat.le_of_lt (by assumption)) (by decide) | (first | lia | omega)))) evl_nil) (callOk_len_str (by first | decide | assumption | with_reducible exact Int.natCast_nonneg _ | with_reducible exact Nat.le_trans (by assumption) (by decide) | with_reducible exact Nat.lt_of_lt_of_le (by assumption) (by decide) | with_reducible exact lt_mil (Nat.lt_of_lt_of_le (by assumption) (by decide)) | with_reducible exact lt_mil (Nat.lt_of_le_of_lt (by assumption) (by decide)) | with_reducible exact Nat.le_trans (Nat.le_of_lt (by assumption)) (by decide) | (first | lia | omega)))) binR_sub_int) (binR_mul_str (by first | decide | assumption | with_reducible exact Int.natCast_nonneg _ | with_reducible exact Nat.le_trans (by assumption) (by decide) | with_reducible exact Nat.lt_of_lt_of_le (by assumption) (by decide) | with_reducible exact lt_mil (Nat.lt_of_lt_of_le (by assumption) (by decide)) | with_reducible exact lt_mil (Nat.lt_of_le_of_lt (by assumption) (by decide)) | with_reducible exact Nat.le_trans (Nat.le_of_lt (by assumption)) (by decide) | (first | lia | omega)) (by first | decide | assumption | with_reducible exact Int.natCast_nonneg _ | with_reducible exact Nat.le_trans (by assumption) (by decide) | with_reducible exact Nat.lt_of_lt_of_le (by assumption) (by decide) | with_reducible exact lt_mil (Nat.lt_of_lt_of_le (by assumption) (by decide)) | with_reducible exact lt_mil (Nat.lt_of_le_of_lt (by assumption) (by decide)) | with_reducible exact Nat.le_trans (Nat.le_of_lt (by assumption)) (by decide) | (first | lia | omega)) (by simp))) (ev_item (ev_lst (ev_item (ev_lst (ev_var (by first | exact mem_at 0 rfl | exact mem_at 1 rfl | exact mem_at 2 rfl | exact mem_at 3 rfl | exact mem_at 4 rfl | exact mem_at 5 rfl | exact mem_at 6 rfl | exact mem_at 7 rfl | exact mem_at 8 rfl | exact mem_at 9 rfl | exact mem_at 10 rfl | exact mem_at 11 rfl | exact mem_at 12 rfl | exact mem_at 13 rfl | exact mem_at 14 rfl | exact mem_at 15 rfl | exact mem_at 16 rfl | exact mem_at 17 rfl | exact mem_at 18 rfl | exact mem_at 19 rfl | exact mem_at 20 rfl | exact mem_at 21 rfl))) (ev_var (by first | exact mem_at 0 rfl | exact mem_at 1 rfl | exact mem_at 2 rfl | exact mem_at 3 rfl | exact mem_at 4 rfl | exact mem_at 5 rfl | exact mem_at 6 rfl | exact mem_at 7 rfl | exact mem_at 8 rfl | exact mem_at 9 rfl | exact mem_at 10 rfl | exact mem_at 11 rfl | exact mem_at 12 rfl | exact mem_at 13 rfl | exact mem_at 14 rfl | exact mem_at 15 rfl | exact mem_at 16 rfl | exact mem_at 17 rfl | exact mem_at 18 rfl | exact mem_at 19 rfl | exact mem_at 20 rfl | exact mem_at 21 rfl)) (getR_list (d := dD d) (by first | decide | assumption | with_reducible exact Int.natCast_nonneg _ | with_reducible exact Nat.le_trans (by assumption) (by decide) | with_reducible exact Nat.lt_of_lt_of_le (by assumption) (by decide) | with_reducible exact lt_mil (Nat.lt_of_lt_of_le (by assumption) (by decide)) | with_reducible exact lt_mil (Nat.lt_of_le_of_lt (by assumption) (by decide)) | with_reducible exact Nat.le_trans (Nat.le_of_lt (by assumption)) (by decide) | (first | lia | omega)) (by rw [Int.toNat_natCast, List.getElem?_map, hN.deed]; rfl) (by first | decide | assumption | with_reducible exact Int.natCast_nonneg _ | with_reducible exact Nat.le_trans (by assumption) (by decide) | with_reducible exact Nat.lt_of_lt_of_le (by assumption) (by decide) | with_reducible exact lt_mil (Nat.lt_of_lt_of_le (by assumption) (by decide)) | with_reducible exact lt_mil (Nat.lt_of_le_of_lt (by assumption) (by decide)) | with_reducible exact Nat.le_trans (Nat.le_of_lt (by assumption)) (by decide) | (first | lia | omega))))) ev_int (getR_list (d := .str (st d.1)) (by first | decide | assumption | with_reducible exact Int.natCast_nonneg _ | with_reducible exact Nat.le_trans (by assumption) (by decide) | with_reducible exact Nat.lt_of_lt_of_le (by assumption) (by decide) | with_reducible exact lt_mil (Nat.lt_of_lt_of_le (by assumption) (by decide)) | with_reducible exact lt_mil (Nat.lt_of_le_of_lt (by assumption) (by decide)) | with_reducible exact Nat.le_trans (Nat.le_of_lt (by assumption)) (by decide) | (first | lia | omega)) rfl (by first | decide | assumption | with_reducible exact Int.natCast_nonneg _ | with_reducible exact Nat.le_trans (by assumption) (by decide) | with_reducible exact Nat.lt_of_lt_of_le (by assumption) (by decide) | with_reducible exact lt_mil (Nat.lt_of_lt_of_le (by assumption) (by decide)) | with_reducible exact lt_mil (Nat.lt_of_le_of_lt (by assumption) (by decide)) | with_reducible exact Nat.le_trans (Nat.le_of_lt (by assumption)) (by decide) | (first | lia | omega)))) (binR_add_str (by rw [flatten_rep, List.length_replicate]; (first | lia | omega)))) (by rw [flatten_rep, show ((sz : Int) - (d.1.length : Int)).toNat = sz - d.1.length by (first | lia | omega)]; rfl)) cmpR_ne_str) (by rw [ht]; simp)) ex_nil) ?_
        have hne : pileUp row i ≠ [] := by intro q; rw [q] at hl; cases hl
        refine ex_cons (Γ₁ := [(Str.ofString "pile", .dat (.list (nat2 (pileUp row (i + 1))))), (Str.ofString "turn", .dat (.int (e.1 : Int))), (Str.ofString "depths", .dat (.list ((depthsOf row (i + 1)).map .int))), (Str.ofString "tops", .dat (.list ((topsOf row (i + 1)).map .int))), (Str.ofString "row", .dat (.list (row.map itD))), (Str.ofString "deeds", .dat (.list (deeds.map dD))), (Str.ofString "size", .dat (.int (sz : Int))), (Str.ofString "fills", .dat (.list [.str (st [c0]), .str (st [c1]), .str (st [c2])]))]) (own₁ := none) (ex_if_false (et_eq (et_cmp (ev_var (by first | exact mem_at 0 rfl | exact mem_at 1 rfl | exact mem_at 2 rfl | exact mem_at 3 rfl | exact mem_at 4 rfl | exact mem_at 5 rfl | exact mem_at 6 rfl | exact mem_at 7 rfl | exact mem_at 8 rfl | exact mem_at 9 rfl | exact mem_at 10 rfl | exact mem_at 11 rfl | exact mem_at 12 rfl | exact mem_at 13 rfl | exact mem_at 14 rfl | exact mem_at 15 rfl | exact mem_at 16 rfl | exact mem_at 17 rfl | exact mem_at 18 rfl | exact mem_at 19 rfl | exact mem_at 20 rfl | exact mem_at 21 rfl)) ev_int cmpR_eq_int) (by rw [hs]; rfl)) (ex_one (ex_if_true (et_cmp (ev_slice (ev_lst (ev_var (by first | exact mem_at 0 rfl | exact mem_at 1 rfl | exact mem_at 2 rfl | exact mem_at 3 rfl | exact mem_at 4 rfl | exact mem_at 5 rfl | exact mem_at 6 rfl | exact mem_at 7 rfl | exact mem_at 8 rfl | exact mem_at 9 rfl | exact mem_at 10 rfl | exact mem_at 11 rfl | exact mem_at 12 rfl | exact mem_at 13 rfl | exact mem_at 14 rfl | exact mem_at 15 rfl | exact mem_at 16 rfl | exact mem_at 17 rfl | exact mem_at 18 rfl | exact mem_at 19 rfl | exact mem_at 20 rfl | exact mem_at 21 rfl))) (evp_some (ev_neg ev_int)) evp_none evp_none (sliceR_list (by simp [nat2]; (first | lia | omega)))) (ev_list (ds := [.int (e.1 : Int)]) (evd_cons (ev_var (by first | exact mem_at 0 rfl | exact mem_at 1 rfl | exact mem_at 2 rfl | exact mem_at 3 rfl | exact mem_at 4 rfl | exact mem_at 5 rfl | exact mem_at 6 rfl | exact mem_at 7 rfl | exact mem_at 8 rfl | exact mem_at 9 rfl | exact mem_at 10 rfl | exact mem_at 11 rfl | exact mem_at 12 rfl | exact mem_at 13 rfl | exact mem_at 14 rfl | exact mem_at 15 rfl | exact mem_at 16 rfl | exact mem_at 17 rfl | exact mem_at 18 rfl | exact mem_at 19 rfl | exact mem_at 20 rfl | exact mem_at 21 rfl)) evd_nil)) (cmpR_eq_pl (n := 1) (m := 1) (.list _ fun x hx => ?_) (.list _ fun x hx => ?_) ?_)) (ex_one (ex_assign (ev_eq (b := .dat (.list (nat2 (pileUp row (i + 1))))) (ev_slice (ev_lst (ev_var (by first | exact mem_at 0 rfl | exact mem_at 1 rfl | exact mem_at 2 rfl | exact mem_at 3 rfl | exact mem_at 4 rfl | exact mem_at 5 rfl | exact mem_at 6 rfl | exact mem_at 7 rfl | exact mem_at 8 rfl | exact mem_at 9 rfl | exact mem_at 10 rfl | exact mem_at 11 rfl | exact mem_at 12 rfl | exact mem_at 13 rfl | exact mem_at 14 rfl | exact mem_at 15 rfl | exact mem_at 16 rfl | exact mem_at 17 rfl | exact mem_at 18 rfl | exact mem_at 19 rfl | exact mem_at 20 rfl | exact mem_at 21 rfl))) evp_none (evp_some (ev_neg ev_int)) evp_none (sliceR_list (by simp [nat2]; (first | lia | omega)))) (by rw [hup, if_neg (by first | decide | assumption | with_reducible exact Int.natCast_nonneg _ | with_reducible exact Nat.le_trans (by assumption) (by decide) | with_reducible exact Nat.lt_of_lt_of_le (by assumption) (by decide) | with_reducible exact lt_mil (Nat.lt_of_lt_of_le (by assumption) (by decide)) | with_reducible exact lt_mil (Nat.lt_of_le_of_lt (by assumption) (by decide)) | with_reducible exact Nat.le_trans (Nat.le_of_lt (by assumption)) (by decide) | (first | lia | omega)), pySl_butLast]; simp [nat2, List.dropLast_eq_take, List.map_take])) (by first | exact Or.inl rfl | exact Or.inr ⟨rfl, rfl, rfl⟩) (by intro y ds e; first | (cases e; done) | (cases e; decide)) (Pk.g (by repeat (first | exact Pk.nil | refine Pk.here ?_ | refine Pk.cons (by first | exact mem_at 0 rfl | exact mem_at 1 rfl | exact mem_at 2 rfl | exact mem_at 3 rfl | exact mem_at 4 rfl | exact mem_at 5 rfl | exact mem_at 6 rfl | exact mem_at 7 rfl | exact mem_at 8 rfl | exact mem_at 9 rfl | exact mem_at 10 rfl | exact mem_at 11 rfl | exact mem_at 12 rfl | exact mem_at 13 rfl | exact mem_at 14 rfl | exact mem_at 15 rfl | exact mem_at 16 rfl | exact mem_at 17 rfl | exact mem_at 18 rfl | exact mem_at 19 rfl | exact mem_at 20 rfl | exact mem_at 21 rfl) rfl ?_)))))))) ?_
        · rw [pySl_last] at hx
          have hx := List.mem_of_mem_drop hx
          obtain ⟨t, _, rfl⟩ := List.mem_map.mp hx
          exact .int _
        · rw [List.mem_singleton] at hx
          subst hx
          exact .int _
        · rw [pySl_last]
          simp only [true_iff, PyData.list.injEq]
          have e1 : nat2 (pileUp row i) = nat2 (pileUp row i).dropLast ++ [.int (e.1 : Int)] := by
            obtain ⟨q, hq⟩ := List.getLast?_eq_some_iff.mp hl
            rw [hq, List.dropLast_concat]
            simp [nat2]
          rw [e1, List.drop_append, List.length_append]
          simp
        refine ex_cons (ex_assign (Γ' := [(Str.ofString "depths", .dat (.list ((depthsOf row (i + 1 + 1)).map .int))), (Str.ofString "pile", .dat (.list (nat2 (pileUp row (i + 1))))), (Str.ofString "tops", .dat (.list ((topsOf row (i + 1)).map .int))), (Str.ofString "row", .dat (.list (row.map itD))), (Str.ofString "deeds", .dat (.list (deeds.map dD))), (Str.ofString "size", .dat (.int (sz : Int))), (Str.ofString "fills", .dat (.list [.str (st [c0]), .str (st [c1]), .str (st [c2])]))]) (ev_eq (b := .dat (.list ((depthsOf row (i + 1 + 1)).map .int))) (ev_bin (ev_lst (ev_var (by first | exact mem_at 0 rfl | exact mem_at 1 rfl | exact mem_at 2 rfl | exact mem_at 3 rfl | exact mem_at 4 rfl | exact mem_at 5 rfl | exact mem_at 6 rfl | exact mem_at 7 rfl | exact mem_at 8 rfl | exact mem_at 9 rfl | exact mem_at 10 rfl | exact mem_at 11 rfl | exact mem_at 12 rfl | exact mem_at 13 rfl | exact mem_at 14 rfl | exact mem_at 15 rfl | exact mem_at 16 rfl | exact mem_at 17 rfl | exact mem_at 18 rfl | exact mem_at 19 rfl | exact mem_at 20 rfl | exact mem_at 21 rfl))) (ev_lst (ev_list (ds := [.int ((pileUp row (i + 1)).length : Int)]) (evd_cons (ev_eq (ev_call_bi (ev_builtin rfl ((I.into _).gl rfl) rfl) (evl_cons (ev_lst (ev_var (b := .dat (.list (nat2 (pileUp row (i + 1))))) (by first | exact mem_at 0 rfl | exact mem_at 1 rfl | exact mem_at 2 rfl | exact mem_at 3 rfl | exact mem_at 4 rfl | exact mem_at 5 rfl | exact mem_at 6 rfl | exact mem_at 7 rfl | exact mem_at 8 rfl | exact mem_at 9 rfl | exact mem_at 10 rfl | exact mem_at 11 rfl | exact mem_at 12 rfl | exact mem_at 13 rfl | exact mem_at 14 rfl | exact mem_at 15 rfl | exact mem_at 16 rfl | exact mem_at 17 rfl | exact mem_at 18 rfl | exact mem_at 19 rfl | exact mem_at 20 rfl | exact mem_at 21 rfl))) evl_nil) (callOk_len_list (by simp [nat2]; (first | lia | omega)))) (by simp [nat2])) evd_nil))) (binR_add_list (by simp [depthsOf]; (first | lia | omega)))) (by simp [depthsOf, List.range_succ])) (by first | exact Or.inl rfl | exact Or.inr ⟨rfl, rfl, rfl⟩) (by intro y ds e; first | (cases e; done) | (cases e; decide)) (Pk.g (by repeat (first | exact Pk.nil | refine Pk.here ?_ | refine Pk.cons (by first | exact mem_at 0 rfl | exact mem_at 1 rfl | exact mem_at 2 rfl | exact mem_at 3 rfl | exact mem_at 4 rfl | exact mem_at 5 rfl | exact mem_at 6 rfl | exact mem_at 7 rfl | exact mem_at 8 rfl | exact mem_at 9 rfl | exact mem_at 10 rfl | exact mem_at 11 rfl | exact mem_at 12 rfl | exact mem_at 13 rfl | exact mem_at 14 rfl | exact mem_at 15 rfl | exact mem_at 16 rfl | exact mem_at 17 rfl | exact mem_at 18 rfl | exact mem_at 19 rfl | exact mem_at 20 rfl | exact mem_at 21 rfl) rfl ?_)))) ?_
        exact ex_one (ex_assign (ev_eq (b := .dat (.list ((topsOf row (i + 1 + 1)).map .int))) (ev_bin (ev_lst (ev_var (by first | exact mem_at 0 rfl | exact mem_at 1 rfl | exact mem_at 2 rfl | exact mem_at 3 rfl | exact mem_at 4 rfl | exact mem_at 5 rfl | exact mem_at 6 rfl | exact mem_at 7 rfl | exact mem_at 8 rfl | exact mem_at 9 rfl | exact mem_at 10 rfl | exact mem_at 11 rfl | exact mem_at 12 rfl | exact mem_at 13 rfl | exact mem_at 14 rfl | exact mem_at 15 rfl | exact mem_at 16 rfl | exact mem_at 17 rfl | exact mem_at 18 rfl | exact mem_at 19 rfl | exact mem_at 20 rfl | exact mem_at 21 rfl))) (ev_lst (ev_list (ds := [.int (topOf (pileUp row (i + 1)))]) (evd_cons (ev_item (ev_lst (ev_bin (ev_lst (ev_list (ds := [.int (-1)]) (evd_cons (ev_neg ev_int) evd_nil))) (ev_lst (ev_var (b := .dat (.list (nat2 (pileUp row (i + 1))))) (by first | exact mem_at 0 rfl | exact mem_at 1 rfl | exact mem_at 2 rfl | exact mem_at 3 rfl | exact mem_at 4 rfl | exact mem_at 5 rfl | exact mem_at 6 rfl | exact mem_at 7 rfl | exact mem_at 8 rfl | exact mem_at 9 rfl | exact mem_at 10 rfl | exact mem_at 11 rfl | exact mem_at 12 rfl | exact mem_at 13 rfl | exact mem_at 14 rfl | exact mem_at 15 rfl | exact mem_at 16 rfl | exact mem_at 17 rfl | exact mem_at 18 rfl | exact mem_at 19 rfl | exact mem_at 20 rfl | exact mem_at 21 rfl))) (binR_add_list (by simp [nat2]; (first | lia | omega))))) (ev_neg ev_int) (getR_list_last (nat2_top _) (by simp [nat2]; (first | lia | omega)))) evd_nil))) (binR_add_list (by simp [topsOf]; (first | lia | omega)))) (by simp [topsOf, List.range_succ])) (by first | exact Or.inl rfl | exact Or.inr ⟨rfl, rfl, rfl⟩) (by intro y ds e; first | (cases e; done) | (cases e; decide)) (Pk.g (by repeat (first | exact Pk.nil | refine Pk.here ?_ | refine Pk.cons (by first | exact mem_at 0 rfl | exact mem_at 1 rfl | exact mem_at 2 rfl | exact mem_at 3 rfl | exact mem_at 4 rfl | exact mem_at 5 rfl | exact mem_at 6 rfl | exact mem_at 7 rfl | exact mem_at 8 rfl | exact mem_at 9 rfl | exact mem_at 10 rfl | exact mem_at 11 rfl | exact mem_at 12 rfl | exact mem_at 13 rfl | exact mem_at 14 rfl | exact mem_at 15 rfl | exact mem_at 16 rfl | exact mem_at 17 rfl | exact mem_at 18 rfl | exact mem_at 19 rfl | exact mem_at 20 rfl | exact mem_at 21 rfl) rfl ?_))))
end
end Mine

namespace Mine
open PySem PySem.W PyProof.Rows PySem.Calls
set_option maxRecDepth 100000

def intsN (n : Nat) (D : Nat → Int) : List Int := (List.range n).map D
theorem ints_span (n : Nat) (D : Nat → Int) (a k : Nat) (h : a + k ≤ n) : ((intsN n D).drop a).take k = (List.range k).map fun j => D (a + j) := by
  apply List.ext_getElem?
  intro i
  by_cases hi : i < k
  · rw [List.getElem?_take_of_lt hi, List.getElem?_drop]
    simp [intsN, hi, show a + i < n by (first | lia | omega)]
  · simp [hi]; (first | lia | omega)
theorem least_of : ∀ (l : List Int), l ≠ [] → ∃ m, m ∈ l ∧ ∀ x ∈ l, m ≤ x
  | [], h => absurd rfl h
  | [a], _ => ⟨a, .head _, fun x hx => by rcases List.mem_cons.mp hx with rfl | hx; (first | lia | omega); cases hx⟩
  | a :: b :: r, _ => by
    obtain ⟨m, hm, hle⟩ := least_of (b :: r) (by simp)
    by_cases h : a ≤ m
    · refine ⟨a, .head _, fun x hx => ?_⟩
      rcases List.mem_cons.mp hx with rfl | hx
      · (first | lia | omega)
      · have := hle x hx; (first | lia | omega)
    · refine ⟨m, .tail _ hm, fun x hx => ?_⟩
      rcases List.mem_cons.mp hx with rfl | hx
      · (first | lia | omega)
      · exact hle x hx
def longStep (u v : List Nat) (best : List Nat × Int) (e : List Nat × Nat) : List Nat × Int :=
  if u.drop (4 - e.1.length) = e.1 ∧ v.drop (4 - e.1.length) = e.1 ∧ best.1.length ≤ e.1.length then (e.1, (e.2 : Int)) else best
def longUp (u v : List Nat) (left : List (List Nat × Nat)) (i : Nat) : List Nat × Int := (left.take i).foldl (longStep u v) ([], -1)
theorem longUp_succ {u v : List Nat} {left : List (List Nat × Nat)} {i : Nat} {e : List Nat × Nat} (h : left[i]? = some e) : longUp u v left (i + 1) = longStep u v (longUp u v left i) e := by
  unfold longUp
  rw [List.take_add_one, h]
  simp
theorem longUp_len {u v : List Nat} {left : List (List Nat × Nat)} (h : ∀ e ∈ left, e.1.length ≤ 4) : ∀ i, (longUp u v left i).1.length ≤ 4
  | 0 => by simp [longUp]
  | i + 1 => by
    cases e : left[i]? with
    | none =>
      have : left.take (i + 1) = left.take i := by
        rw [List.take_of_length_le (by have := List.getElem?_eq_none_iff.mp e; (first | lia | omega)), List.take_of_length_le (List.getElem?_eq_none_iff.mp e)]
      unfold longUp
      rw [this]
      exact longUp_len h i
    | some e' =>
      rw [longUp_succ e]
      unfold longStep
      split
      · exact h _ (List.mem_of_getElem? e)
      · exact longUp_len h i
def bestD (b : List Nat × Int) : PyData := .list [.str (st b.1), .int b.2]
theorem map_left (left : List (List Nat × Nat)) {i : Nat} (h : i < (left.map leD).length) : ∃ e, left[i]? = some e ∧ (left.map leD)[i] = leD e := by
  rw [List.length_map] at h
  exact ⟨left[i], List.getElem?_eq_getElem h, by simp⟩

section
variable {P : Params} {C : Cx}
theorem sh_facts {n a b lo hi : Nat} (hlo : min a b = lo) (hhi : max a b = hi) (ha : a < n) (hb : b < n) : ∃ k, lo + k ≤ n ∧ 0 < k ∧ min (a : Int) (b : Int) = (lo : Int) ∧ max (a : Int) (b : Int) + 1 = ((lo + k : Nat) : Int) ∧ hi + 1 = lo + k := by
  refine ⟨hi + 1 - lo, ?_, ?_, ?_, ?_, ?_⟩ <;> (first | lia | omega)
theorem sp_shallowest (I : Is2 P C) (hf : 0 < C.fuel) {n a b : Nat} {D T : Nat → Int} {r : Int} (hz : n ≤ 900) (ha : a < n) (hb : b < n) (hD : ∀ i, i < n → (D i).natAbs < 1000)
    (hr : ∀ j, min a b ≤ j → j ≤ max a b → (∀ i, min a b ≤ i → i ≤ max a b → D j ≤ D i) → T j = r) :
    CallOk C (.ref 180) [.dat (.list ((intsN n D).map .int)), .dat (.list ((intsN n T).map .int)), .dat (.int (a : Int)), .dat (.int (b : Int))] [] [] (.dat (.int r)) :=
  callOk_of fun ok W s vs ks S hx hy => by
    obtain ⟨_, _, _, _, rfl, r1, r2, r3, r4⟩ := BAll.inv4 hx
    obtain rfl := BAll.inv0 hy
    refine enter ok (by first | decide | assumption | with_reducible exact Int.natCast_nonneg _ | with_reducible exact Nat.le_trans (by assumption) (by decide) | with_reducible exact Nat.lt_of_lt_of_le (by assumption) (by decide) | with_reducible exact lt_mil (Nat.lt_of_lt_of_le (by assumption) (by decide)) | with_reducible exact lt_mil (Nat.lt_of_le_of_lt (by assumption) (by decide)) | with_reducible exact Nat.le_trans (Nat.le_of_lt (by assumption)) (by decide) | omega) S (I.lk (a := 180) rfl) (by rw [I.K]; rfl) (binds := [(Str.ofString "depths", _), (Str.ofString "tops", _), (Str.ofString "one", _), (Str.ofString "other", _)]) (kp_binds (K := hd2.heap_39 P) (I.inn S) (fun _ => rfl))
      (.cons r1 (.cons r2 (.cons r3 (.cons r4 .nil)))) (show [Str.ofString "depths", Str.ofString "tops", Str.ofString "one", Str.ofString "other"].Nodup by decide) rfl fun L => ?_
    generalize hlo : min a b = lo at hr
    generalize hhi : max a b = hi at hr
    obtain ⟨k, f1, f2, f3, f4, f6⟩ := sh_facts hlo hhi ha hb
    have hk900 : k ≤ 900 := Nat.le_trans (Nat.le_trans (Nat.le_add_left _ _) f1) hz
    have hspan := ints_span n D lo k f1
    have hlenD : ((intsN n D).map PyData.int).length ≤ 1000000 := by rw [List.length_map, intsN, List.length_map, List.length_range]; exact Nat.le_trans hz (by decide)
    have hlenS : ((List.range k).map fun j => D (lo + j)).length ≤ 1000 := by rw [List.length_map, List.length_range]; exact Nat.le_trans hk900 (by decide)
    have hlt : ∀ j, j < k → lo + j < n := fun j hj => Nat.lt_of_lt_of_le (Nat.add_lt_add_left hj lo) f1
    have hn : n < 1000000 := Nat.lt_of_le_of_lt hz (by decide)
    clear hlo hhi ha hb hz
    refine ex_cons (ex_assign (Γ' := [(Str.ofString "span", .dat (.list (((List.range k).map fun j => D (lo + j)).map .int))), (Str.ofString "depths", .dat (.list ((intsN n D).map .int))), (Str.ofString "tops", .dat (.list ((intsN n T).map .int))), (Str.ofString "one", .dat (.int (a : Int))), (Str.ofString "other", .dat (.int (b : Int)))])
      (ev_eq (ev_slice (ev_lst (ev_var (by first | exact mem_at 0 rfl | exact mem_at 1 rfl | exact mem_at 2 rfl | exact mem_at 3 rfl | exact mem_at 4 rfl | exact mem_at 5 rfl | exact mem_at 6 rfl | exact mem_at 7 rfl | exact mem_at 8 rfl | exact mem_at 9 rfl | exact mem_at 10 rfl | exact mem_at 11 rfl | exact mem_at 12 rfl | exact mem_at 13 rfl | exact mem_at 14 rfl | exact mem_at 15 rfl | exact mem_at 16 rfl | exact mem_at 17 rfl | exact mem_at 18 rfl | exact mem_at 19 rfl | exact mem_at 20 rfl | exact mem_at 21 rfl))) (evp_some (ev_eq (ev_call_bi (ev_builtin rfl ((I.into _).gl rfl) rfl) (evl_cons (ev_var (by first | exact mem_at 0 rfl | exact mem_at 1 rfl | exact mem_at 2 rfl | exact mem_at 3 rfl | exact mem_at 4 rfl | exact mem_at 5 rfl | exact mem_at 6 rfl | exact mem_at 7 rfl | exact mem_at 8 rfl | exact mem_at 9 rfl | exact mem_at 10 rfl | exact mem_at 11 rfl | exact mem_at 12 rfl | exact mem_at 13 rfl | exact mem_at 14 rfl | exact mem_at 15 rfl | exact mem_at 16 rfl | exact mem_at 17 rfl | exact mem_at 18 rfl | exact mem_at 19 rfl | exact mem_at 20 rfl | exact mem_at 21 rfl)) (evl_cons (ev_var (by first | exact mem_at 0 rfl | exact mem_at 1 rfl | exact mem_at 2 rfl | exact mem_at 3 rfl | exact mem_at 4 rfl | exact mem_at 5 rfl | exact mem_at 6 rfl | exact mem_at 7 rfl | exact mem_at 8 rfl | exact mem_at 9 rfl | exact mem_at 10 rfl | exact mem_at 11 rfl | exact mem_at 12 rfl | exact mem_at 13 rfl | exact mem_at 14 rfl | exact mem_at 15 rfl | exact mem_at 16 rfl | exact mem_at 17 rfl | exact mem_at 18 rfl | exact mem_at 19 rfl | exact mem_at 20 rfl | exact mem_at 21 rfl)) evl_nil)) callOk_min2) (congrArg (fun z => Bd.dat (.int z)) f3)))
        (evp_some (ev_eq (ev_bin (ev_call_bi (ev_builtin rfl ((I.into _).gl rfl) rfl) (evl_cons (ev_var (by first | exact mem_at 0 rfl | exact mem_at 1 rfl | exact mem_at 2 rfl | exact mem_at 3 rfl | exact mem_at 4 rfl | exact mem_at 5 rfl | exact mem_at 6 rfl | exact mem_at 7 rfl | exact mem_at 8 rfl | exact mem_at 9 rfl | exact mem_at 10 rfl | exact mem_at 11 rfl | exact mem_at 12 rfl | exact mem_at 13 rfl | exact mem_at 14 rfl | exact mem_at 15 rfl | exact mem_at 16 rfl | exact mem_at 17 rfl | exact mem_at 18 rfl | exact mem_at 19 rfl | exact mem_at 20 rfl | exact mem_at 21 rfl)) (evl_cons (ev_var (by first | exact mem_at 0 rfl | exact mem_at 1 rfl | exact mem_at 2 rfl | exact mem_at 3 rfl | exact mem_at 4 rfl | exact mem_at 5 rfl | exact mem_at 6 rfl | exact mem_at 7 rfl | exact mem_at 8 rfl | exact mem_at 9 rfl | exact mem_at 10 rfl | exact mem_at 11 rfl | exact mem_at 12 rfl | exact mem_at 13 rfl | exact mem_at 14 rfl | exact mem_at 15 rfl | exact mem_at 16 rfl | exact mem_at 17 rfl | exact mem_at 18 rfl | exact mem_at 19 rfl | exact mem_at 20 rfl | exact mem_at 21 rfl)) evl_nil)) callOk_max2) ev_int binR_add_int) (congrArg (fun z => Bd.dat (.int z)) f4))) evp_none (sliceR_list hlenD)) ?_) (by first | exact Or.inl rfl | exact Or.inr ⟨rfl, rfl, rfl⟩) (by intro y ds e; first | (cases e; done) | (cases e; decide)) (Pk.g (by repeat (first | exact Pk.nil | refine Pk.here ?_ | refine Pk.cons (by first | exact mem_at 0 rfl | exact mem_at 1 rfl | exact mem_at 2 rfl | exact mem_at 3 rfl | exact mem_at 4 rfl | exact mem_at 5 rfl | exact mem_at 6 rfl | exact mem_at 7 rfl | exact mem_at 8 rfl | exact mem_at 9 rfl | exact mem_at 10 rfl | exact mem_at 11 rfl | exact mem_at 12 rfl | exact mem_at 13 rfl | exact mem_at 14 rfl | exact mem_at 15 rfl | exact mem_at 16 rfl | exact mem_at 17 rfl | exact mem_at 18 rfl | exact mem_at 19 rfl | exact mem_at 20 rfl | exact mem_at 21 rfl) rfl ?_)))) ?_
    · rw [pySl_run _ (Int.natCast_nonneg _) (Int.natCast_nonneg _), Int.toNat_natCast, Int.toNat_natCast, ← hspan, show lo + k - lo = k from Nat.add_sub_cancel_left _ _, List.map_take, List.map_drop]
    · -- the least depth of the span
      obtain ⟨m, hm, hle⟩ := least_of ((List.range k).map fun j => D (lo + j)) (fun q => by
        have := congrArg List.length q
        rw [List.length_map, List.length_range] at this
        exact Nat.ne_of_gt f2 this)
      have hix := List.idxOf_lt_length_iff.mpr hm
      have hget := List.getElem_idxOf hix
      generalize hj : ((List.range k).map fun j => D (lo + j)).idxOf m = j at hix hget
      rw [List.length_map, List.length_range] at hix
      have hDj : D (lo + j) = m := by rw [← hget, List.getElem_map, List.getElem_range]
      have hT : T (lo + j) = r := hr (lo + j) (Nat.le_add_right _ _) (Nat.le_of_lt_succ (Nat.lt_of_lt_of_eq (Nat.add_lt_add_left hix lo) f6.symm)) fun i h1 h2 => by
        rw [hDj]
        have := hle (D (lo + (i - lo))) (List.mem_map.mpr ⟨i - lo, List.mem_range.mpr (Nat.sub_lt_left_of_lt_add h1 (Nat.lt_of_lt_of_eq (Nat.lt_succ_of_le h2) f6)), rfl⟩)
        rwa [Nat.add_sub_cancel' h1] at this
      have hln := hlt j hix
      have hTat : (List.map PyData.int (intsN n T))[((lo + j : Nat) : Int).toNat]? = some (PyData.int r) := by
        rw [Int.toNat_natCast, List.getElem?_map, intsN, List.getElem?_map, List.getElem?_range hln, ← hT]; rfl
      refine ex_one (ex_return (ev_item (ev_lst (ev_var (by first | exact mem_at 0 rfl | exact mem_at 1 rfl | exact mem_at 2 rfl | exact mem_at 3 rfl | exact mem_at 4 rfl | exact mem_at 5 rfl | exact mem_at 6 rfl | exact mem_at 7 rfl | exact mem_at 8 rfl | exact mem_at 9 rfl | exact mem_at 10 rfl | exact mem_at 11 rfl | exact mem_at 12 rfl | exact mem_at 13 rfl | exact mem_at 14 rfl | exact mem_at 15 rfl | exact mem_at 16 rfl | exact mem_at 17 rfl | exact mem_at 18 rfl | exact mem_at 19 rfl | exact mem_at 20 rfl | exact mem_at 21 rfl))) (ev_bin (ev_eq (ev_call_bi (ev_builtin rfl ((I.into _).gl rfl) rfl) (evl_cons (ev_var (by first | exact mem_at 0 rfl | exact mem_at 1 rfl | exact mem_at 2 rfl | exact mem_at 3 rfl | exact mem_at 4 rfl | exact mem_at 5 rfl | exact mem_at 6 rfl | exact mem_at 7 rfl | exact mem_at 8 rfl | exact mem_at 9 rfl | exact mem_at 10 rfl | exact mem_at 11 rfl | exact mem_at 12 rfl | exact mem_at 13 rfl | exact mem_at 14 rfl | exact mem_at 15 rfl | exact mem_at 16 rfl | exact mem_at 17 rfl | exact mem_at 18 rfl | exact mem_at 19 rfl | exact mem_at 20 rfl | exact mem_at 21 rfl)) (evl_cons (ev_var (by first | exact mem_at 0 rfl | exact mem_at 1 rfl | exact mem_at 2 rfl | exact mem_at 3 rfl | exact mem_at 4 rfl | exact mem_at 5 rfl | exact mem_at 6 rfl | exact mem_at 7 rfl | exact mem_at 8 rfl | exact mem_at 9 rfl | exact mem_at 10 rfl | exact mem_at 11 rfl | exact mem_at 12 rfl | exact mem_at 13 rfl | exact mem_at 14 rfl | exact mem_at 15 rfl | exact mem_at 16 rfl | exact mem_at 17 rfl | exact mem_at 18 rfl | exact mem_at 19 rfl | exact mem_at 20 rfl | exact mem_at 21 rfl)) evl_nil)) callOk_min2) (congrArg (fun z => Bd.dat (.int z)) f3))
        (ev_meth (ev_var (b := .dat (.list (((List.range k).map fun j => D (lo + j)).map .int))) (by first | exact mem_at 0 rfl | exact mem_at 1 rfl | exact mem_at 2 rfl | exact mem_at 3 rfl | exact mem_at 4 rfl | exact mem_at 5 rfl | exact mem_at 6 rfl | exact mem_at 7 rfl | exact mem_at 8 rfl | exact mem_at 9 rfl | exact mem_at 10 rfl | exact mem_at 11 rfl | exact mem_at 12 rfl | exact mem_at 13 rfl | exact mem_at 14 rfl | exact mem_at 15 rfl | exact mem_at 16 rfl | exact mem_at 17 rfl | exact mem_at 18 rfl | exact mem_at 19 rfl | exact mem_at 20 rfl | exact mem_at 21 rfl)) (evl_cons (ev_call_bi (ev_builtin rfl ((I.into _).gl rfl) rfl) (evl_cons (ev_lst (ev_var (b := .dat (.list (((List.range k).map fun j => D (lo + j)).map .int))) (by first | exact mem_at 0 rfl | exact mem_at 1 rfl | exact mem_at 2 rfl | exact mem_at 3 rfl | exact mem_at 4 rfl | exact mem_at 5 rfl | exact mem_at 6 rfl | exact mem_at 7 rfl | exact mem_at 8 rfl | exact mem_at 9 rfl | exact mem_at 10 rfl | exact mem_at 11 rfl | exact mem_at 12 rfl | exact mem_at 13 rfl | exact mem_at 14 rfl | exact mem_at 15 rfl | exact mem_at 16 rfl | exact mem_at 17 rfl | exact mem_at 18 rfl | exact mem_at 19 rfl | exact mem_at 20 rfl | exact mem_at 21 rfl))) evl_nil) (callOk_min hm hle)) evl_nil) methIs_index (callOk_index hm hlenS (fun x hx => by
          obtain ⟨j', hj', rfl⟩ := List.mem_map.mp hx
          exact hD _ (hlt _ (List.mem_range.mp hj'))))) (binR_addN (by rw [hj]))) (getR_list (Int.natCast_nonneg _) hTat (lt_mil (Nat.lt_trans hln hn)))))

theorem sp_longest (I : Is2 P C) (hf : 0 < C.fuel) {left : List (List Nat × Nat)} {u v : List Nat} (hl : ∀ e ∈ left, e.1.length ≤ 4) (hz : left.length ≤ 100) (hu : u.length = 4) (hv : v.length = 4) :
    CallOk C (.ref 187) [.dat (.list (left.map leD)), .dat (.str (st u)), .dat (.str (st v))] [] [] (.dat (.int (longUp u v left left.length).2)) :=
  callOk_of fun ok W s vs ks S hx hy => by
    obtain ⟨_, _, _, rfl, r1, r2, r3⟩ := BAll.inv3 hx
    obtain rfl := BAll.inv0 hy
    refine enter ok (by first | decide | assumption | with_reducible exact Int.natCast_nonneg _ | with_reducible exact Nat.le_trans (by assumption) (by decide) | with_reducible exact Nat.lt_of_lt_of_le (by assumption) (by decide) | with_reducible exact lt_mil (Nat.lt_of_lt_of_le (by assumption) (by decide)) | with_reducible exact lt_mil (Nat.lt_of_le_of_lt (by assumption) (by decide)) | with_reducible exact Nat.le_trans (Nat.le_of_lt (by assumption)) (by decide) | (first | lia | omega)) S (I.lk (a := 187) rfl) (by rw [I.K]; rfl) (binds := [(Str.ofString "left", _), (Str.ofString "one", _), (Str.ofString "other", _)]) (kp_binds (K := hd2.heap_39 P) (I.inn S) (fun _ => rfl))
      (.cons r1 (.cons r2 (.cons r3 .nil))) (show [Str.ofString "left", Str.ofString "one", Str.ofString "other"].Nodup by decide) rfl fun L => ?_
    refine ex_cons (ex_assign (Γ' := [(Str.ofString "best", .dat (bestD (longUp u v left 0))), (Str.ofString "left", .dat (.list (left.map leD))), (Str.ofString "one", .dat (.str (st u))), (Str.ofString "other", .dat (.str (st v)))]) (b := .dat (.list [.str (st []), .int (-1)])) (ev_list (evd_cons (ev_strL (l := []) rfl) (evd_cons (ev_neg ev_int) evd_nil))) (by first | exact Or.inl rfl | exact Or.inr ⟨rfl, rfl, rfl⟩) (by intro y ds e; first | (cases e; done) | (cases e; decide)) (Pk.g (by repeat (first | exact Pk.nil | refine Pk.here ?_ | refine Pk.cons (by first | exact mem_at 0 rfl | exact mem_at 1 rfl | exact mem_at 2 rfl | exact mem_at 3 rfl | exact mem_at 4 rfl | exact mem_at 5 rfl | exact mem_at 6 rfl | exact mem_at 7 rfl | exact mem_at 8 rfl | exact mem_at 9 rfl | exact mem_at 10 rfl | exact mem_at 11 rfl | exact mem_at 12 rfl | exact mem_at 13 rfl | exact mem_at 14 rfl | exact mem_at 15 rfl | exact mem_at 16 rfl | exact mem_at 17 rfl | exact mem_at 18 rfl | exact mem_at 19 rfl | exact mem_at 20 rfl | exact mem_at 21 rfl) rfl ?_)))) ?_
    refine ex_cons (Γ₁ := [(Str.ofString "best", .dat (bestD (longUp u v left left.length))), (Str.ofString "left", .dat (.list (left.map leD))), (Str.ofString "one", .dat (.str (st u))), (Str.ofString "other", .dat (.str (st v)))]) (own₁ := none) ?_ (ex_one (ex_return (ev_item (ev_lst (ev_var (b := .dat (bestD _)) (by first | exact mem_at 0 rfl | exact mem_at 1 rfl | exact mem_at 2 rfl | exact mem_at 3 rfl | exact mem_at 4 rfl | exact mem_at 5 rfl | exact mem_at 6 rfl | exact mem_at 7 rfl | exact mem_at 8 rfl | exact mem_at 9 rfl | exact mem_at 10 rfl | exact mem_at 11 rfl | exact mem_at 12 rfl | exact mem_at 13 rfl | exact mem_at 14 rfl | exact mem_at 15 rfl | exact mem_at 16 rfl | exact mem_at 17 rfl | exact mem_at 18 rfl | exact mem_at 19 rfl | exact mem_at 20 rfl | exact mem_at 21 rfl))) ev_int (getR_list (by first | decide | assumption | with_reducible exact Int.natCast_nonneg _ | with_reducible exact Nat.le_trans (by assumption) (by decide) | with_reducible exact Nat.lt_of_lt_of_le (by assumption) (by decide) | with_reducible exact lt_mil (Nat.lt_of_lt_of_le (by assumption) (by decide)) | with_reducible exact lt_mil (Nat.lt_of_le_of_lt (by assumption) (by decide)) | with_reducible exact Nat.le_trans (Nat.le_of_lt (by assumption)) (by decide) | (first | lia | omega)) rfl (by first | decide | assumption | with_reducible exact Int.natCast_nonneg _ | with_reducible exact Nat.le_trans (by assumption) (by decide) | with_reducible exact Nat.lt_of_lt_of_le (by assumption) (by decide) | with_reducible exact lt_mil (Nat.lt_of_lt_of_le (by assumption) (by decide)) | with_reducible exact lt_mil (Nat.lt_of_le_of_lt (by assumption) (by decide)) | with_reducible exact Nat.le_trans (Nat.le_of_lt (by assumption)) (by decide) | (first | lia | omega))))))
    refine ex_for (items := left.map leD) (fun i => [(Str.ofString "best", .dat (bestD (longUp u v left i))), (Str.ofString "left", .dat (.list (left.map leD))), (Str.ofString "one", .dat (.str (st u))), (Str.ofString "other", .dat (.str (st v)))])
      (fun i => match left[i]? with | some e => [(Str.ofString "end", .dat (.str (st e.1))), (Str.ofString "turn", .dat (.int (e.2 : Int))), (Str.ofString "best", .dat (bestD (longUp u v left i))), (Str.ofString "left", .dat (.list (left.map leD))), (Str.ofString "one", .dat (.str (st u))), (Str.ofString "other", .dat (.str (st v)))] | none => []) (fun i => none) left.length (evi_list (ev_var (by first | exact mem_at 0 rfl | exact mem_at 1 rfl | exact mem_at 2 rfl | exact mem_at 3 rfl | exact mem_at 4 rfl | exact mem_at 5 rfl | exact mem_at 6 rfl | exact mem_at 7 rfl | exact mem_at 8 rfl | exact mem_at 9 rfl | exact mem_at 10 rfl | exact mem_at 11 rfl | exact mem_at 12 rfl | exact mem_at 13 rfl | exact mem_at 14 rfl | exact mem_at 15 rfl | exact mem_at 16 rfl | exact mem_at 17 rfl | exact mem_at 18 rfl | exact mem_at 19 rfl | exact mem_at 20 rfl | exact mem_at 21 rfl))) ?_ ?_ (.inl ⟨by simp, rfl⟩)
    · intro i hi _
      obtain ⟨e, he, hie⟩ := map_left left hi
      rw [hie, he]
      dsimp only
      exact asg_tuple (by first | exact names2 | exact names3) rfl (asgAll_cons (Γ₁ := [(Str.ofString "end", .dat (.str (st e.1))), (Str.ofString "best", .dat (bestD (longUp u v left i))), (Str.ofString "left", .dat (.list (left.map leD))), (Str.ofString "one", .dat (.str (st u))), (Str.ofString "other", .dat (.str (st v)))]) (asg_name (by first | exact Or.inl rfl | exact Or.inr ⟨rfl, rfl, rfl⟩) (by intro y ds e; first | (cases e; done) | (cases e; decide)) (Pk.g (by repeat (first | exact Pk.nil | refine Pk.here ?_ | refine Pk.cons (by first | exact mem_at 0 rfl | exact mem_at 1 rfl | exact mem_at 2 rfl | exact mem_at 3 rfl | exact mem_at 4 rfl | exact mem_at 5 rfl | exact mem_at 6 rfl | exact mem_at 7 rfl | exact mem_at 8 rfl | exact mem_at 9 rfl | exact mem_at 10 rfl | exact mem_at 11 rfl | exact mem_at 12 rfl | exact mem_at 13 rfl | exact mem_at 14 rfl | exact mem_at 15 rfl | exact mem_at 16 rfl | exact mem_at 17 rfl | exact mem_at 18 rfl | exact mem_at 19 rfl | exact mem_at 20 rfl | exact mem_at 21 rfl) rfl ?_)))) (asgAll_cons (asg_name (by first | exact Or.inl rfl | exact Or.inr ⟨rfl, rfl, rfl⟩) (by intro y ds e; first | (cases e; done) | (cases e; decide)) (Pk.g (by repeat (first | exact Pk.nil | refine Pk.here ?_ | refine Pk.cons (by first | exact mem_at 0 rfl | exact mem_at 1 rfl | exact mem_at 2 rfl | exact mem_at 3 rfl | exact mem_at 4 rfl | exact mem_at 5 rfl | exact mem_at 6 rfl | exact mem_at 7 rfl | exact mem_at 8 rfl | exact mem_at 9 rfl | exact mem_at 10 rfl | exact mem_at 11 rfl | exact mem_at 12 rfl | exact mem_at 13 rfl | exact mem_at 14 rfl | exact mem_at 15 rfl | exact mem_at 16 rfl | exact mem_at 17 rfl | exact mem_at 18 rfl | exact mem_at 19 rfl | exact mem_at 20 rfl | exact mem_at 21 rfl) rfl ?_)))) asgAll_nil))
    · intro i hi _
      obtain ⟨e, he, hie⟩ := map_left left hi
      have hel := hl e (List.mem_of_getElem? he)
      have hbl := longUp_len (u := u) (v := v) hl i
      rw [longUp_succ he, he]
      dsimp only
      generalize longUp u v left i = B at hbl ⊢
      refine ex_cons (ex_assign (Γ' := [(Str.ofString "size", .dat (.int (e.1.length : Int))), (Str.ofString "end", .dat (.str (st e.1))), (Str.ofString "turn", .dat (.int (e.2 : Int))), (Str.ofString "best", .dat (bestD B)), (Str.ofString "left", .dat (.list (left.map leD))), (Str.ofString "one", .dat (.str (st u))), (Str.ofString "other", .dat (.str (st v)))]) (ev_call_bi (ev_builtin rfl ((I.into _).gl rfl) rfl) (evl_cons (ev_var (by first | exact mem_at 0 rfl | exact mem_at 1 rfl | exact mem_at 2 rfl | exact mem_at 3 rfl | exact mem_at 4 rfl | exact mem_at 5 rfl | exact mem_at 6 rfl | exact mem_at 7 rfl | exact mem_at 8 rfl | exact mem_at 9 rfl | exact mem_at 10 rfl | exact mem_at 11 rfl | exact mem_at 12 rfl | exact mem_at 13 rfl | exact mem_at 14 rfl | exact mem_at 15 rfl | exact mem_at 16 rfl | exact mem_at 17 rfl | exact mem_at 18 rfl | exact mem_at 19 rfl | exact mem_at 20 rfl | exact mem_at 21 rfl)) evl_nil) (callOk_len_str (by first | decide | assumption | with_reducible exact Int.natCast_nonneg _ | with_reducible exact Nat.le_trans (by assumption) (by decide) | with_reducible exact Nat.lt_of_lt_of_le (by assumption) (by decide) | with_reducible exact lt_mil (Nat.lt_of_lt_of_le (by assumption) (by decide)) | with_reducible exact lt_mil (Nat.lt_of_le_of_lt (by assumption) (by decide)) | with_reducible exact Nat.le_trans (Nat.le_of_lt (by assumption)) (by decide) | (first | lia | omega)))) (by first | exact Or.inl rfl | exact Or.inr ⟨rfl, rfl, rfl⟩) (by intro y ds e; first | (cases e; done) | (cases e; decide)) (Pk.g (by repeat (first | exact Pk.nil | refine Pk.here ?_ | refine Pk.cons (by first | exact mem_at 0 rfl | exact mem_at 1 rfl | exact mem_at 2 rfl | exact mem_at 3 rfl | exact mem_at 4 rfl | exact mem_at 5 rfl | exact mem_at 6 rfl | exact mem_at 7 rfl | exact mem_at 8 rfl | exact mem_at 9 rfl | exact mem_at 10 rfl | exact mem_at 11 rfl | exact mem_at 12 rfl | exact mem_at 13 rfl | exact mem_at 14 rfl | exact mem_at 15 rfl | exact mem_at 16 rfl | exact mem_at 17 rfl | exact mem_at 18 rfl | exact mem_at 19 rfl | exact mem_at 20 rfl | exact mem_at 21 rfl) rfl ?_)))) ?_
      have hs : ∀ {w : List Nat}, w.length = 4 → PyData.str (st (pySl (some (4 - (e.1.length : Int))) none w)) = .str (st (w.drop (4 - e.1.length))) := fun {w} hw => by
        rw [pySl_from _ (by first | decide | assumption | with_reducible exact Int.natCast_nonneg _ | with_reducible exact Nat.le_trans (by assumption) (by decide) | with_reducible exact Nat.lt_of_lt_of_le (by assumption) (by decide) | with_reducible exact lt_mil (Nat.lt_of_lt_of_le (by assumption) (by decide)) | with_reducible exact lt_mil (Nat.lt_of_le_of_lt (by assumption) (by decide)) | with_reducible exact Nat.le_trans (Nat.le_of_lt (by assumption)) (by decide) | (first | lia | omega)), show (4 - (e.1.length : Int)).toNat = 4 - e.1.length by (first | lia | omega)]
      refine ex_one (ex_if (et_and (et_cmp (ev_eq (ev_slice (ev_var (by first | exact mem_at 0 rfl | exact mem_at 1 rfl | exact mem_at 2 rfl | exact mem_at 3 rfl | exact mem_at 4 rfl | exact mem_at 5 rfl | exact mem_at 6 rfl | exact mem_at 7 rfl | exact mem_at 8 rfl | exact mem_at 9 rfl | exact mem_at 10 rfl | exact mem_at 11 rfl | exact mem_at 12 rfl | exact mem_at 13 rfl | exact mem_at 14 rfl | exact mem_at 15 rfl | exact mem_at 16 rfl | exact mem_at 17 rfl | exact mem_at 18 rfl | exact mem_at 19 rfl | exact mem_at 20 rfl | exact mem_at 21 rfl)) (evp_some (ev_bin ev_int (ev_var (by first | exact mem_at 0 rfl | exact mem_at 1 rfl | exact mem_at 2 rfl | exact mem_at 3 rfl | exact mem_at 4 rfl | exact mem_at 5 rfl | exact mem_at 6 rfl | exact mem_at 7 rfl | exact mem_at 8 rfl | exact mem_at 9 rfl | exact mem_at 10 rfl | exact mem_at 11 rfl | exact mem_at 12 rfl | exact mem_at 13 rfl | exact mem_at 14 rfl | exact mem_at 15 rfl | exact mem_at 16 rfl | exact mem_at 17 rfl | exact mem_at 18 rfl | exact mem_at 19 rfl | exact mem_at 20 rfl | exact mem_at 21 rfl)) binR_sub_int)) evp_none evp_none (sliceR_str (by first | decide | assumption | with_reducible exact Int.natCast_nonneg _ | with_reducible exact Nat.le_trans (by assumption) (by decide) | with_reducible exact Nat.lt_of_lt_of_le (by assumption) (by decide) | with_reducible exact lt_mil (Nat.lt_of_lt_of_le (by assumption) (by decide)) | with_reducible exact lt_mil (Nat.lt_of_le_of_lt (by assumption) (by decide)) | with_reducible exact Nat.le_trans (Nat.le_of_lt (by assumption)) (by decide) | (first | lia | omega)))) (congrArg Bd.dat (hs hu))) (ev_var (by first | exact mem_at 0 rfl | exact mem_at 1 rfl | exact mem_at 2 rfl | exact mem_at 3 rfl | exact mem_at 4 rfl | exact mem_at 5 rfl | exact mem_at 6 rfl | exact mem_at 7 rfl | exact mem_at 8 rfl | exact mem_at 9 rfl | exact mem_at 10 rfl | exact mem_at 11 rfl | exact mem_at 12 rfl | exact mem_at 13 rfl | exact mem_at 14 rfl | exact mem_at 15 rfl | exact mem_at 16 rfl | exact mem_at 17 rfl | exact mem_at 18 rfl | exact mem_at 19 rfl | exact mem_at 20 rfl | exact mem_at 21 rfl)) cmpR_eq_str) fun _ =>
        et_and (et_cmp (ev_eq (ev_slice (ev_var (by first | exact mem_at 0 rfl | exact mem_at 1 rfl | exact mem_at 2 rfl | exact mem_at 3 rfl | exact mem_at 4 rfl | exact mem_at 5 rfl | exact mem_at 6 rfl | exact mem_at 7 rfl | exact mem_at 8 rfl | exact mem_at 9 rfl | exact mem_at 10 rfl | exact mem_at 11 rfl | exact mem_at 12 rfl | exact mem_at 13 rfl | exact mem_at 14 rfl | exact mem_at 15 rfl | exact mem_at 16 rfl | exact mem_at 17 rfl | exact mem_at 18 rfl | exact mem_at 19 rfl | exact mem_at 20 rfl | exact mem_at 21 rfl)) (evp_some (ev_bin ev_int (ev_var (by first | exact mem_at 0 rfl | exact mem_at 1 rfl | exact mem_at 2 rfl | exact mem_at 3 rfl | exact mem_at 4 rfl | exact mem_at 5 rfl | exact mem_at 6 rfl | exact mem_at 7 rfl | exact mem_at 8 rfl | exact mem_at 9 rfl | exact mem_at 10 rfl | exact mem_at 11 rfl | exact mem_at 12 rfl | exact mem_at 13 rfl | exact mem_at 14 rfl | exact mem_at 15 rfl | exact mem_at 16 rfl | exact mem_at 17 rfl | exact mem_at 18 rfl | exact mem_at 19 rfl | exact mem_at 20 rfl | exact mem_at 21 rfl)) binR_sub_int)) evp_none evp_none (sliceR_str (by first | decide | assumption | with_reducible exact Int.natCast_nonneg _ | with_reducible exact Nat.le_trans (by assumption) (by decide) | with_reducible exact Nat.lt_of_lt_of_le (by assumption) (by decide) | with_reducible exact lt_mil (Nat.lt_of_lt_of_le (by assumption) (by decide)) | with_reducible exact lt_mil (Nat.lt_of_le_of_lt (by assumption) (by decide)) | with_reducible exact Nat.le_trans (Nat.le_of_lt (by assumption)) (by decide) | (first | lia | omega)))) (congrArg Bd.dat (hs hv))) (ev_var (by first | exact mem_at 0 rfl | exact mem_at 1 rfl | exact mem_at 2 rfl | exact mem_at 3 rfl | exact mem_at 4 rfl | exact mem_at 5 rfl | exact mem_at 6 rfl | exact mem_at 7 rfl | exact mem_at 8 rfl | exact mem_at 9 rfl | exact mem_at 10 rfl | exact mem_at 11 rfl | exact mem_at 12 rfl | exact mem_at 13 rfl | exact mem_at 14 rfl | exact mem_at 15 rfl | exact mem_at 16 rfl | exact mem_at 17 rfl | exact mem_at 18 rfl | exact mem_at 19 rfl | exact mem_at 20 rfl | exact mem_at 21 rfl)) cmpR_eq_str) fun _ =>
        et_and (et_cmp (ev_var (by first | exact mem_at 0 rfl | exact mem_at 1 rfl | exact mem_at 2 rfl | exact mem_at 3 rfl | exact mem_at 4 rfl | exact mem_at 5 rfl | exact mem_at 6 rfl | exact mem_at 7 rfl | exact mem_at 8 rfl | exact mem_at 9 rfl | exact mem_at 10 rfl | exact mem_at 11 rfl | exact mem_at 12 rfl | exact mem_at 13 rfl | exact mem_at 14 rfl | exact mem_at 15 rfl | exact mem_at 16 rfl | exact mem_at 17 rfl | exact mem_at 18 rfl | exact mem_at 19 rfl | exact mem_at 20 rfl | exact mem_at 21 rfl)) (ev_call_bi (ev_builtin rfl ((I.into _).gl rfl) rfl) (evl_cons (ev_item (ev_lst (ev_var (b := .dat (bestD B)) (by first | exact mem_at 0 rfl | exact mem_at 1 rfl | exact mem_at 2 rfl | exact mem_at 3 rfl | exact mem_at 4 rfl | exact mem_at 5 rfl | exact mem_at 6 rfl | exact mem_at 7 rfl | exact mem_at 8 rfl | exact mem_at 9 rfl | exact mem_at 10 rfl | exact mem_at 11 rfl | exact mem_at 12 rfl | exact mem_at 13 rfl | exact mem_at 14 rfl | exact mem_at 15 rfl | exact mem_at 16 rfl | exact mem_at 17 rfl | exact mem_at 18 rfl | exact mem_at 19 rfl | exact mem_at 20 rfl | exact mem_at 21 rfl))) ev_int (getR_list (d := .str (st B.1)) (by first | decide | assumption | with_reducible exact Int.natCast_nonneg _ | with_reducible exact Nat.le_trans (by assumption) (by decide) | with_reducible exact Nat.lt_of_lt_of_le (by assumption) (by decide) | with_reducible exact lt_mil (Nat.lt_of_lt_of_le (by assumption) (by decide)) | with_reducible exact lt_mil (Nat.lt_of_le_of_lt (by assumption) (by decide)) | with_reducible exact Nat.le_trans (Nat.le_of_lt (by assumption)) (by decide) | (first | lia | omega)) rfl (by first | decide | assumption | with_reducible exact Int.natCast_nonneg _ | with_reducible exact Nat.le_trans (by assumption) (by decide) | with_reducible exact Nat.lt_of_lt_of_le (by assumption) (by decide) | with_reducible exact lt_mil (Nat.lt_of_lt_of_le (by assumption) (by decide)) | with_reducible exact lt_mil (Nat.lt_of_le_of_lt (by assumption) (by decide)) | with_reducible exact Nat.le_trans (Nat.le_of_lt (by assumption)) (by decide) | (first | lia | omega)))) evl_nil) (callOk_len_str (by first | decide | assumption | with_reducible exact Int.natCast_nonneg _ | with_reducible exact Nat.le_trans (by assumption) (by decide) | with_reducible exact Nat.lt_of_lt_of_le (by assumption) (by decide) | with_reducible exact lt_mil (Nat.lt_of_lt_of_le (by assumption) (by decide)) | with_reducible exact lt_mil (Nat.lt_of_le_of_lt (by assumption) (by decide)) | with_reducible exact Nat.le_trans (Nat.le_of_lt (by assumption)) (by decide) | (first | lia | omega)))) cmpR_ge_int) fun _ => et_and_nil) ?_ ?_)
      · intro h
        simp only [Bool.and_eq_true, decide_eq_true_eq, Bool.and_true] at h
        unfold longStep
        rw [if_pos ⟨h.1, h.2.1, by (first | lia | omega)⟩]
        exact ex_one (ex_assign (b := .dat (bestD (e.1, (e.2 : Int)))) (ev_list (evd_cons (ev_var (by first | exact mem_at 0 rfl | exact mem_at 1 rfl | exact mem_at 2 rfl | exact mem_at 3 rfl | exact mem_at 4 rfl | exact mem_at 5 rfl | exact mem_at 6 rfl | exact mem_at 7 rfl | exact mem_at 8 rfl | exact mem_at 9 rfl | exact mem_at 10 rfl | exact mem_at 11 rfl | exact mem_at 12 rfl | exact mem_at 13 rfl | exact mem_at 14 rfl | exact mem_at 15 rfl | exact mem_at 16 rfl | exact mem_at 17 rfl | exact mem_at 18 rfl | exact mem_at 19 rfl | exact mem_at 20 rfl | exact mem_at 21 rfl)) (evd_cons (ev_var (by first | exact mem_at 0 rfl | exact mem_at 1 rfl | exact mem_at 2 rfl | exact mem_at 3 rfl | exact mem_at 4 rfl | exact mem_at 5 rfl | exact mem_at 6 rfl | exact mem_at 7 rfl | exact mem_at 8 rfl | exact mem_at 9 rfl | exact mem_at 10 rfl | exact mem_at 11 rfl | exact mem_at 12 rfl | exact mem_at 13 rfl | exact mem_at 14 rfl | exact mem_at 15 rfl | exact mem_at 16 rfl | exact mem_at 17 rfl | exact mem_at 18 rfl | exact mem_at 19 rfl | exact mem_at 20 rfl | exact mem_at 21 rfl)) evd_nil))) (by first | exact Or.inl rfl | exact Or.inr ⟨rfl, rfl, rfl⟩) (by intro y ds e; first | (cases e; done) | (cases e; decide)) (Pk.g (by repeat (first | exact Pk.nil | refine Pk.here ?_ | refine Pk.cons (by first | exact mem_at 0 rfl | exact mem_at 1 rfl | exact mem_at 2 rfl | exact mem_at 3 rfl | exact mem_at 4 rfl | exact mem_at 5 rfl | exact mem_at 6 rfl | exact mem_at 7 rfl | exact mem_at 8 rfl | exact mem_at 9 rfl | exact mem_at 10 rfl | exact mem_at 11 rfl | exact mem_at 12 rfl | exact mem_at 13 rfl | exact mem_at 14 rfl | exact mem_at 15 rfl | exact mem_at 16 rfl | exact mem_at 17 rfl | exact mem_at 18 rfl | exact mem_at 19 rfl | exact mem_at 20 rfl | exact mem_at 21 rfl) rfl ?_))))
      · intro h
        unfold longStep
        rw [if_neg (fun q => by
          rw [decide_eq_true q.1, decide_eq_true q.2.1, decide_eq_true (show ((B.1.length : Nat) : Int) ≤ (e.1.length : Int) by (first | lia | omega))] at h
          cases h)]
        exact ex_sub (Sb.g (by repeat (first | exact Sb.nil | refine Sb.cons (by first | exact mem_at 0 rfl | exact mem_at 1 rfl | exact mem_at 2 rfl | exact mem_at 3 rfl | exact mem_at 4 rfl | exact mem_at 5 rfl | exact mem_at 6 rfl | exact mem_at 7 rfl | exact mem_at 8 rfl | exact mem_at 9 rfl | exact mem_at 10 rfl | exact mem_at 11 rfl | exact mem_at 12 rfl | exact mem_at 13 rfl | exact mem_at 14 rfl | exact mem_at 15 rfl | exact mem_at 16 rfl | exact mem_at 17 rfl | exact mem_at 18 rfl | exact mem_at 19 rfl | exact mem_at 20 rfl | exact mem_at 21 rfl) ?_))) ex_nil
end
end Mine

namespace Mine
open PySem PySem.W PyProof.Rows PySem.Calls
set_option maxRecDepth 100000

def fld (sz c2 k : Nat) : List Nat := (figs (k : Int) 4).reverse ++ List.replicate (sz - 4) c2
/-- all that the law asks of the row, as plain data -/
structure Plain2 (deeds : List (List Nat × Nat)) (sz c0 c1 c2 : Nat) (row : List It) (left : List (List Nat × Nat)) : Prop where
  perm : (left.map fun e => (e.2 : Int)).Perm ((row.filter fun e => decide (e.2.1 = 0)).map fun e => (e.1 : Int))
  asc : (left.map fun e => (e.2 : Int)).Pairwise (· ≤ ·)
  nest : NestOk deeds sz c0 c1 row
  size : row.length = 2 * left.length
  sorted : KSorted row
  len : ∀ e ∈ row, e.2.2.length ≤ 16
  signs : ∀ e ∈ row, ∀ c ∈ e.2.2, c < 0x110000
  place : ∀ k, k < 16 → cntL row (fld sz c2 k) = cntR row (fld sz c2 k)
  told : ∀ k, k < 16 → ∀ o, o < 16 → ∀ j, min (cntL row (fld sz c2 k)) (cntL row (fld sz c2 o)) ≤ j → j ≤ max (cntL row (fld sz c2 k)) (cntL row (fld sz c2 o)) →
    (∀ i, min (cntL row (fld sz c2 k)) (cntL row (fld sz c2 o)) ≤ i → i ≤ max (cntL row (fld sz c2 k)) (cntL row (fld sz c2 o)) → ((pileUp row j).length : Int) ≤ ((pileUp row i).length : Int)) →
    topOf (pileUp row j) = (longUp (figs (k : Int) 4) (figs (o : Int) 4) left left.length).2
def deedOf (x : Int) : List Nat × Nat := (figs (x / 5) (x % 5).toNat, (x / 80 % 3).toNat)
def deedD : PyData → PyData
  | .int x => dD (deedOf x)
  | _ => .none
def tenOf (ns : List Int) : List Int := (ns ++ [1, 12, 1, 34, 1, 161]).take 10
theorem tenOf_len (ns : List Int) : (tenOf ns).length ≤ 10 := by simp [tenOf]; (first | lia | omega)
theorem deedOf_len (x : Int) : (deedOf x).1.length ≤ 4 := by
  unfold deedOf
  rw [figs_length]
  (first | lia | omega)
end Mine

namespace Mine
open PySem PySem.W PyProof.Rows PySem.Calls
set_option maxRecDepth 100000

theorem lt_app {a b : List Nat} (h : a < b) : ∀ w : List Nat, w ++ a < w ++ b
  | [] => h
  | c :: w => List.cons_lt_cons_iff.mpr (.inr ⟨rfl, lt_app h w⟩)
theorem lt_head {a b : Nat} {x y : List Nat} (h : a < b) : a :: x < b :: y := List.cons_lt_cons_iff.mpr (.inl h)
theorem lt_tri {a b : List Nat} (h1 : ¬ a < b) (h2 : ¬ b < a) : a = b := List.le_antisymm (List.not_lt.mp h2) (List.not_lt.mp h1)

def Bits (w : List Nat) : Prop := ∀ c ∈ w, c = 48 ∨ c = 49
theorem key_inj {c : Nat} (hc : c ≠ 48 ∧ c ≠ 49) : ∀ {w w' : List Nat} {m m' : Nat}, Bits w → Bits w' → w ++ List.replicate m c = w' ++ List.replicate m' c → w = w'
  | [], [], _, _, _, _, _ => rfl
  | [], b :: w', m, m', _, hb, e => by
    have hbb := hb b (.head _)
    cases m with
    | zero => cases e
    | succ m => simp only [List.nil_append, List.replicate_succ, List.cons_append, List.cons.injEq] at e; (first | lia | omega)
  | a :: w, [], m, m', ha, _, e => by
    have haa := ha a (.head _)
    cases m' with
    | zero => cases e
    | succ m' => simp only [List.nil_append, List.replicate_succ, List.cons_append, List.cons.injEq] at e; (first | lia | omega)
  | a :: w, b :: w', m, m', ha, hb, e => by
    simp only [List.cons_append, List.cons.injEq] at e
    rw [e.1, key_inj hc (fun c h => ha c (.tail _ h)) (fun c h => hb c (.tail _ h)) e.2]

def lo (sz c0 : Nat) (e : List Nat × Nat) : It := (e.2, 0, lowOf sz c0 e.1)
def hi (sz c1 : Nat) (e : List Nat × Nat) : It := (e.2, 1, lowOf sz c1 e.1)
theorem key_of (sz c : Nat) (w : List Nat) : (lowOf sz c w).reverse = w.reverse ++ List.replicate (sz - w.length) c := by simp [lowOf]
theorem Bits.rev {w : List Nat} (h : Bits w) : Bits w.reverse := fun c hc => h c (List.mem_reverse.mp hc)

/-- the order of the row -/
def Rr (a b : It) : Prop := ky a < ky b ∨ (ky a = ky b ∧ a.2.1 = b.2.1 ∧ ((a.2.1 = 0 ∧ a.1 < b.1) ∨ (a.2.1 = 1 ∧ b.1 < a.1)))
theorem Rr.asymm {a b : It} (h : Rr a b) (h' : Rr b a) : False := by
  rcases h with h | ⟨e, s, h⟩
  · rcases h' with h' | ⟨e', _, _⟩
    · exact List.lt_asymm h h'
    · rw [e'] at h; exact List.lt_irrefl _ h
  · rcases h' with h' | ⟨e', s', h'⟩
    · rw [e] at h'; exact List.lt_irrefl _ h'
    · (first | lia | omega)
theorem Rr.ks {row : List It} (h : row.Pairwise Rr) : KSorted row := h.imp fun {a b} r => by
  rcases r with r | ⟨e, _, _⟩
  · exact List.lt_asymm r
  · rw [e]; exact List.lt_irrefl _
theorem Rr.nodup {row : List It} (h : row.Pairwise Rr) : row.Nodup := h.imp fun {a b} r e => by
  subst e; exact r.asymm r
theorem row_unique {a b : List It} (ha : a.Pairwise Rr) (hb : b.Pairwise Rr) (hm : ∀ x, x ∈ a ↔ x ∈ b) : a = b :=
  ((List.perm_ext_iff_of_nodup (Rr.nodup ha) (Rr.nodup hb)).mpr hm).eq_of_pairwise (fun _ _ _ _ h1 h2 => (h1.asymm h2).elim) ha hb

theorem mem_del {l : List It} (hn : l.Nodup) {p : Nat} (hp : p < l.length) {x : It} : x ∈ l.take p ++ l.drop (p + 1) ↔ x ∈ l ∧ x ≠ l[p] := by
  have e : l = l.take p ++ l[p] :: l.drop (p + 1) := by
    rw [← List.drop_eq_getElem_cons hp, List.take_append_drop]
  have hn' := hn
  rw [e, List.nodup_append] at hn'
  obtain ⟨n1, n2, n3⟩ := hn'
  have n4 := (List.nodup_cons.mp n2).1
  constructor
  · intro h
    rcases List.mem_append.mp h with h | h
    · exact ⟨List.mem_of_mem_take h, n3 x h _ (.head _)⟩
    · exact ⟨List.mem_of_mem_drop h, fun q => n4 (q ▸ h)⟩
  · rintro ⟨h, hne⟩
    rw [e] at h
    rcases List.mem_append.mp h with h | h
    · exact List.mem_append.mpr (.inl h)
    · rcases List.mem_cons.mp h with h | h
      · exact absurd h hne
      · exact List.mem_append.mpr (.inr h)

section
variable {sz c0 c1 : Nat}
structure LOk (left : List (List Nat × Nat)) (k : Nat) : Prop where
  bits : ∀ e ∈ left, Bits e.1
  len : ∀ e ∈ left, e.1.length ≤ 4
  lt : ∀ e ∈ left, e.2 < k
  asc : left.Pairwise fun a b => a.2 < b.2
theorem LOk.inj {left : List (List Nat × Nat)} {k : Nat} (h : LOk left k) {a b : List Nat × Nat} (ha : a ∈ left) (hb : b ∈ left) (e : a.2 = b.2) : a = b := by
  have hp : left.Pairwise fun a b => a.2 ≠ b.2 := h.asc.imp fun h => by (first | lia | omega)
  obtain ⟨i, hi, rfl⟩ := List.getElem_of_mem ha
  obtain ⟨j, hj, rfl⟩ := List.getElem_of_mem hb
  rcases Nat.lt_trichotomy i j with q | q | q
  · exact absurd e (List.pairwise_iff_getElem.mp hp i j hi hj q)
  · subst q; rfl
  · exact absurd e.symm (List.pairwise_iff_getElem.mp hp j i hj hi q)
structure ROk (sz c0 c1 : Nat) (row : List It) (left : List (List Nat × Nat)) : Prop where
  pw : row.Pairwise Rr
  mem : ∀ x, x ∈ row ↔ ∃ e ∈ left, x = lo sz c0 e ∨ x = hi sz c1 e

theorem ky_lo (e : List Nat × Nat) : ky (lo sz c0 e) = e.1.reverse ++ List.replicate (sz - e.1.length) c0 := key_of _ _ _
theorem ky_hi (e : List Nat × Nat) : ky (hi sz c1 e) = e.1.reverse ++ List.replicate (sz - e.1.length) c1 := key_of _ _ _
theorem last_of_key {w : List Nat} {m c : Nat} (h : 0 < m) : (w ++ List.replicate m c).getLast? = some c := by
  obtain ⟨m, rfl⟩ : ∃ k, m = k + 1 := ⟨m - 1, by (first | lia | omega)⟩
  rw [List.replicate_succ', ← List.append_assoc, List.getLast?_concat]
/-- whose key it is -/
theorem of_key_lo (h5 : 5 ≤ sz) (h0 : c0 < 48) (h1 : 49 < c1) {left : List (List Nat × Nat)} {k : Nat} (hl : LOk left k) {w : List Nat} (hw : Bits w) (hw4 : w.length ≤ 4) {e : List Nat × Nat} (he : e ∈ left) {x : It} (hx : x = lo sz c0 e ∨ x = hi sz c1 e)
    (hk : ky x = (lowOf sz c0 w).reverse) : x = lo sz c0 e ∧ e.1 = w := by
  have h4 := hl.len e he
  rw [key_of] at hk
  rcases hx with rfl | rfl
  · rw [ky_lo] at hk
    have := key_inj (by first | decide | assumption | with_reducible exact Int.natCast_nonneg _ | with_reducible exact Nat.le_trans (by assumption) (by decide) | with_reducible exact Nat.lt_of_lt_of_le (by assumption) (by decide) | with_reducible exact lt_mil (Nat.lt_of_lt_of_le (by assumption) (by decide)) | with_reducible exact lt_mil (Nat.lt_of_le_of_lt (by assumption) (by decide)) | with_reducible exact Nat.le_trans (Nat.le_of_lt (by assumption)) (by decide) | (first | lia | omega)) (hl.bits e he).rev hw.rev hk
    exact ⟨rfl, List.reverse_inj.mp this⟩
  · rw [ky_hi] at hk
    have := congrArg List.getLast? hk
    rw [last_of_key (by first | decide | assumption | with_reducible exact Int.natCast_nonneg _ | with_reducible exact Nat.le_trans (by assumption) (by decide) | with_reducible exact Nat.lt_of_lt_of_le (by assumption) (by decide) | with_reducible exact lt_mil (Nat.lt_of_lt_of_le (by assumption) (by decide)) | with_reducible exact lt_mil (Nat.lt_of_le_of_lt (by assumption) (by decide)) | with_reducible exact Nat.le_trans (Nat.le_of_lt (by assumption)) (by decide) | (first | lia | omega)), last_of_key (by first | decide | assumption | with_reducible exact Int.natCast_nonneg _ | with_reducible exact Nat.le_trans (by assumption) (by decide) | with_reducible exact Nat.lt_of_lt_of_le (by assumption) (by decide) | with_reducible exact lt_mil (Nat.lt_of_lt_of_le (by assumption) (by decide)) | with_reducible exact lt_mil (Nat.lt_of_le_of_lt (by assumption) (by decide)) | with_reducible exact Nat.le_trans (Nat.le_of_lt (by assumption)) (by decide) | (first | lia | omega))] at this
    cases this
    (first | lia | omega)
theorem of_key_hi (h5 : 5 ≤ sz) (h0 : c0 < 48) (h1 : 49 < c1) {left : List (List Nat × Nat)} {k : Nat} (hl : LOk left k) {w : List Nat} (hw : Bits w) (hw4 : w.length ≤ 4) {e : List Nat × Nat} (he : e ∈ left) {x : It} (hx : x = lo sz c0 e ∨ x = hi sz c1 e)
    (hk : ky x = (lowOf sz c1 w).reverse) : x = hi sz c1 e ∧ e.1 = w := by
  have h4 := hl.len e he
  rw [key_of] at hk
  rcases hx with rfl | rfl
  · rw [ky_lo] at hk
    have := congrArg List.getLast? hk
    rw [last_of_key (by first | decide | assumption | with_reducible exact Int.natCast_nonneg _ | with_reducible exact Nat.le_trans (by assumption) (by decide) | with_reducible exact Nat.lt_of_lt_of_le (by assumption) (by decide) | with_reducible exact lt_mil (Nat.lt_of_lt_of_le (by assumption) (by decide)) | with_reducible exact lt_mil (Nat.lt_of_le_of_lt (by assumption) (by decide)) | with_reducible exact Nat.le_trans (Nat.le_of_lt (by assumption)) (by decide) | (first | lia | omega)), last_of_key (by first | decide | assumption | with_reducible exact Int.natCast_nonneg _ | with_reducible exact Nat.le_trans (by assumption) (by decide) | with_reducible exact Nat.lt_of_lt_of_le (by assumption) (by decide) | with_reducible exact lt_mil (Nat.lt_of_lt_of_le (by assumption) (by decide)) | with_reducible exact lt_mil (Nat.lt_of_le_of_lt (by assumption) (by decide)) | with_reducible exact Nat.le_trans (Nat.le_of_lt (by assumption)) (by decide) | (first | lia | omega))] at this
    cases this
    (first | lia | omega)
  · rw [ky_hi] at hk
    have := key_inj (by first | decide | assumption | with_reducible exact Int.natCast_nonneg _ | with_reducible exact Nat.le_trans (by assumption) (by decide) | with_reducible exact Nat.lt_of_lt_of_le (by assumption) (by decide) | with_reducible exact lt_mil (Nat.lt_of_lt_of_le (by assumption) (by decide)) | with_reducible exact lt_mil (Nat.lt_of_le_of_lt (by assumption) (by decide)) | with_reducible exact Nat.le_trans (Nat.le_of_lt (by assumption)) (by decide) | (first | lia | omega)) (hl.bits e he).rev hw.rev hk
    exact ⟨rfl, List.reverse_inj.mp this⟩

theorem ROk.ins (h5 : 5 ≤ sz) (h0 : c0 < 48) (h1 : 49 < c1) {left : List (List Nat × Nat)} {k : Nat} (hl : LOk left k) {row : List It} (h : ROk sz c0 c1 row left) {w : List Nat} (hw : Bits w) (hw4 : w.length ≤ 4) :
    ROk sz c0 c1 (insAt (insAt row (cntR row (lowOf sz c0 w).reverse) (k, 0, lowOf sz c0 w)) (cntL (insAt row (cntR row (lowOf sz c0 w).reverse) (k, 0, lowOf sz c0 w)) (lowOf sz c1 w).reverse) (k, 1, lowOf sz c1 w)) (left ++ [(w, k)]) := by
  have p1 : (insAt row (cntR row (lowOf sz c0 w).reverse) (k, 0, lowOf sz c0 w)).Pairwise Rr := by
    refine pairwise_insAt h.pw (fun a ha => ?_) fun b hb => .inl (mem_drop_cntR (Rr.ks h.pw) hb)
    have h2 := mem_take_cntR (Rr.ks h.pw) ha
    by_cases h3 : ky a < (lowOf sz c0 w).reverse
    · exact .inl h3
    · have e := lt_tri h3 h2
      obtain ⟨e', he', hx⟩ := (h.mem a).mp (List.mem_of_mem_take ha)
      obtain ⟨rfl, _⟩ := of_key_lo h5 h0 h1 hl hw hw4 he' hx e
      exact .inr ⟨e, rfl, .inl ⟨rfl, hl.lt e' he'⟩⟩
  generalize hr1 : insAt row (cntR row (lowOf sz c0 w).reverse) (k, 0, lowOf sz c0 w) = r1 at p1 ⊢
  have m1 : ∀ x, x ∈ r1 ↔ x = (k, 0, lowOf sz c0 w) ∨ x ∈ row := fun x => by rw [← hr1]; exact mem_insAt
  refine ⟨?_, fun x => ?_⟩
  · refine pairwise_insAt p1 (fun a ha => .inl (mem_take_cntL (Rr.ks p1) ha)) fun b hb => ?_
    have h2 := mem_drop_cntL (Rr.ks p1) hb
    by_cases h3 : (lowOf sz c1 w).reverse < ky b
    · exact .inl h3
    · have e := lt_tri h2 h3
      rcases (m1 b).mp (List.mem_of_mem_drop hb) with rfl | hb'
      · have e : (lowOf sz c0 w).reverse = (lowOf sz c1 w).reverse := e
        rw [key_of, key_of] at e
        have := congrArg List.getLast? e
        rw [last_of_key (by first | decide | assumption | with_reducible exact Int.natCast_nonneg _ | with_reducible exact Nat.le_trans (by assumption) (by decide) | with_reducible exact Nat.lt_of_lt_of_le (by assumption) (by decide) | with_reducible exact lt_mil (Nat.lt_of_lt_of_le (by assumption) (by decide)) | with_reducible exact lt_mil (Nat.lt_of_le_of_lt (by assumption) (by decide)) | with_reducible exact Nat.le_trans (Nat.le_of_lt (by assumption)) (by decide) | (first | lia | omega)), last_of_key (by first | decide | assumption | with_reducible exact Int.natCast_nonneg _ | with_reducible exact Nat.le_trans (by assumption) (by decide) | with_reducible exact Nat.lt_of_lt_of_le (by assumption) (by decide) | with_reducible exact lt_mil (Nat.lt_of_lt_of_le (by assumption) (by decide)) | with_reducible exact lt_mil (Nat.lt_of_le_of_lt (by assumption) (by decide)) | with_reducible exact Nat.le_trans (Nat.le_of_lt (by assumption)) (by decide) | (first | lia | omega))] at this
        cases this
        (first | lia | omega)
      · obtain ⟨e', he', hx⟩ := (h.mem b).mp hb'
        obtain ⟨rfl, _⟩ := of_key_hi h5 h0 h1 hl hw hw4 he' hx e
        exact .inr ⟨e.symm, rfl, .inr ⟨rfl, hl.lt e' he'⟩⟩
  · rw [mem_insAt, m1, h.mem]
    constructor
    · rintro (rfl | rfl | ⟨e, he, hx⟩)
      · exact ⟨(w, k), List.mem_append.mpr (.inr (.head _)), .inr rfl⟩
      · exact ⟨(w, k), List.mem_append.mpr (.inr (.head _)), .inl rfl⟩
      · exact ⟨e, List.mem_append.mpr (.inl he), hx⟩
    · rintro ⟨e, he, hx⟩
      rcases List.mem_append.mp he with he | he
      · exact .inr (.inr ⟨e, he, hx⟩)
      · rw [List.mem_singleton] at he
        subst he
        rcases hx with rfl | rfl
        · exact .inr (.inl rfl)
        · exact .inl rfl

theorem ROk.del_none (h5 : 5 ≤ sz) (h0 : c0 < 48) (h1 : 49 < c1) {left : List (List Nat × Nat)} {k : Nat} (hl : LOk left k) {row : List It} (h : ROk sz c0 c1 row left) {w : List Nat} (hw : Bits w) (hw4 : w.length ≤ 4)
    (hB : ∀ e ∈ left, e.1 ≠ w) : ¬ cntL row (lowOf sz c0 w).reverse < cntR row (lowOf sz c0 w).reverse := fun hlt => by
  have hle := cntR_le row (lowOf sz c0 w).reverse
  have hi : cntL row (lowOf sz c0 w).reverse < row.length := by (first | lia | omega)
  have e1 := cntL_at (Rr.ks h.pw) (lowOf sz c0 w).reverse _ hi
  have e2 := cntR_at (Rr.ks h.pw) (lowOf sz c0 w).reverse _ hi
  have e1 := e1.trans (decide_eq_false (Nat.lt_irrefl _))
  have e2 := e2.trans (decide_eq_false (by first | decide | assumption | with_reducible exact Int.natCast_nonneg _ | with_reducible exact Nat.le_trans (by assumption) (by decide) | with_reducible exact Nat.lt_of_lt_of_le (by assumption) (by decide) | with_reducible exact lt_mil (Nat.lt_of_lt_of_le (by assumption) (by decide)) | with_reducible exact lt_mil (Nat.lt_of_le_of_lt (by assumption) (by decide)) | with_reducible exact Nat.le_trans (Nat.le_of_lt (by assumption)) (by decide) | (first | lia | omega)))
  have e := lt_tri (of_decide_eq_false e1) (of_decide_eq_false e2)
  obtain ⟨e', he', hx⟩ := (h.mem _).mp (List.getElem_mem hi)
  exact hB e' he' (of_key_lo h5 h0 h1 hl hw hw4 he' hx e).2

theorem ROk.del (h5 : 5 ≤ sz) (h0 : c0 < 48) (h1 : 49 < c1) {left : List (List Nat × Nat)} {k : Nat} (hl : LOk left k) {row : List It} (h : ROk sz c0 c1 row left) {z : List Nat × Nat} (hz : z ∈ left) (hmax : ∀ e ∈ left, e.1 = z.1 → e.2 ≤ z.2) :
    cntL row (lowOf sz c0 z.1).reverse < cntR row (lowOf sz c0 z.1).reverse ∧
    ROk sz c0 c1 ((row.take (cntR row (lowOf sz c0 z.1).reverse - 1) ++ row.drop (cntR row (lowOf sz c0 z.1).reverse)).take (cntL (row.take (cntR row (lowOf sz c0 z.1).reverse - 1) ++ row.drop (cntR row (lowOf sz c0 z.1).reverse)) (lowOf sz c1 z.1).reverse) ++
      (row.take (cntR row (lowOf sz c0 z.1).reverse - 1) ++ row.drop (cntR row (lowOf sz c0 z.1).reverse)).drop (cntL (row.take (cntR row (lowOf sz c0 z.1).reverse - 1) ++ row.drop (cntR row (lowOf sz c0 z.1).reverse)) (lowOf sz c1 z.1).reverse + 1)) (left.filter fun e => decide (e ≠ z)) := by
  have hw := hl.bits z hz
  have hw4 := hl.len z hz
  have ks := Rr.ks h.pw
  have hzr : lo sz c0 z ∈ row := (h.mem _).mpr ⟨z, hz, .inl rfl⟩
  obtain ⟨i, hi', hiz⟩ := List.getElem_of_mem hzr
  have kz : ky row[i] = (lowOf sz c0 z.1).reverse := by rw [hiz]; rfl
  have e1 := cntL_at ks (lowOf sz c0 z.1).reverse i hi'
  have e2 := cntR_at ks (lowOf sz c0 z.1).reverse i hi'
  rw [kz, decide_eq_false (List.lt_irrefl _)] at e1 e2
  have e1 := of_decide_eq_false e1.symm
  have e2 := of_decide_eq_false e2.symm
  have hle := cntR_le row (lowOf sz c0 z.1).reverse
  generalize hq : cntR row (lowOf sz c0 z.1).reverse - 1 = q
  have hqq : cntR row (lowOf sz c0 z.1).reverse = q + 1 := by (first | lia | omega)
  have hqr : q < row.length := by (first | lia | omega)
  have hqz : row[q] = lo sz c0 z := by
    by_cases hlt : i < q
    · have r := List.pairwise_iff_getElem.mp h.pw i q hi' hqr hlt
      have a1 := cntR_at ks (lowOf sz c0 z.1).reverse q hqr
      rw [decide_eq_false (show ¬ cntR row (lowOf sz c0 z.1).reverse ≤ q by (first | lia | omega))] at a1
      have a1 := of_decide_eq_false a1
      rw [hiz] at r
      rcases r with r | ⟨ek, es, r⟩
      · exact absurd r a1
      · obtain ⟨e', he', hx⟩ := (h.mem _).mp (List.getElem_mem hqr)
        obtain ⟨ex, ew⟩ := of_key_lo h5 h0 h1 hl hw hw4 he' hx ek.symm
        have := hmax e' he' ew
        rw [ex] at r
        rcases r with ⟨_, r⟩ | ⟨r, _⟩
        · have r : z.2 < e'.2 := r
          (first | lia | omega)
        · cases r
    · have : i = q := by (first | lia | omega)
      subst this; exact hiz
  refine ⟨by (first | lia | omega), ?_⟩
  rw [hqq]
  have m1 := fun x => mem_del (Rr.nodup h.pw) hqr (x := x)
  have p1 : (row.take q ++ row.drop (q + 1)).Pairwise Rr := h.pw.sublist (take_drop_sub row q (q + 1) (by first | decide | assumption | with_reducible exact Int.natCast_nonneg _ | with_reducible exact Nat.le_trans (by assumption) (by decide) | with_reducible exact Nat.lt_of_lt_of_le (by assumption) (by decide) | with_reducible exact lt_mil (Nat.lt_of_lt_of_le (by assumption) (by decide)) | with_reducible exact lt_mil (Nat.lt_of_le_of_lt (by assumption) (by decide)) | with_reducible exact Nat.le_trans (Nat.le_of_lt (by assumption)) (by decide) | (first | lia | omega)))
  generalize row.take q ++ row.drop (q + 1) = r1 at m1 p1 ⊢
  rw [hqz] at m1
  have ks1 := Rr.ks p1
  have hzr1 : hi sz c1 z ∈ r1 := (m1 _).mpr ⟨(h.mem _).mpr ⟨z, hz, .inr rfl⟩, fun e => by cases congrArg (·.2.1) e⟩
  obtain ⟨j, hj, hjz⟩ := List.getElem_of_mem hzr1
  have kz1 : ky r1[j] = (lowOf sz c1 z.1).reverse := by rw [hjz]; rfl
  have f1 := cntL_at ks1 (lowOf sz c1 z.1).reverse j hj
  rw [kz1, decide_eq_false (List.lt_irrefl _)] at f1
  have f1 := of_decide_eq_false f1.symm
  generalize hp : cntL r1 (lowOf sz c1 z.1).reverse = p at f1
  have hpr : p < r1.length := by (first | lia | omega)
  have hpz : r1[p] = hi sz c1 z := by
    by_cases hlt : p < j
    · have r := List.pairwise_iff_getElem.mp p1 p j hpr hj hlt
      have a1 := cntL_at ks1 (lowOf sz c1 z.1).reverse p hpr
      rw [decide_eq_false (show ¬ p < cntL r1 (lowOf sz c1 z.1).reverse by (first | lia | omega))] at a1
      have a1 := of_decide_eq_false a1
      rw [hjz] at r
      rcases r with r | ⟨ek, es, r⟩
      · exact absurd r a1
      · obtain ⟨e', he', hx⟩ := (h.mem _).mp ((m1 _).mp (List.getElem_mem hpr)).1
        obtain ⟨ex, ew⟩ := of_key_hi h5 h0 h1 hl hw hw4 he' hx ek
        have := hmax e' he' ew
        rw [ex] at r
        rcases r with ⟨r, _⟩ | ⟨_, r⟩
        · cases r
        · have r : z.2 < e'.2 := r
          (first | lia | omega)
    · have : j = p := by (first | lia | omega)
      subst this; exact hjz
  refine ⟨p1.sublist (take_drop_sub r1 p (p + 1) (by first | decide | assumption | with_reducible exact Int.natCast_nonneg _ | with_reducible exact Nat.le_trans (by assumption) (by decide) | with_reducible exact Nat.lt_of_lt_of_le (by assumption) (by decide) | with_reducible exact lt_mil (Nat.lt_of_lt_of_le (by assumption) (by decide)) | with_reducible exact lt_mil (Nat.lt_of_le_of_lt (by assumption) (by decide)) | with_reducible exact Nat.le_trans (Nat.le_of_lt (by assumption)) (by decide) | (first | lia | omega))), fun x => ?_⟩
  rw [mem_del (Rr.nodup p1) hpr, hpz, m1, h.mem]
  constructor
  · rintro ⟨⟨⟨e, he, hx⟩, n1⟩, n2⟩
    refine ⟨e, List.mem_filter.mpr ⟨he, decide_eq_true fun q => ?_⟩, hx⟩
    subst q
    rcases hx with hx | hx
    · exact n1 hx
    · exact n2 hx
  · rintro ⟨e, he, hx⟩
    obtain ⟨he, hne⟩ := List.mem_filter.mp he
    have hne := of_decide_eq_true hne
    refine ⟨⟨⟨e, he, hx⟩, fun q => ?_⟩, fun q => ?_⟩
    · rcases hx with hx | hx
      · exact hne (hl.inj he hz (by have := congrArg (·.1) (hx.symm.trans q); exact this))
      · cases congrArg (·.2.1) (hx.symm.trans q)
    · rcases hx with hx | hx
      · cases congrArg (·.2.1) (hx.symm.trans q)
      · exact hne (hl.inj he hz (by have := congrArg (·.1) (hx.symm.trans q); exact this))

theorem lOk_step {left : List (List Nat × Nat)} {k : Nat} (hl : LOk left k) {dd : List Nat × Nat} (hb : Bits dd.1) (h4 : dd.1.length ≤ 4) : LOk (leftStep left k dd) (k + 1) := by
  have fil : ∀ p : List Nat × Nat → Bool, LOk (left.filter p) (k + 1) := fun p =>
    ⟨fun e he => hl.bits e (List.mem_filter.mp he).1, fun e he => hl.len e (List.mem_filter.mp he).1, fun e he => by have := hl.lt e (List.mem_filter.mp he).1; (first | lia | omega), hl.asc.filter p⟩
  unfold leftStep
  split
  · refine ⟨fun e he => ?_, fun e he => ?_, fun e he => ?_, ?_⟩
    · rcases List.mem_append.mp he with he | he
      · exact hl.bits e he
      · rw [List.mem_singleton] at he; subst he; exact hb
    · rcases List.mem_append.mp he with he | he
      · exact hl.len e he
      · rw [List.mem_singleton] at he; subst he; exact h4
    · rcases List.mem_append.mp he with he | he
      · have := hl.lt e he; (first | lia | omega)
      · rw [List.mem_singleton] at he; subst he; show k < k + 1; (first | lia | omega)
    · rw [List.pairwise_append]
      refine ⟨hl.asc, List.pairwise_singleton _ _, fun a ha b hb' => ?_⟩
      rw [List.mem_singleton] at hb'
      subst hb'
      exact hl.lt a ha
  · split
    · exact fil _
    · exact ⟨hl.bits, hl.len, fun e he => by have := hl.lt e he; (first | lia | omega), hl.asc⟩

theorem rOk_up (h5 : 5 ≤ sz) (h0 : c0 < 48) (h1 : 49 < c1) {deeds : List (List Nat × Nat)} (hb : ∀ d ∈ deeds, Bits d.1) (h4 : ∀ d ∈ deeds, d.1.length ≤ 4) : ∀ k, LOk (leftUp deeds k) k ∧ ROk sz c0 c1 (rowUp sz c0 c1 deeds k) (leftUp deeds k)
  | 0 => by
    refine ⟨⟨?_, ?_, ?_, List.Pairwise.nil⟩, List.Pairwise.nil, fun x => ⟨fun h => (nomatch h), fun ⟨e, he, _⟩ => (nomatch he)⟩⟩ <;> (intro e he; cases he)
  | k + 1 => by
    obtain ⟨hl, h⟩ := rOk_up h5 h0 h1 hb h4 k
    unfold leftUp rowUp
    cases hd : deeds[k]? with
    | none =>
      dsimp only
      exact ⟨⟨hl.bits, hl.len, fun e he => by have := hl.lt e he; (first | lia | omega), hl.asc⟩, h⟩
    | some dd =>
      dsimp only
      have hbd := hb _ (List.mem_of_getElem? hd)
      have h4d := h4 _ (List.mem_of_getElem? hd)
      refine ⟨lOk_step hl hbd h4d, ?_⟩
      unfold leftStep stepRow
      by_cases hne : dd.2 ≠ 2
      · rw [if_pos hne, if_pos hne]
        exact h.ins h5 h0 h1 hl hbd h4d
      · rw [if_neg hne, if_neg hne]
        cases hB : (List.filter (fun e => decide (e.1 = dd.1)) (leftUp deeds k)).getLast? with
        | none =>
          dsimp only
          rw [if_neg (h.del_none h5 h0 h1 hl hbd h4d fun e he q => by
            have := List.getLast?_eq_none_iff.mp hB
            have hm : e ∈ List.filter (fun e => decide (e.1 = dd.1)) (leftUp deeds k) := List.mem_filter.mpr ⟨he, decide_eq_true q⟩
            rw [this] at hm
            cases hm)]
          exact h
        | some z =>
          dsimp only
          obtain ⟨B, hBz⟩ := List.getLast?_eq_some_iff.mp hB
          have hzm := List.mem_of_getLast? hB
          obtain ⟨hz, hzw⟩ := List.mem_filter.mp hzm
          have hzw := of_decide_eq_true hzw
          have hmax : ∀ e ∈ leftUp deeds k, e.1 = z.1 → e.2 ≤ z.2 := fun e he q => by
            have hm : e ∈ List.filter (fun e => decide (e.1 = dd.1)) (leftUp deeds k) := List.mem_filter.mpr ⟨he, decide_eq_true (q.trans hzw)⟩
            have ha := hl.asc.filter (fun e => decide (e.1 = dd.1))
            rw [hBz, List.pairwise_append] at ha
            rw [hBz] at hm
            rcases List.mem_append.mp hm with hm | hm
            · have := ha.2.2 e hm z (.head _); (first | lia | omega)
            · rw [List.mem_singleton] at hm; subst hm; (first | lia | omega)
          obtain ⟨a1, a2⟩ := h.del h5 h0 h1 hl hz hmax
          rw [← hzw, if_pos a1]
          exact a2
end
end Mine

namespace Mine
open PySem PySem.W PyProof.Rows PySem.Calls
set_option maxRecDepth 100000

def tn (left : List (List Nat × Nat)) (w : List Nat) : List (List Nat × Nat) := left.filter fun e => decide (e.1.reverse = w)
def turns (left : List (List Nat × Nat)) (w : List Nat) : List Nat := (tn left w).map (·.2)
def lows (sz c0 : Nat) (left : List (List Nat × Nat)) (w : List Nat) : List It := (tn left w).map (lo sz c0)
def his (sz c1 : Nat) (left : List (List Nat × Nat)) (w : List Nat) : List It := (tn left w).reverse.map (hi sz c1)
def nest (sz c0 c1 : Nat) (left : List (List Nat × Nat)) : Nat → List Nat → List It
  | 0, w => lows sz c0 left w ++ his sz c1 left w
  | f + 1, w => lows sz c0 left w ++ (nest sz c0 c1 left f (w ++ [48]) ++ (nest sz c0 c1 left f (w ++ [49]) ++ his sz c1 left w))
theorem mem_tn {left : List (List Nat × Nat)} {w : List Nat} {e : List Nat × Nat} : e ∈ tn left w ↔ e ∈ left ∧ e.1.reverse = w := by
  unfold tn; rw [List.mem_filter, decide_eq_true_iff]

section
variable {sz c0 c1 : Nat} {left : List (List Nat × Nat)} {k : Nat}
theorem mem_lows {w : List Nat} {x : It} : x ∈ lows sz c0 left w ↔ ∃ e ∈ left, x = lo sz c0 e ∧ e.1.reverse = w := by
  unfold lows
  rw [List.mem_map]
  constructor
  · rintro ⟨e, he, rfl⟩; exact ⟨e, (mem_tn.mp he).1, rfl, (mem_tn.mp he).2⟩
  · rintro ⟨e, he, rfl, hw⟩; exact ⟨e, mem_tn.mpr ⟨he, hw⟩, rfl⟩
theorem mem_his {w : List Nat} {x : It} : x ∈ his sz c1 left w ↔ ∃ e ∈ left, x = hi sz c1 e ∧ e.1.reverse = w := by
  unfold his
  rw [List.mem_map]
  constructor
  · rintro ⟨e, he, rfl⟩; have he := List.mem_reverse.mp he; exact ⟨e, (mem_tn.mp he).1, rfl, (mem_tn.mp he).2⟩
  · rintro ⟨e, he, rfl, hw⟩; exact ⟨e, List.mem_reverse.mpr (mem_tn.mpr ⟨he, hw⟩), rfl⟩
theorem mem_nest : ∀ {f : Nat} {w : List Nat} {x : It}, x ∈ nest sz c0 c1 left f w ↔ ∃ e ∈ left, (x = lo sz c0 e ∨ x = hi sz c1 e) ∧ ∃ s, Bits s ∧ s.length ≤ f ∧ e.1.reverse = w ++ s
  | 0, w, x => by
    unfold nest
    rw [List.mem_append, mem_lows, mem_his]
    constructor
    · rintro (⟨e, he, hx, hw⟩ | ⟨e, he, hx, hw⟩)
      · exact ⟨e, he, .inl hx, [], (fun c hc => by cases hc), Nat.le_refl _, by rw [hw, List.append_nil]⟩
      · exact ⟨e, he, .inr hx, [], (fun c hc => by cases hc), Nat.le_refl _, by rw [hw, List.append_nil]⟩
    · rintro ⟨e, he, hx, s, _, hs, hw⟩
      have : s = [] := List.length_eq_zero_iff.mp (by first | decide | assumption | with_reducible exact Int.natCast_nonneg _ | with_reducible exact Nat.le_trans (by assumption) (by decide) | with_reducible exact Nat.lt_of_lt_of_le (by assumption) (by decide) | with_reducible exact lt_mil (Nat.lt_of_lt_of_le (by assumption) (by decide)) | with_reducible exact lt_mil (Nat.lt_of_le_of_lt (by assumption) (by decide)) | with_reducible exact Nat.le_trans (Nat.le_of_lt (by assumption)) (by decide) | (first | lia | omega))
      subst this
      rw [List.append_nil] at hw
      rcases hx with hx | hx
      · exact .inl ⟨e, he, hx, hw⟩
      · exact .inr ⟨e, he, hx, hw⟩
  | f + 1, w, x => by
    unfold nest
    rw [List.mem_append, List.mem_append, List.mem_append, mem_lows, mem_his, mem_nest, mem_nest]
    constructor
    · rintro (⟨e, he, hx, hw⟩ | ⟨e, he, hx, s, hb, hs, hw⟩ | ⟨e, he, hx, s, hb, hs, hw⟩ | ⟨e, he, hx, hw⟩)
      · exact ⟨e, he, .inl hx, [], (fun c hc => by cases hc), by simp, by rw [hw, List.append_nil]⟩
      · refine ⟨e, he, hx, 48 :: s, fun c hc => ?_, by simp; (first | lia | omega), by rw [hw]; simp⟩
        rcases List.mem_cons.mp hc with rfl | hc
        · exact .inl rfl
        · exact hb c hc
      · refine ⟨e, he, hx, 49 :: s, fun c hc => ?_, by simp; (first | lia | omega), by rw [hw]; simp⟩
        rcases List.mem_cons.mp hc with rfl | hc
        · exact .inr rfl
        · exact hb c hc
      · exact ⟨e, he, .inr hx, [], (fun c hc => by cases hc), by simp, by rw [hw, List.append_nil]⟩
    · rintro ⟨e, he, hx, s, hb, hs, hw⟩
      cases s with
      | nil =>
        rw [List.append_nil] at hw
        rcases hx with hx | hx
        · exact .inl ⟨e, he, hx, hw⟩
        · exact .inr (.inr (.inr ⟨e, he, hx, hw⟩))
      | cons c s =>
        have hb' : Bits s := fun c hc => hb c (.tail _ hc)
        have hs' : s.length ≤ f := by simp at hs; (first | lia | omega)
        rcases hb c (.head _) with rfl | rfl
        · exact .inr (.inl ⟨e, he, hx, s, hb', hs', by rw [hw]; simp⟩)
        · exact .inr (.inr (.inl ⟨e, he, hx, s, hb', hs', by rw [hw]; simp⟩))

theorem rep_cons {m c : Nat} (h : 0 < m) : List.replicate m c = c :: List.replicate (m - 1) c := by
  obtain ⟨m, rfl⟩ : ∃ k, m = k + 1 := ⟨m - 1, by (first | lia | omega)⟩
  rw [List.replicate_succ]; rfl
theorem ky_lows (h5 : 5 ≤ sz) (hl : LOk left k) {w : List Nat} {x : It} (h : x ∈ lows sz c0 left w) : ∃ t, ky x = w ++ c0 :: t := by
  obtain ⟨e, he, rfl, hw⟩ := mem_lows.mp h
  have := hl.len e he
  exact ⟨_, by rw [ky_lo, hw, rep_cons (by first | decide | assumption | with_reducible exact Int.natCast_nonneg _ | with_reducible exact Nat.le_trans (by assumption) (by decide) | with_reducible exact Nat.lt_of_lt_of_le (by assumption) (by decide) | with_reducible exact lt_mil (Nat.lt_of_lt_of_le (by assumption) (by decide)) | with_reducible exact lt_mil (Nat.lt_of_le_of_lt (by assumption) (by decide)) | with_reducible exact Nat.le_trans (Nat.le_of_lt (by assumption)) (by decide) | (first | lia | omega))]⟩
theorem ky_his (h5 : 5 ≤ sz) (hl : LOk left k) {w : List Nat} {x : It} (h : x ∈ his sz c1 left w) : ∃ t, ky x = w ++ c1 :: t := by
  obtain ⟨e, he, rfl, hw⟩ := mem_his.mp h
  have := hl.len e he
  exact ⟨_, by rw [ky_hi, hw, rep_cons (by first | decide | assumption | with_reducible exact Int.natCast_nonneg _ | with_reducible exact Nat.le_trans (by assumption) (by decide) | with_reducible exact Nat.lt_of_lt_of_le (by assumption) (by decide) | with_reducible exact lt_mil (Nat.lt_of_lt_of_le (by assumption) (by decide)) | with_reducible exact lt_mil (Nat.lt_of_le_of_lt (by assumption) (by decide)) | with_reducible exact Nat.le_trans (Nat.le_of_lt (by assumption)) (by decide) | (first | lia | omega))]⟩
theorem ky_nest {f : Nat} {w : List Nat} {c : Nat} {x : It} (h : x ∈ nest sz c0 c1 left f (w ++ [c])) : ∃ t, ky x = w ++ c :: t := by
  obtain ⟨e, he, hx, s, _, _, hw⟩ := mem_nest.mp h
  rcases hx with rfl | rfl
  · rw [ky_lo, hw]; exact ⟨s ++ List.replicate (sz - e.1.length) c0, by simp⟩
  · rw [ky_hi, hw]; exact ⟨s ++ List.replicate (sz - e.1.length) c1, by simp⟩
theorem ky_lt {w : List Nat} {a b : Nat} {x y : List Nat} (hx : ∃ t, x = w ++ a :: t) (hy : ∃ t, y = w ++ b :: t) (h : a < b) : x < y := by
  obtain ⟨t, rfl⟩ := hx
  obtain ⟨t', rfl⟩ := hy
  exact lt_app (lt_head h) w
theorem tn_asc (hl : LOk left k) (w : List Nat) : (tn left w).Pairwise fun a b => a.2 < b.2 := hl.asc.filter _
theorem same_text {a b : List Nat × Nat} {w : List Nat} (ha : a ∈ tn left w) (hb : b ∈ tn left w) : a.1 = b.1 := List.reverse_inj.mp ((mem_tn.mp ha).2.trans (mem_tn.mp hb).2.symm)
theorem lows_pw (hl : LOk left k) (w : List Nat) : (lows sz c0 left w).Pairwise Rr := by
  unfold lows
  rw [List.pairwise_map]
  refine (tn_asc hl w).imp_of_mem fun {a b} ha hb h => .inr ⟨?_, rfl, .inl ⟨rfl, h⟩⟩
  rw [ky_lo, ky_lo, same_text ha hb]
theorem his_pw (hl : LOk left k) (w : List Nat) : (his sz c1 left w).Pairwise Rr := by
  unfold his
  rw [List.pairwise_map, List.pairwise_reverse]
  refine (tn_asc hl w).imp_of_mem fun {a b} ha hb h => .inr ⟨?_, rfl, .inr ⟨rfl, h⟩⟩
  rw [ky_hi, ky_hi, same_text ha hb]
theorem nest_pw (h5 : 5 ≤ sz) (h0 : c0 < 48) (h1 : 49 < c1) (hl : LOk left k) : ∀ (f : Nat) (w : List Nat), (nest sz c0 c1 left f w).Pairwise Rr
  | 0, w => by
    unfold nest
    rw [List.pairwise_append]
    exact ⟨lows_pw hl w, his_pw hl w, fun a ha b hb => .inl (ky_lt (ky_lows h5 hl ha) (ky_his h5 hl hb) (by first | decide | assumption | with_reducible exact Int.natCast_nonneg _ | with_reducible exact Nat.le_trans (by assumption) (by decide) | with_reducible exact Nat.lt_of_lt_of_le (by assumption) (by decide) | with_reducible exact lt_mil (Nat.lt_of_lt_of_le (by assumption) (by decide)) | with_reducible exact lt_mil (Nat.lt_of_le_of_lt (by assumption) (by decide)) | with_reducible exact Nat.le_trans (Nat.le_of_lt (by assumption)) (by decide) | (first | lia | omega)))⟩
  | f + 1, w => by
    unfold nest
    rw [List.pairwise_append, List.pairwise_append, List.pairwise_append]
    refine ⟨lows_pw hl w, ⟨nest_pw h5 h0 h1 hl f _, ⟨nest_pw h5 h0 h1 hl f _, his_pw hl w, fun a ha b hb => .inl (ky_lt (ky_nest ha) (ky_his h5 hl hb) h1)⟩, fun a ha b hb => ?_⟩, fun a ha b hb => ?_⟩
    · rcases List.mem_append.mp hb with hb | hb
      · exact .inl (ky_lt (ky_nest ha) (ky_nest hb) (by first | decide | assumption | with_reducible exact Int.natCast_nonneg _ | with_reducible exact Nat.le_trans (by assumption) (by decide) | with_reducible exact Nat.lt_of_lt_of_le (by assumption) (by decide) | with_reducible exact lt_mil (Nat.lt_of_lt_of_le (by assumption) (by decide)) | with_reducible exact lt_mil (Nat.lt_of_le_of_lt (by assumption) (by decide)) | with_reducible exact Nat.le_trans (Nat.le_of_lt (by assumption)) (by decide) | (first | lia | omega)))
      · exact .inl (ky_lt (ky_nest ha) (ky_his h5 hl hb) (by first | decide | assumption | with_reducible exact Int.natCast_nonneg _ | with_reducible exact Nat.le_trans (by assumption) (by decide) | with_reducible exact Nat.lt_of_lt_of_le (by assumption) (by decide) | with_reducible exact lt_mil (Nat.lt_of_lt_of_le (by assumption) (by decide)) | with_reducible exact lt_mil (Nat.lt_of_le_of_lt (by assumption) (by decide)) | with_reducible exact Nat.le_trans (Nat.le_of_lt (by assumption)) (by decide) | (first | lia | omega)))
    · rcases List.mem_append.mp hb with hb | hb
      · exact .inl (ky_lt (ky_lows h5 hl ha) (ky_nest hb) h0)
      · rcases List.mem_append.mp hb with hb | hb
        · exact .inl (ky_lt (ky_lows h5 hl ha) (ky_nest hb) (by first | decide | assumption | with_reducible exact Int.natCast_nonneg _ | with_reducible exact Nat.le_trans (by assumption) (by decide) | with_reducible exact Nat.lt_of_lt_of_le (by assumption) (by decide) | with_reducible exact lt_mil (Nat.lt_of_lt_of_le (by assumption) (by decide)) | with_reducible exact lt_mil (Nat.lt_of_le_of_lt (by assumption) (by decide)) | with_reducible exact Nat.le_trans (Nat.le_of_lt (by assumption)) (by decide) | (first | lia | omega)))
        · exact .inl (ky_lt (ky_lows h5 hl ha) (ky_his h5 hl hb) (by first | decide | assumption | with_reducible exact Int.natCast_nonneg _ | with_reducible exact Nat.le_trans (by assumption) (by decide) | with_reducible exact Nat.lt_of_lt_of_le (by assumption) (by decide) | with_reducible exact lt_mil (Nat.lt_of_lt_of_le (by assumption) (by decide)) | with_reducible exact lt_mil (Nat.lt_of_le_of_lt (by assumption) (by decide)) | with_reducible exact Nat.le_trans (Nat.le_of_lt (by assumption)) (by decide) | (first | lia | omega)))
theorem row_nest (h5 : 5 ≤ sz) (h0 : c0 < 48) (h1 : 49 < c1) (hl : LOk left k) {row : List It} (h : ROk sz c0 c1 row left) : row = nest sz c0 c1 left 4 [] := by
  refine row_unique h.pw (nest_pw h5 h0 h1 hl 4 []) fun x => ?_
  rw [h.mem, mem_nest]
  constructor
  · rintro ⟨e, he, hx⟩
    exact ⟨e, he, hx, e.1.reverse, (hl.bits e he).rev, by rw [List.length_reverse]; exact hl.len e he, rfl⟩
  · rintro ⟨e, he, hx, _⟩
    exact ⟨e, he, hx⟩

/-! piles -/
def run (p : List Nat) (l : List It) : List Nat := l.foldl (fun p e => if e.2.1 = 0 then p ++ [e.1] else p.dropLast) p
theorem run_app (p : List Nat) (a b : List It) : run p (a ++ b) = run (run p a) b := List.foldl_append
theorem run_pile (row : List It) : ∀ i, i ≤ row.length → pileUp row i = run [] (row.take i)
  | 0, _ => rfl
  | i + 1, h => by
    have ih := run_pile row i (by first | decide | assumption | with_reducible exact Int.natCast_nonneg _ | with_reducible exact Nat.le_trans (by assumption) (by decide) | with_reducible exact Nat.lt_of_lt_of_le (by assumption) (by decide) | with_reducible exact lt_mil (Nat.lt_of_lt_of_le (by assumption) (by decide)) | with_reducible exact lt_mil (Nat.lt_of_le_of_lt (by assumption) (by decide)) | with_reducible exact Nat.le_trans (Nat.le_of_lt (by assumption)) (by decide) | (first | lia | omega))
    rw [pileUp, List.getElem?_eq_getElem (show i < row.length by (first | lia | omega))]
    dsimp only
    rw [List.take_add_one, List.getElem?_eq_getElem (show i < row.length by (first | lia | omega)), run_app, ← ih]
    rfl
def Good : List Nat → List It → Prop
  | _, [] => True
  | p, e :: r => (e.2.1 = 0 ∧ Good (p ++ [e.1]) r) ∨ (e.2.1 = 1 ∧ p.getLast? = some e.1 ∧ Good p.dropLast r)
theorem good_app : ∀ {a : List It} {p : List Nat} {b : List It}, Good p a → Good (run p a) b → Good p (a ++ b)
  | [], _, _, _, h => h
  | e :: a, p, b, h, h' => by
    rcases h with ⟨s, h⟩ | ⟨s, t, h⟩
    · refine .inl ⟨s, good_app h ?_⟩
      have : run p (e :: a) = run (p ++ [e.1]) a := by show run (if e.2.1 = 0 then p ++ [e.1] else p.dropLast) a = _; rw [if_pos s]
      rwa [this] at h'
    · refine .inr ⟨s, t, good_app h ?_⟩
      have : run p (e :: a) = run p.dropLast a := by show run (if e.2.1 = 0 then p ++ [e.1] else p.dropLast) a = _; rw [if_neg (by first | decide | assumption | with_reducible exact Int.natCast_nonneg _ | with_reducible exact Nat.le_trans (by assumption) (by decide) | with_reducible exact Nat.lt_of_lt_of_le (by assumption) (by decide) | with_reducible exact lt_mil (Nat.lt_of_lt_of_le (by assumption) (by decide)) | with_reducible exact lt_mil (Nat.lt_of_le_of_lt (by assumption) (by decide)) | with_reducible exact Nat.le_trans (Nat.le_of_lt (by assumption)) (by decide) | (first | lia | omega))]
      rwa [this] at h'
theorem good_at : ∀ {l : List It} {p : List Nat}, Good p l → ∀ {i : Nat} {e : It}, l[i]? = some e → e.2.1 = 0 ∨ (e.2.1 = 1 ∧ (run p (l.take i)).getLast? = some e.1)
  | [], _, _, i, e, h => by cases h
  | x :: l, p, hg, 0, e, h => by
    cases h
    rcases hg with ⟨s, _⟩ | ⟨s, t, _⟩
    · exact .inl s
    · exact .inr ⟨s, t⟩
  | x :: l, p, hg, i + 1, e, h => by
    have h : l[i]? = some e := h
    rw [List.take_succ_cons]
    rcases hg with ⟨s, hg⟩ | ⟨s, t, hg⟩
    · have : run p (x :: l.take i) = run (p ++ [x.1]) (l.take i) := by show run (if x.2.1 = 0 then p ++ [x.1] else p.dropLast) _ = _; rw [if_pos s]
      rw [this]; exact good_at hg h
    · have : run p (x :: l.take i) = run p.dropLast (l.take i) := by show run (if x.2.1 = 0 then p ++ [x.1] else p.dropLast) _ = _; rw [if_neg (by first | decide | assumption | with_reducible exact Int.natCast_nonneg _ | with_reducible exact Nat.le_trans (by assumption) (by decide) | with_reducible exact Nat.lt_of_lt_of_le (by assumption) (by decide) | with_reducible exact lt_mil (Nat.lt_of_lt_of_le (by assumption) (by decide)) | with_reducible exact lt_mil (Nat.lt_of_le_of_lt (by assumption) (by decide)) | with_reducible exact Nat.le_trans (Nat.le_of_lt (by assumption)) (by decide) | (first | lia | omega))]
      rw [this]; exact good_at hg h
theorem lo_run : ∀ (T : List (List Nat × Nat)) (p : List Nat), run p (T.map (lo sz c0)) = p ++ T.map (·.2) ∧ Good p (T.map (lo sz c0))
  | [], p => ⟨by simp [run], trivial⟩
  | e :: T, p => by
    obtain ⟨a, b⟩ := lo_run T (p ++ [e.2])
    refine ⟨?_, .inl ⟨rfl, b⟩⟩
    show run (p ++ [e.2]) (T.map (lo sz c0)) = _
    rw [a]; simp
theorem hi_run : ∀ (U : List (List Nat × Nat)) (p : List Nat), run (p ++ U.reverse.map (·.2)) (U.map (hi sz c1)) = p ∧ Good (p ++ U.reverse.map (·.2)) (U.map (hi sz c1))
  | [], p => ⟨by simp [run], trivial⟩
  | e :: U, p => by
    obtain ⟨a, b⟩ := hi_run U p
    have e1 : p ++ (e :: U).reverse.map (·.2) = (p ++ U.reverse.map (·.2)) ++ [e.2] := by simp
    rw [e1]
    refine ⟨?_, .inr ⟨rfl, List.getLast?_concat, ?_⟩⟩
    · show run ((p ++ U.reverse.map (·.2)) ++ [e.2]).dropLast (U.map (hi sz c1)) = p
      rw [List.dropLast_concat]; exact a
    · rw [List.dropLast_concat]; exact b
theorem lows_run (p : List Nat) (w : List Nat) : run p (lows sz c0 left w) = p ++ turns left w ∧ Good p (lows sz c0 left w) := lo_run _ _
theorem his_run (p : List Nat) (w : List Nat) : run (p ++ turns left w) (his sz c1 left w) = p ∧ Good (p ++ turns left w) (his sz c1 left w) := by
  have := hi_run (sz := sz) (c1 := c1) (tn left w).reverse p
  rw [List.reverse_reverse] at this
  exact this
theorem nest_run : ∀ (f : Nat) (w p : List Nat), run p (nest sz c0 c1 left f w) = p ∧ Good p (nest sz c0 c1 left f w)
  | 0, w, p => by
    unfold nest
    obtain ⟨a, b⟩ := lows_run (sz := sz) (c0 := c0) (left := left) p w
    obtain ⟨c, d⟩ := his_run (sz := sz) (c1 := c1) (left := left) p w
    exact ⟨by rw [run_app, a, c], good_app b (by rw [a]; exact d)⟩
  | f + 1, w, p => by
    unfold nest
    obtain ⟨a, b⟩ := lows_run (sz := sz) (c0 := c0) (left := left) p w
    obtain ⟨c, d⟩ := his_run (sz := sz) (c1 := c1) (left := left) p w
    obtain ⟨a1, b1⟩ := nest_run f (w ++ [48]) (p ++ turns left w)
    obtain ⟨a2, b2⟩ := nest_run f (w ++ [49]) (p ++ turns left w)
    exact ⟨by rw [run_app, run_app, run_app, a, a1, a2, c], good_app b (by rw [a]; exact good_app b1 (by rw [a1]; exact good_app b2 (by rw [a2]; exact d)))⟩

/-- the pile never sinks below p -/
def Floor (p : List Nat) (l : List It) : Prop := ∀ n, p <+: run p (l.take n)
theorem floor_app {p : List Nat} {a b : List It} (ha : Floor p a) (hr : run p a = p) (hb : Floor p b) : Floor p (a ++ b) := fun n => by
  rw [List.take_append, run_app]
  by_cases h : a.length ≤ n
  · rw [List.take_of_length_le h, hr]; exact hb _
  · rw [show n - a.length = 0 by (first | lia | omega), List.take_zero]; exact ha n
theorem floor_lows (p : List Nat) (w : List Nat) : Floor p (lows sz c0 left w) := fun n => by
  unfold lows
  rw [← List.map_take, (lo_run _ _).1]
  exact List.prefix_append _ _
theorem floor_his (p : List Nat) (w : List Nat) (n : Nat) : p <+: run (p ++ turns left w) ((his sz c1 left w).take n) := by
  have e : turns left w = ((tn left w).reverse.drop n).reverse.map (·.2) ++ ((tn left w).reverse.take n).reverse.map (·.2) := by
    rw [← List.map_append, ← List.reverse_append, List.take_append_drop, List.reverse_reverse]; rfl
  unfold his
  rw [← List.map_take, e, ← List.append_assoc, (hi_run _ _).1]
  exact List.prefix_append _ _
theorem floor_nest : ∀ (f : Nat) (w p : List Nat), Floor p (nest sz c0 c1 left f w)
  | 0, w, p => fun n => by
    unfold nest
    obtain ⟨a, b⟩ := lows_run (sz := sz) (c0 := c0) (left := left) p w
    rw [List.take_append, run_app]
    by_cases h : (lows sz c0 left w).length ≤ n
    · rw [List.take_of_length_le h, a]; exact floor_his p w _
    · rw [show n - (lows sz c0 left w).length = 0 by omega, List.take_zero]; exact floor_lows p w n
  | f + 1, w, p => fun n => by
    unfold nest
    obtain ⟨a, b⟩ := lows_run (sz := sz) (c0 := c0) (left := left) p w
    rw [List.take_append, run_app]
    by_cases h : (lows sz c0 left w).length ≤ n
    · rw [List.take_of_length_le h, a, ← List.append_assoc, List.take_append, run_app]
      have r1 := (nest_run (sz := sz) (c0 := c0) (c1 := c1) (left := left) f (w ++ [48]) (p ++ turns left w)).1
      have r2 := (nest_run (sz := sz) (c0 := c0) (c1 := c1) (left := left) f (w ++ [49]) (p ++ turns left w)).1
      have fl := floor_app (floor_nest f (w ++ [48]) (p ++ turns left w)) r1 (floor_nest f (w ++ [49]) (p ++ turns left w))
      by_cases h' : (nest sz c0 c1 left f (w ++ [48]) ++ nest sz c0 c1 left f (w ++ [49])).length ≤ n - (lows sz c0 left w).length
      · rw [List.take_of_length_le h', run_app, r1, r2]; exact floor_his p w _
      · rw [show n - (lows sz c0 left w).length - (nest sz c0 c1 left f (w ++ [48]) ++ nest sz c0 c1 left f (w ++ [49])).length = 0 by omega, List.take_zero]
        exact (List.prefix_append _ _).trans (fl _)
    · rw [show n - (lows sz c0 left w).length = 0 by omega, List.take_zero]; exact floor_lows p w n
end
end Mine

namespace Mine
open PySem PySem.W PyProof.Rows PySem.Calls
set_option maxRecDepth 100000

section
variable {sz c0 c1 : Nat} {left : List (List Nat × Nat)} {k : Nat}
def preA (sz c0 c1 : Nat) (left : List (List Nat × Nat)) : Nat → List Nat → List Nat → List It
  | f + 1, w, c :: u => lows sz c0 left w ++ (if c = 48 then preA sz c0 c1 left f (w ++ [48]) u else nest sz c0 c1 left f (w ++ [48]) ++ preA sz c0 c1 left f (w ++ [49]) u)
  | 0, w, _ => lows sz c0 left w
  | _ + 1, w, [] => lows sz c0 left w
def sufB (sz c0 c1 : Nat) (left : List (List Nat × Nat)) : Nat → List Nat → List Nat → List It
  | f + 1, w, c :: u => if c = 48 then sufB sz c0 c1 left f (w ++ [48]) u ++ (nest sz c0 c1 left f (w ++ [49]) ++ his sz c1 left w) else sufB sz c0 c1 left f (w ++ [49]) u ++ his sz c1 left w
  | 0, w, _ => his sz c1 left w
  | _ + 1, w, [] => his sz c1 left w
theorem Bits.tl {c : Nat} {u : List Nat} (h : Bits (c :: u)) : Bits u := fun c hc => h c (.tail _ hc)
theorem nest_split : ∀ (f : Nat) (w u : List Nat), Bits u → u.length = f → nest sz c0 c1 left f w = preA sz c0 c1 left f w u ++ sufB sz c0 c1 left f w u
  | 0, w, u, _, _ => by unfold nest preA sufB; rfl
  | f + 1, w, [], _, h => by cases h
  | f + 1, w, c :: u, hb, h => by
    have hu : u.length = f := by simpa using h
    unfold nest preA sufB
    rcases hb c (.head _) with rfl | rfl
    · rw [if_pos rfl, if_pos rfl, nest_split f (w ++ [48]) u hb.tl hu]
      simp only [List.append_assoc]
    · rw [if_neg (by decide), if_neg (by decide), nest_split f (w ++ [49]) u hb.tl hu]
      simp only [List.append_assoc]
theorem preA_lt (h5 : 5 ≤ sz) (h0 : c0 < 48) (hl : LOk left k) {r : List Nat} (hr : r ≠ []) (hrb : Bits r) : ∀ (f : Nat) (w u : List Nat), Bits u → u.length = f → ∀ a ∈ preA sz c0 c1 left f w u, ky a < w ++ (u ++ r)
  | 0, w, u, _, h, a, ha => by
    unfold preA at ha
    have : u = [] := List.length_eq_zero_iff.mp h
    subst this
    obtain ⟨y, r', rfl⟩ := List.exists_cons_of_ne_nil hr
    have := hrb y (.head _)
    exact ky_lt (ky_lows h5 hl ha) ⟨r', rfl⟩ (by first | decide | assumption | with_reducible exact Int.natCast_nonneg _ | with_reducible exact Nat.le_trans (by assumption) (by decide) | with_reducible exact Nat.lt_of_lt_of_le (by assumption) (by decide) | with_reducible exact lt_mil (Nat.lt_of_lt_of_le (by assumption) (by decide)) | with_reducible exact lt_mil (Nat.lt_of_le_of_lt (by assumption) (by decide)) | with_reducible exact Nat.le_trans (Nat.le_of_lt (by assumption)) (by decide) | (first | lia | omega))
  | f + 1, w, [], _, h, _, _ => by cases h
  | f + 1, w, c :: u, hb, h, a, ha => by
    have hu : u.length = f := by simpa using h
    have hc := hb c (.head _)
    unfold preA at ha
    rcases List.mem_append.mp ha with ha | ha
    · exact ky_lt (ky_lows h5 hl ha) ⟨u ++ r, rfl⟩ (by first | decide | assumption | with_reducible exact Int.natCast_nonneg _ | with_reducible exact Nat.le_trans (by assumption) (by decide) | with_reducible exact Nat.lt_of_lt_of_le (by assumption) (by decide) | with_reducible exact lt_mil (Nat.lt_of_lt_of_le (by assumption) (by decide)) | with_reducible exact lt_mil (Nat.lt_of_le_of_lt (by assumption) (by decide)) | with_reducible exact Nat.le_trans (Nat.le_of_lt (by assumption)) (by decide) | (first | lia | omega))
    · rcases hc with rfl | rfl
      · rw [if_pos rfl] at ha
        have := preA_lt h5 h0 hl hr hrb f (w ++ [48]) u hb.tl hu a ha
        simpa using this
      · rw [if_neg (by decide)] at ha
        rcases List.mem_append.mp ha with ha | ha
        · exact ky_lt (ky_nest ha) ⟨u ++ r, rfl⟩ (by first | decide | assumption | with_reducible exact Int.natCast_nonneg _ | with_reducible exact Nat.le_trans (by assumption) (by decide) | with_reducible exact Nat.lt_of_lt_of_le (by assumption) (by decide) | with_reducible exact lt_mil (Nat.lt_of_lt_of_le (by assumption) (by decide)) | with_reducible exact lt_mil (Nat.lt_of_le_of_lt (by assumption) (by decide)) | with_reducible exact Nat.le_trans (Nat.le_of_lt (by assumption)) (by decide) | (first | lia | omega))
        · have := preA_lt h5 h0 hl hr hrb f (w ++ [49]) u hb.tl hu a ha
          simpa using this
theorem sufB_gt (h5 : 5 ≤ sz) (h1 : 49 < c1) (hl : LOk left k) {r : List Nat} (hr : r ≠ []) (hrb : Bits r) : ∀ (f : Nat) (w u : List Nat), Bits u → u.length = f → ∀ a ∈ sufB sz c0 c1 left f w u, w ++ (u ++ r) < ky a
  | 0, w, u, _, h, a, ha => by
    unfold sufB at ha
    have : u = [] := List.length_eq_zero_iff.mp h
    subst this
    obtain ⟨y, r', rfl⟩ := List.exists_cons_of_ne_nil hr
    have := hrb y (.head _)
    exact ky_lt ⟨r', rfl⟩ (ky_his h5 hl ha) (by first | decide | assumption | with_reducible exact Int.natCast_nonneg _ | with_reducible exact Nat.le_trans (by assumption) (by decide) | with_reducible exact Nat.lt_of_lt_of_le (by assumption) (by decide) | with_reducible exact lt_mil (Nat.lt_of_lt_of_le (by assumption) (by decide)) | with_reducible exact lt_mil (Nat.lt_of_le_of_lt (by assumption) (by decide)) | with_reducible exact Nat.le_trans (Nat.le_of_lt (by assumption)) (by decide) | (first | lia | omega))
  | f + 1, w, [], _, h, _, _ => by cases h
  | f + 1, w, c :: u, hb, h, a, ha => by
    have hu : u.length = f := by simpa using h
    have hc := hb c (.head _)
    unfold sufB at ha
    rcases hc with rfl | rfl
    · rw [if_pos rfl] at ha
      rcases List.mem_append.mp ha with ha | ha
      · have := sufB_gt h5 h1 hl hr hrb f (w ++ [48]) u hb.tl hu a ha
        simpa using this
      · rcases List.mem_append.mp ha with ha | ha
        · exact ky_lt ⟨u ++ r, rfl⟩ (ky_nest ha) (by first | decide | assumption | with_reducible exact Int.natCast_nonneg _ | with_reducible exact Nat.le_trans (by assumption) (by decide) | with_reducible exact Nat.lt_of_lt_of_le (by assumption) (by decide) | with_reducible exact lt_mil (Nat.lt_of_lt_of_le (by assumption) (by decide)) | with_reducible exact lt_mil (Nat.lt_of_le_of_lt (by assumption) (by decide)) | with_reducible exact Nat.le_trans (Nat.le_of_lt (by assumption)) (by decide) | (first | lia | omega))
        · exact ky_lt ⟨u ++ r, rfl⟩ (ky_his h5 hl ha) (by first | decide | assumption | with_reducible exact Int.natCast_nonneg _ | with_reducible exact Nat.le_trans (by assumption) (by decide) | with_reducible exact Nat.lt_of_lt_of_le (by assumption) (by decide) | with_reducible exact lt_mil (Nat.lt_of_lt_of_le (by assumption) (by decide)) | with_reducible exact lt_mil (Nat.lt_of_le_of_lt (by assumption) (by decide)) | with_reducible exact Nat.le_trans (Nat.le_of_lt (by assumption)) (by decide) | (first | lia | omega))
    · rw [if_neg (by decide)] at ha
      rcases List.mem_append.mp ha with ha | ha
      · have := sufB_gt h5 h1 hl hr hrb f (w ++ [49]) u hb.tl hu a ha
        simpa using this
      · exact ky_lt ⟨u ++ r, rfl⟩ (ky_his h5 hl ha) (by first | decide | assumption | with_reducible exact Int.natCast_nonneg _ | with_reducible exact Nat.le_trans (by assumption) (by decide) | with_reducible exact Nat.lt_of_lt_of_le (by assumption) (by decide) | with_reducible exact lt_mil (Nat.lt_of_lt_of_le (by assumption) (by decide)) | with_reducible exact lt_mil (Nat.lt_of_le_of_lt (by assumption) (by decide)) | with_reducible exact Nat.le_trans (Nat.le_of_lt (by assumption)) (by decide) | (first | lia | omega))
theorem cnt_split {a b : List It} {x : List Nat} (ha : ∀ e ∈ a, ky e < x) (hb : ∀ e ∈ b, x < ky e) : cntL (a ++ b) x = a.length ∧ cntR (a ++ b) x = a.length := by
  unfold cntL cntR
  rw [List.countP_append, List.countP_append]
  have e1 : a.countP (fun e => decide (ky e < x)) = a.length := List.countP_eq_length.mpr fun e he => decide_eq_true (ha e he)
  have e2 : b.countP (fun e => decide (ky e < x)) = 0 := List.countP_eq_zero.mpr fun e he => by
    rw [decide_eq_true_iff]; exact List.lt_asymm (hb e he)
  have e3 : a.countP (fun e => decide (¬ x < ky e)) = a.length := List.countP_eq_length.mpr fun e he => decide_eq_true (List.lt_asymm (ha e he))
  have e4 : b.countP (fun e => decide (¬ x < ky e)) = 0 := List.countP_eq_zero.mpr fun e he => by
    rw [decide_eq_true_iff]; exact fun h => h (hb e he)
  (first | lia | omega)

/-- the words that both begin with -/
def cps : Nat → List Nat → List Nat → List Nat → List (List Nat)
  | f + 1, w, a :: u, b :: v => w :: (if a = b then cps f (w ++ [a]) u v else [])
  | 0, w, _, _ => [w]
  | _ + 1, w, _, _ => [w]
def comm (left : List (List Nat × Nat)) (f : Nat) (w u v : List Nat) : List Nat := (cps f w u v).flatMap (turns left)
theorem cps_symm : ∀ (f : Nat) (w u v : List Nat), cps f w u v = cps f w v u
  | 0, w, u, v => by unfold cps; rfl
  | f + 1, w, [], [] => rfl
  | f + 1, w, [], b :: v => rfl
  | f + 1, w, a :: u, [] => rfl
  | f + 1, w, a :: u, b :: v => by
    unfold cps
    by_cases h : a = b
    · subst h; rw [if_pos rfl, if_pos rfl, cps_symm f]
    · rw [if_neg h, if_neg (Ne.symm h)]
def Btw (sz c0 c1 : Nat) (left : List (List Nat × Nat)) (p : List Nat) (f : Nat) (w u v : List Nat) : Prop := ∃ M, preA sz c0 c1 left f w v = preA sz c0 c1 left f w u ++ M ∧
  (∀ n, (p ++ comm left f w u v) <+: run p (preA sz c0 c1 left f w u ++ M.take n)) ∧ ∃ n, n ≤ M.length ∧ run p (preA sz c0 c1 left f w u ++ M.take n) = p ++ comm left f w u v
theorem comm_cons {f : Nat} {w u v : List Nat} {a : Nat} : comm left (f + 1) w (a :: u) (a :: v) = turns left w ++ comm left f (w ++ [a]) u v := by
  unfold comm
  rw [cps, if_pos rfl, List.flatMap_cons]
theorem btw48 {p : List Nat} {f : Nat} {w u v : List Nat} (h : Btw sz c0 c1 left (p ++ turns left w) f (w ++ [48]) u v) : Btw sz c0 c1 left p (f + 1) w (48 :: u) (48 :: v) := by
  obtain ⟨M, e, fl, n, hn, hr⟩ := h
  have a := (lows_run (sz := sz) (c0 := c0) (left := left) p w).1
  have ea : ∀ u, preA sz c0 c1 left (f + 1) w (48 :: u) = lows sz c0 left w ++ preA sz c0 c1 left f (w ++ [48]) u := fun u => by rw [preA, if_pos rfl]
  refine ⟨M, by rw [ea, ea, e, List.append_assoc], fun n => ?_, n, hn, ?_⟩
  · rw [ea, comm_cons, List.append_assoc, run_app, a, ← List.append_assoc]; exact fl n
  · rw [ea, comm_cons, List.append_assoc, run_app, a, ← List.append_assoc]; exact hr
theorem btw49 {p : List Nat} {f : Nat} {w u v : List Nat} (h : Btw sz c0 c1 left (p ++ turns left w) f (w ++ [49]) u v) : Btw sz c0 c1 left p (f + 1) w (49 :: u) (49 :: v) := by
  obtain ⟨M, e, fl, n, hn, hr⟩ := h
  have a := (lows_run (sz := sz) (c0 := c0) (left := left) p w).1
  have b := (nest_run (sz := sz) (c0 := c0) (c1 := c1) (left := left) f (w ++ [48]) (p ++ turns left w)).1
  have ea : ∀ u, preA sz c0 c1 left (f + 1) w (49 :: u) = lows sz c0 left w ++ (nest sz c0 c1 left f (w ++ [48]) ++ preA sz c0 c1 left f (w ++ [49]) u) := fun u => by rw [preA, if_neg (by decide)]
  refine ⟨M, by rw [ea, ea, e]; simp only [List.append_assoc], fun n => ?_, n, hn, ?_⟩
  · rw [ea, comm_cons, List.append_assoc, run_app, a, List.append_assoc, run_app, b, ← List.append_assoc]; exact fl n
  · rw [ea, comm_cons, List.append_assoc, run_app, a, List.append_assoc, run_app, b, ← List.append_assoc]; exact hr
theorem btw_apart {p : List Nat} {f : Nat} {w u v : List Nat} (hu : Bits u) (hul : u.length = f) (hv : Bits v) (hvl : v.length = f) : Btw sz c0 c1 left p (f + 1) w (48 :: u) (49 :: v) := by
  have a := (lows_run (sz := sz) (c0 := c0) (left := left) p w).1
  have r1 := (nest_run (sz := sz) (c0 := c0) (c1 := c1) (left := left) f (w ++ [48]) (p ++ turns left w)).1
  have ea : preA sz c0 c1 left (f + 1) w (48 :: u) = lows sz c0 left w ++ preA sz c0 c1 left f (w ++ [48]) u := by rw [preA, if_pos rfl]
  have eb : preA sz c0 c1 left (f + 1) w (49 :: v) = lows sz c0 left w ++ (nest sz c0 c1 left f (w ++ [48]) ++ preA sz c0 c1 left f (w ++ [49]) v) := by rw [preA, if_neg (by decide)]
  have s1 := nest_split (sz := sz) (c0 := c0) (c1 := c1) (left := left) f (w ++ [48]) u hu hul
  have s2 := nest_split (sz := sz) (c0 := c0) (c1 := c1) (left := left) f (w ++ [49]) v hv hvl
  have ec : comm left (f + 1) w (48 :: u) (49 :: v) = turns left w := by
    unfold comm
    rw [cps, if_neg (by decide), List.flatMap_cons, List.flatMap_nil, List.append_nil]
  have fl := floor_app (floor_nest f (w ++ [48]) (p ++ turns left w)) r1 (floor_nest (sz := sz) (c0 := c0) (c1 := c1) (left := left) f (w ++ [49]) (p ++ turns left w))
  refine ⟨sufB sz c0 c1 left f (w ++ [48]) u ++ preA sz c0 c1 left f (w ++ [49]) v, ?_, fun n => ?_, (sufB sz c0 c1 left f (w ++ [48]) u).length, by simp, ?_⟩
  · rw [ea, eb, s1]; simp only [List.append_assoc]
  · rw [ea, ec, List.append_assoc, run_app, a]
    have q : preA sz c0 c1 left f (w ++ [48]) u ++ (sufB sz c0 c1 left f (w ++ [48]) u ++ preA sz c0 c1 left f (w ++ [49]) v).take n =
        (nest sz c0 c1 left f (w ++ [48]) ++ nest sz c0 c1 left f (w ++ [49])).take ((preA sz c0 c1 left f (w ++ [48]) u).length + min n (sufB sz c0 c1 left f (w ++ [48]) u ++ preA sz c0 c1 left f (w ++ [49]) v).length) := by
      rw [s1, s2, List.append_assoc, List.take_length_add_append, ← List.append_assoc (sufB sz c0 c1 left f (w ++ [48]) u), List.take_append_of_le_length (Nat.min_le_right _ _)]
      congr 1
      by_cases h : n ≤ (sufB sz c0 c1 left f (w ++ [48]) u ++ preA sz c0 c1 left f (w ++ [49]) v).length
      · rw [Nat.min_eq_left h]
      · rw [Nat.min_eq_right (by first | decide | assumption | with_reducible exact Int.natCast_nonneg _ | with_reducible exact Nat.le_trans (by assumption) (by decide) | with_reducible exact Nat.lt_of_lt_of_le (by assumption) (by decide) | with_reducible exact lt_mil (Nat.lt_of_lt_of_le (by assumption) (by decide)) | with_reducible exact lt_mil (Nat.lt_of_le_of_lt (by assumption) (by decide)) | with_reducible exact Nat.le_trans (Nat.le_of_lt (by assumption)) (by decide) | (first | lia | omega)), List.take_of_length_le (by first | decide | assumption | with_reducible exact Int.natCast_nonneg _ | with_reducible exact Nat.le_trans (by assumption) (by decide) | with_reducible exact Nat.lt_of_lt_of_le (by assumption) (by decide) | with_reducible exact lt_mil (Nat.lt_of_lt_of_le (by assumption) (by decide)) | with_reducible exact lt_mil (Nat.lt_of_le_of_lt (by assumption) (by decide)) | with_reducible exact Nat.le_trans (Nat.le_of_lt (by assumption)) (by decide) | (first | lia | omega)), List.take_of_length_le (by first | decide | assumption | with_reducible exact Int.natCast_nonneg _ | with_reducible exact Nat.le_trans (by assumption) (by decide) | with_reducible exact Nat.lt_of_lt_of_le (by assumption) (by decide) | with_reducible exact lt_mil (Nat.lt_of_lt_of_le (by assumption) (by decide)) | with_reducible exact lt_mil (Nat.lt_of_le_of_lt (by assumption) (by decide)) | with_reducible exact Nat.le_trans (Nat.le_of_lt (by assumption)) (by decide) | (first | lia | omega))]
    rw [q]
    exact fl _
  · rw [ea, ec, List.append_assoc, run_app, a, List.take_left, ← s1]; exact r1
theorem btw_or : ∀ (f : Nat) (w p u v : List Nat), Bits u → u.length = f → Bits v → v.length = f → Btw sz c0 c1 left p f w u v ∨ Btw sz c0 c1 left p f w v u
  | 0, w, p, u, v, _, hu, _, hv => by
    have : u = [] := List.length_eq_zero_iff.mp hu
    subst this
    have : v = [] := List.length_eq_zero_iff.mp hv
    subst this
    have a := (lows_run (sz := sz) (c0 := c0) (left := left) p w).1
    have ec : comm left 0 w [] [] = turns left w := by unfold comm; rw [cps, List.flatMap_cons, List.flatMap_nil, List.append_nil]
    refine .inl ⟨[], by simp, fun n => ?_, 0, Nat.le_refl _, ?_⟩
    · rw [List.take_nil, List.append_nil, preA, a, ec]; exact List.prefix_refl _
    · rw [List.take_nil, List.append_nil, preA, a, ec]
  | f + 1, w, p, [], _, _, h, _, _ => by cases h
  | f + 1, w, p, _ :: _, [], _, _, _, h => by cases h
  | f + 1, w, p, a :: u, b :: v, hu, hul, hv, hvl => by
    have hul' : u.length = f := by simpa using hul
    have hvl' : v.length = f := by simpa using hvl
    rcases hu a (.head _) with rfl | rfl
    · rcases hv b (.head _) with rfl | rfl
      · exact (btw_or f _ _ u v hu.tl hul' hv.tl hvl').imp btw48 btw48
      · exact .inl (btw_apart hu.tl hul' hv.tl hvl')
    · rcases hv b (.head _) with rfl | rfl
      · exact .inr (btw_apart hv.tl hvl' hu.tl hul')
      · exact (btw_or f _ _ u v hu.tl hul' hv.tl hvl').imp btw49 btw49

/-! the longest common end -/
theorem mem_cps : ∀ (f : Nat) (w u v x : List Nat), u.length = f → v.length = f → (x ∈ cps f w u v ↔ ∃ s, x = w ++ s ∧ s <+: u ∧ s <+: v)
  | 0, w, u, v, x, hu, hv => by
    have : u = [] := List.length_eq_zero_iff.mp hu
    subst this
    have : v = [] := List.length_eq_zero_iff.mp hv
    subst this
    unfold cps
    rw [List.mem_singleton]
    constructor
    · rintro rfl; exact ⟨[], by simp, List.prefix_refl _, List.prefix_refl _⟩
    · rintro ⟨s, rfl, hs, _⟩
      rw [List.prefix_nil.mp hs, List.append_nil]
  | f + 1, w, [], _, x, h, _ => by cases h
  | f + 1, w, _ :: _, [], x, _, h => by cases h
  | f + 1, w, a :: u, b :: v, x, hu, hv => by
    have hul : u.length = f := by simpa using hu
    have hvl : v.length = f := by simpa using hv
    unfold cps
    rw [List.mem_cons]
    constructor
    · rintro (rfl | h)
      · exact ⟨[], by simp, List.nil_prefix, List.nil_prefix⟩
      · by_cases q : a = b
        · subst q
          rw [if_pos rfl] at h
          obtain ⟨s, rfl, h1, h2⟩ := (mem_cps f _ u v x hul hvl).mp h
          exact ⟨a :: s, by simp, List.cons_prefix_cons.mpr ⟨rfl, h1⟩, List.cons_prefix_cons.mpr ⟨rfl, h2⟩⟩
        · rw [if_neg q] at h; cases h
    · rintro ⟨s, rfl, h1, h2⟩
      cases s with
      | nil => exact .inl (by simp)
      | cons c s =>
        obtain ⟨q1, h1'⟩ := List.cons_prefix_cons.mp h1
        obtain ⟨q2, h2'⟩ := List.cons_prefix_cons.mp h2
        subst q1
        subst q2
        rw [if_pos rfl]
        exact .inr ((mem_cps f _ u v _ hul hvl).mpr ⟨s, by simp, h1', h2'⟩)
theorem cps_pw : ∀ (f : Nat) (w u v : List Nat), u.length = f → v.length = f → (cps f w u v).Pairwise fun x y => x.length < y.length
  | 0, w, u, v, _, _ => by unfold cps; exact List.pairwise_singleton _ _
  | f + 1, w, [], _, h, _ => by cases h
  | f + 1, w, _ :: _, [], _, h => by cases h
  | f + 1, w, a :: u, b :: v, hu, hv => by
    have hul : u.length = f := by simpa using hu
    have hvl : v.length = f := by simpa using hv
    unfold cps
    by_cases q : a = b
    · subst q
      rw [if_pos rfl]
      refine List.Pairwise.cons (fun y hy => ?_) (cps_pw f _ u v hul hvl)
      obtain ⟨s, rfl, _, _⟩ := (mem_cps f _ u v y hul hvl).mp hy
      rw [List.length_append, List.length_append, List.length_singleton]; (first | lia | omega)
    · rw [if_neg q]; exact List.pairwise_singleton _ _
theorem turns_snoc (L : List (List Nat × Nat)) (e : List Nat × Nat) (y : List Nat) : turns (L ++ [e]) y = turns L y ++ (if e.1.reverse = y then [e.2] else []) := by
  unfold turns tn
  rw [List.filter_append, List.map_append]
  congr 1
  by_cases h : e.1.reverse = y
  · rw [if_pos h, List.filter_cons_of_pos (by rw [decide_eq_true_iff]; exact h)]; rfl
  · rw [if_neg h, List.filter_cons_of_neg (by rw [decide_eq_true_iff]; exact h)]; rfl
theorem suf_iff {u w : List Nat} (hu : u.length = 4) (hw : w.length ≤ 4) : u.reverse.drop (4 - w.length) = w ↔ w.reverse <+: u := by
  have e : u.reverse.drop (4 - w.length) = (u.take w.length).reverse := by
    rw [List.drop_reverse, hu, show 4 - (4 - w.length) = w.length by omega]
  rw [e, List.prefix_iff_eq_take, List.length_reverse]
  constructor
  · intro h; rw [← h, List.reverse_reverse]; simp
  · intro h; rw [← h, List.reverse_reverse]
def LInv (u v : List Nat) (L : List (List Nat × Nat)) (best : List Nat × Int) : Prop :=
  ((∀ y ∈ cps 4 [] u v, turns L y = []) ∧ best = ([], -1)) ∨ (∃ x ∈ cps 4 [] u v, ∃ t : Nat, (turns L x).getLast? = some t ∧ best.2 = (t : Int) ∧ best.1.length = x.length ∧ ∀ y ∈ cps 4 [] u v, x.length < y.length → turns L y = [])
theorem linv_step {u v : List Nat} (hu : u.length = 4) (hv : v.length = 4) {L : List (List Nat × Nat)} {best : List Nat × Int} (h : LInv u v L best) {e : List Nat × Nat} (he : e.1.length ≤ 4) : LInv u v (L ++ [e]) (longStep u.reverse v.reverse best e) := by
  have cand : (u.reverse.drop (4 - e.1.length) = e.1 ∧ v.reverse.drop (4 - e.1.length) = e.1) ↔ e.1.reverse ∈ cps 4 [] u v := by
    rw [suf_iff hu he, suf_iff hv he, mem_cps 4 [] u v _ hu hv]
    constructor
    · rintro ⟨a, b⟩; exact ⟨e.1.reverse, rfl, a, b⟩
    · rintro ⟨s, e', a, b⟩
      have : e.1.reverse = s := e'
      rw [this]; exact ⟨a, b⟩
  have other : ∀ y ∈ cps 4 [] u v, e.1.reverse ≠ y → turns (L ++ [e]) y = turns L y := fun y _ hne => by rw [turns_snoc, if_neg hne, List.append_nil]
  unfold longStep
  by_cases hc : e.1.reverse ∈ cps 4 [] u v
  · obtain ⟨c1, c2⟩ := cand.mpr hc
    by_cases hle : best.1.length ≤ e.1.length
    · rw [if_pos ⟨c1, c2, hle⟩]
      refine .inr ⟨e.1.reverse, hc, e.2, by rw [turns_snoc, if_pos rfl, List.getLast?_concat], rfl, by simp, fun y hy hlt => ?_⟩
      rw [other y hy (fun q => by rw [q] at hlt; (first | lia | omega))]
      rw [List.length_reverse] at hlt
      rcases h with ⟨h, _⟩ | ⟨x, hx, t, ht, hb, hbl, hy'⟩
      · exact h y hy
      · exact hy' y hy (by first | decide | assumption | with_reducible exact Int.natCast_nonneg _ | with_reducible exact Nat.le_trans (by assumption) (by decide) | with_reducible exact Nat.lt_of_lt_of_le (by assumption) (by decide) | with_reducible exact lt_mil (Nat.lt_of_lt_of_le (by assumption) (by decide)) | with_reducible exact lt_mil (Nat.lt_of_le_of_lt (by assumption) (by decide)) | with_reducible exact Nat.le_trans (Nat.le_of_lt (by assumption)) (by decide) | (first | lia | omega))
    · rw [if_neg (fun q => hle q.2.2)]
      rcases h with ⟨h, rfl⟩ | ⟨x, hx, t, ht, hb, hbl, hy'⟩
      · exact absurd (Nat.zero_le _) hle
      · have hxe : e.1.reverse ≠ x := fun q => by rw [← q, List.length_reverse] at hbl; (first | lia | omega)
        refine .inr ⟨x, hx, t, by rw [other x hx hxe]; exact ht, hb, hbl, fun y hy hlt => ?_⟩
        rw [other y hy (fun q => by rw [← q, List.length_reverse] at hlt; (first | lia | omega))]
        exact hy' y hy hlt
  · rw [if_neg (fun q => hc (cand.mp ⟨q.1, q.2.1⟩))]
    have all : ∀ y ∈ cps 4 [] u v, turns (L ++ [e]) y = turns L y := fun y hy => other y hy (fun q => hc (q ▸ hy))
    rcases h with ⟨h, hb⟩ | ⟨x, hx, t, ht, hb, hbl, hy'⟩
    · exact .inl ⟨fun y hy => by rw [all y hy]; exact h y hy, hb⟩
    · exact .inr ⟨x, hx, t, by rw [all x hx]; exact ht, hb, hbl, fun y hy hlt => by rw [all y hy]; exact hy' y hy hlt⟩
theorem linv_all {u v : List Nat} (hu : u.length = 4) (hv : v.length = 4) : ∀ (R : List (List Nat × Nat)), (∀ e ∈ R, e.1.length ≤ 4) → LInv u v R.reverse (R.reverse.foldl (longStep u.reverse v.reverse) ([], -1))
  | [], _ => .inl ⟨fun y _ => rfl, rfl⟩
  | e :: R, h => by
    rw [List.reverse_cons, List.foldl_append]
    exact linv_step hu hv (linv_all hu hv R fun e he => h e (.tail _ he)) (h e (.head _))
theorem linv_top {u v : List Nat} (hu : u.length = 4) (hv : v.length = 4) {L : List (List Nat × Nat)} {best : List Nat × Int} (h : LInv u v L best) : topOf (comm L 4 [] u v) = best.2 := by
  unfold comm
  rcases h with ⟨h, rfl⟩ | ⟨x, hx, t, ht, hb, hbl, hy'⟩
  · have : (cps 4 [] u v).flatMap (turns L) = [] := List.flatMap_eq_nil_iff.mpr h
    rw [this]; rfl
  · obtain ⟨a, b, e⟩ := List.append_of_mem hx
    have pw := cps_pw 4 [] u v hu hv
    have hb' : ∀ y ∈ b, turns L y = [] := fun y hy => by
      refine hy' y (by rw [e]; exact List.mem_append.mpr (.inr (.tail _ hy))) ?_
      rw [e, List.pairwise_append] at pw
      exact (List.pairwise_cons.mp pw.2.1).1 y hy
    rw [e, List.flatMap_append, List.flatMap_cons, List.flatMap_eq_nil_iff.mpr hb', List.append_nil]
    obtain ⟨q, hq⟩ := List.getLast?_eq_some_iff.mp ht
    unfold topOf
    rw [hq, ← List.append_assoc, List.getLast?_concat]
    exact hb.symm
theorem long_comm {u v : List Nat} (hu : u.length = 4) (hv : v.length = 4) (h : ∀ e ∈ left, e.1.length ≤ 4) : topOf (comm left 4 [] u v) = (longUp u.reverse v.reverse left left.length).2 := by
  have := linv_all hu hv left.reverse fun e he => h e (List.mem_reverse.mp he)
  rw [List.reverse_reverse] at this
  unfold longUp
  rw [List.take_length]
  exact linv_top hu hv this
end
end Mine

namespace Mine
open PySem PySem.W PyProof.Rows PySem.Calls
set_option maxRecDepth 100000
theorem fill_signs {c a w : Nat} {l : List Nat} (hc : c < 0x110000) (h : ∀ x ∈ l, x < 0x110000) : ∀ x ∈ fill c a w l, x < 0x110000 := fun x hx => by
  unfold fill at hx
  split at hx <;> rcases List.mem_append.mp hx with hx | hx
  · rw [(List.mem_replicate.mp hx).2]; exact hc
  · exact h x hx
  · exact h x hx
  · rw [(List.mem_replicate.mp hx).2]; exact hc
theorem leftUp_deed {deeds : List (List Nat × Nat)} : ∀ k, ∀ e ∈ leftUp deeds k, ∃ d, deeds[e.2]? = some d ∧ d.1 = e.1
  | 0, e, h => by cases h
  | k + 1, e, h => by
    unfold leftUp at h
    split at h
    · rename_i dd hd
      rcases mem_leftStep h with h | rfl
      · exact leftUp_deed k e h
      · exact ⟨dd, hd, rfl⟩
    · exact leftUp_deed k e h

section
variable {sz c0 c1 : Nat} {left : List (List Nat × Nat)} {k : Nat}
theorem row_perm {row : List It} (hl : LOk left k) (h : ROk sz c0 c1 row left) : row.Perm (left.map (lo sz c0) ++ left.map (hi sz c1)) := by
  refine (List.perm_ext_iff_of_nodup (Rr.nodup h.pw) ?_).mpr fun x => ?_
  · rw [List.nodup_append]
    refine ⟨?_, ?_, fun a ha b hb q => ?_⟩
    · refine List.pairwise_map.mpr (hl.asc.imp fun {a b} h q => ?_)
      have : a.2 = b.2 := congrArg (·.1) q
      (first | lia | omega)
    · refine List.pairwise_map.mpr (hl.asc.imp fun {a b} h q => ?_)
      have : a.2 = b.2 := congrArg (·.1) q
      (first | lia | omega)
    · obtain ⟨e, _, rfl⟩ := List.mem_map.mp ha
      obtain ⟨e', _, rfl⟩ := List.mem_map.mp hb
      cases congrArg (·.2.1) q
  · rw [h.mem, List.mem_append, List.mem_map, List.mem_map]
    constructor
    · rintro ⟨e, he, hx | hx⟩
      · exact .inl ⟨e, he, hx.symm⟩
      · exact .inr ⟨e, he, hx.symm⟩
    · rintro (⟨e, he, hx⟩ | ⟨e, he, hx⟩)
      · exact ⟨e, he, .inl hx.symm⟩
      · exact ⟨e, he, .inr hx.symm⟩
theorem filter_all {α : Type} {p : α → Bool} {l : List α} (h : ∀ a ∈ l, p a = true) : l.filter p = l := List.filter_eq_self.mpr h
theorem told_aux {row : List It} {u v : List Nat} (hrow : row = preA sz c0 c1 left 4 [] v ++ sufB sz c0 c1 left 4 [] v) (h : Btw sz c0 c1 left [] 4 [] u v) :
    (preA sz c0 c1 left 4 [] u).length ≤ (preA sz c0 c1 left 4 [] v).length ∧ ∀ j, (preA sz c0 c1 left 4 [] u).length ≤ j → j ≤ (preA sz c0 c1 left 4 [] v).length →
    (∀ i, (preA sz c0 c1 left 4 [] u).length ≤ i → i ≤ (preA sz c0 c1 left 4 [] v).length → ((pileUp row j).length : Int) ≤ ((pileUp row i).length : Int)) → pileUp row j = comm left 4 [] u v := by
  obtain ⟨M, e, fl, n, hn, hr⟩ := h
  simp only [List.nil_append] at fl hr
  have hlen : (preA sz c0 c1 left 4 [] v).length = (preA sz c0 c1 left 4 [] u).length + M.length := by rw [e, List.length_append]
  have hrl : row.length = (preA sz c0 c1 left 4 [] v).length + (sufB sz c0 c1 left 4 [] v).length := by rw [hrow, List.length_append]
  have tk : ∀ m, m ≤ M.length → row.take ((preA sz c0 c1 left 4 [] u).length + m) = preA sz c0 c1 left 4 [] u ++ M.take m := fun m hm => by
    rw [hrow, e, List.append_assoc, List.take_length_add_append, List.take_append_of_le_length hm]
  refine ⟨by (first | lia | omega), fun j h1 h2 hmin => ?_⟩
  obtain ⟨m, rfl⟩ : ∃ m, j = (preA sz c0 c1 left 4 [] u).length + m := ⟨j - (preA sz c0 c1 left 4 [] u).length, by (first | lia | omega)⟩
  have a1 := hmin ((preA sz c0 c1 left 4 [] u).length + n) (by first | decide | assumption | with_reducible exact Int.natCast_nonneg _ | with_reducible exact Nat.le_trans (by assumption) (by decide) | with_reducible exact Nat.lt_of_lt_of_le (by assumption) (by decide) | with_reducible exact lt_mil (Nat.lt_of_lt_of_le (by assumption) (by decide)) | with_reducible exact lt_mil (Nat.lt_of_le_of_lt (by assumption) (by decide)) | with_reducible exact Nat.le_trans (Nat.le_of_lt (by assumption)) (by decide) | (first | lia | omega)) (by first | decide | assumption | with_reducible exact Int.natCast_nonneg _ | with_reducible exact Nat.le_trans (by assumption) (by decide) | with_reducible exact Nat.lt_of_lt_of_le (by assumption) (by decide) | with_reducible exact lt_mil (Nat.lt_of_lt_of_le (by assumption) (by decide)) | with_reducible exact lt_mil (Nat.lt_of_le_of_lt (by assumption) (by decide)) | with_reducible exact Nat.le_trans (Nat.le_of_lt (by assumption)) (by decide) | (first | lia | omega))
  rw [run_pile row _ (by first | decide | assumption | with_reducible exact Int.natCast_nonneg _ | with_reducible exact Nat.le_trans (by assumption) (by decide) | with_reducible exact Nat.lt_of_lt_of_le (by assumption) (by decide) | with_reducible exact lt_mil (Nat.lt_of_lt_of_le (by assumption) (by decide)) | with_reducible exact lt_mil (Nat.lt_of_le_of_lt (by assumption) (by decide)) | with_reducible exact Nat.le_trans (Nat.le_of_lt (by assumption)) (by decide) | (first | lia | omega)), run_pile row _ (by first | decide | assumption | with_reducible exact Int.natCast_nonneg _ | with_reducible exact Nat.le_trans (by assumption) (by decide) | with_reducible exact Nat.lt_of_lt_of_le (by assumption) (by decide) | with_reducible exact lt_mil (Nat.lt_of_lt_of_le (by assumption) (by decide)) | with_reducible exact lt_mil (Nat.lt_of_le_of_lt (by assumption) (by decide)) | with_reducible exact Nat.le_trans (Nat.le_of_lt (by assumption)) (by decide) | (first | lia | omega)), tk m (by first | decide | assumption | with_reducible exact Int.natCast_nonneg _ | with_reducible exact Nat.le_trans (by assumption) (by decide) | with_reducible exact Nat.lt_of_lt_of_le (by assumption) (by decide) | with_reducible exact lt_mil (Nat.lt_of_lt_of_le (by assumption) (by decide)) | with_reducible exact lt_mil (Nat.lt_of_le_of_lt (by assumption) (by decide)) | with_reducible exact Nat.le_trans (Nat.le_of_lt (by assumption)) (by decide) | (first | lia | omega)), tk n hn, hr] at a1
  rw [run_pile row _ (by first | decide | assumption | with_reducible exact Int.natCast_nonneg _ | with_reducible exact Nat.le_trans (by assumption) (by decide) | with_reducible exact Nat.lt_of_lt_of_le (by assumption) (by decide) | with_reducible exact lt_mil (Nat.lt_of_lt_of_le (by assumption) (by decide)) | with_reducible exact lt_mil (Nat.lt_of_le_of_lt (by assumption) (by decide)) | with_reducible exact Nat.le_trans (Nat.le_of_lt (by assumption)) (by decide) | (first | lia | omega)), tk m (by first | decide | assumption | with_reducible exact Int.natCast_nonneg _ | with_reducible exact Nat.le_trans (by assumption) (by decide) | with_reducible exact Nat.lt_of_lt_of_le (by assumption) (by decide) | with_reducible exact lt_mil (Nat.lt_of_lt_of_le (by assumption) (by decide)) | with_reducible exact lt_mil (Nat.lt_of_le_of_lt (by assumption) (by decide)) | with_reducible exact Nat.le_trans (Nat.le_of_lt (by assumption)) (by decide) | (first | lia | omega))]
  exact ((fl m).eq_of_length_le (by first | decide | assumption | with_reducible exact Int.natCast_nonneg _ | with_reducible exact Nat.le_trans (by assumption) (by decide) | with_reducible exact Nat.lt_of_lt_of_le (by assumption) (by decide) | with_reducible exact lt_mil (Nat.lt_of_lt_of_le (by assumption) (by decide)) | with_reducible exact lt_mil (Nat.lt_of_le_of_lt (by assumption) (by decide)) | with_reducible exact Nat.le_trans (Nat.le_of_lt (by assumption)) (by decide) | (first | lia | omega))).symm
end

theorem plain2 {deeds : List (List Nat × Nat)} {sz c0 c1 c2 : Nat} (hb : ∀ d ∈ deeds, ∀ c ∈ d.1, c = 48 ∨ c = 49) (h4 : ∀ d ∈ deeds, d.1.length ≤ 4) (h5 : 5 ≤ sz) (h7 : sz ≤ 7) (h0 : c0 < 48) (h1 : 49 < c1) (h1' : c1 < 128) (h2 : c2 = 48 ∨ c2 = 49) :
    Plain2 deeds sz c0 c1 c2 (rowUp sz c0 c1 deeds deeds.length) (leftUp deeds deeds.length) := by
  obtain ⟨hl, h⟩ := rOk_up (sz := sz) (c0 := c0) (c1 := c1) h5 h0 h1 hb h4 deeds.length
  have hd := leftUp_deed (deeds := deeds) deeds.length
  generalize rowUp sz c0 c1 deeds deeds.length = row at h ⊢
  generalize leftUp deeds deeds.length = left at hl h hd ⊢
  have hp := row_perm hl h
  have hn := row_nest h5 h0 h1 hl h
  have hr0 : List.replicate (sz - 4) c2 ≠ [] := by
    intro q
    have := congrArg List.length q
    simp at this
    (first | lia | omega)
  have hrb : Bits (List.replicate (sz - 4) c2) := fun c hc => by rw [(List.mem_replicate.mp hc).2]; exact h2
  have fb : ∀ k : Nat, Bits (figs (k : Int) 4).reverse := fun k => Bits.rev fun c hc => figs_mem hc
  have fl : ∀ k : Nat, (figs (k : Int) 4).reverse.length = 4 := fun k => by rw [List.length_reverse, figs_length]
  have sp : ∀ k : Nat, row = preA sz c0 c1 left 4 [] (figs (k : Int) 4).reverse ++ sufB sz c0 c1 left 4 [] (figs (k : Int) 4).reverse := fun k => by
    rw [hn]; exact nest_split 4 [] _ (fb k) (fl k)
  have cnt : ∀ k : Nat, cntL row (fld sz c2 k) = (preA sz c0 c1 left 4 [] (figs (k : Int) 4).reverse).length ∧ cntR row (fld sz c2 k) = (preA sz c0 c1 left 4 [] (figs (k : Int) 4).reverse).length := fun k => by
    have e1 := preA_lt (c1 := c1) h5 h0 hl hr0 hrb 4 [] _ (fb k) (fl k)
    have e2 := sufB_gt (c0 := c0) h5 h1 hl hr0 hrb 4 [] _ (fb k) (fl k)
    have := cnt_split e1 e2
    rw [← sp k] at this
    exact this
  have side0 : ((left.map (lo sz c0) ++ left.map (hi sz c1)).filter fun e : It => decide (e.2.1 = 0)) = left.map (lo sz c0) := by
    rw [List.filter_append, filter_all (fun a ha => by obtain ⟨e, _, rfl⟩ := List.mem_map.mp ha; rfl), List.filter_eq_nil_iff.mpr (fun a ha => by obtain ⟨e, _, rfl⟩ := List.mem_map.mp ha; show ¬ decide ((1 : Nat) = 0) = true; decide), List.append_nil]
  refine ⟨?_, ?_, fun i e he => ?_, ?_, Rr.ks h.pw, fun e he => ?_, fun e he c hc => ?_, fun k _ => ?_, fun k hk o ho j => ?_⟩
  · have := (hp.filter (fun e : It => decide (e.2.1 = 0))).map (fun e : It => (e.1 : Int))
    rw [side0, List.map_map] at this
    exact this.symm
  · exact List.pairwise_map.mpr (hl.asc.imp fun h => by (first | lia | omega))
  · obtain ⟨hi', rfl⟩ := List.getElem?_eq_some_iff.mp he
    obtain ⟨e', he', hx⟩ := (h.mem _).mp (List.getElem_mem hi')
    obtain ⟨d, hdd, hde⟩ := hd e' he'
    have hg := good_at (p := []) (by rw [hn]; exact (nest_run 4 [] []).2) he
    rw [← run_pile row i (by first | decide | assumption | with_reducible exact Int.natCast_nonneg _ | with_reducible exact Nat.le_trans (by assumption) (by decide) | with_reducible exact Nat.lt_of_lt_of_le (by assumption) (by decide) | with_reducible exact lt_mil (Nat.lt_of_lt_of_le (by assumption) (by decide)) | with_reducible exact lt_mil (Nat.lt_of_le_of_lt (by assumption) (by decide)) | with_reducible exact Nat.le_trans (Nat.le_of_lt (by assumption)) (by decide) | (first | lia | omega))] at hg
    have hlen := hl.len e' he'
    refine ⟨d, ?_, by rw [hde]; (first | lia | omega), ?_⟩
    · rcases hx with hx | hx <;> rw [hx] <;> exact hdd
    · rcases hx with hx | hx
      · exact .inl ⟨by rw [hx]; rfl, by rw [hx, hde]; rfl⟩
      · rcases hg with q | ⟨_, q⟩
        · rw [hx] at q; cases q
        · exact .inr ⟨by rw [hx]; rfl, q, by rw [hx, hde]; rfl⟩
  · have := hp.length_eq
    rw [List.length_append, List.length_map, List.length_map] at this
    (first | lia | omega)
  · obtain ⟨e', he', hx⟩ := (h.mem e).mp he
    have := hl.len e' he'
    rcases hx with rfl | rfl
    · show (lowOf sz c0 e'.1).length ≤ 16
      rw [lowOf_length _ _ _ (by first | decide | assumption | with_reducible exact Int.natCast_nonneg _ | with_reducible exact Nat.le_trans (by assumption) (by decide) | with_reducible exact Nat.lt_of_lt_of_le (by assumption) (by decide) | with_reducible exact lt_mil (Nat.lt_of_lt_of_le (by assumption) (by decide)) | with_reducible exact lt_mil (Nat.lt_of_le_of_lt (by assumption) (by decide)) | with_reducible exact Nat.le_trans (Nat.le_of_lt (by assumption)) (by decide) | (first | lia | omega))]; (first | lia | omega)
    · show (lowOf sz c1 e'.1).length ≤ 16
      rw [lowOf_length _ _ _ (by first | decide | assumption | with_reducible exact Int.natCast_nonneg _ | with_reducible exact Nat.le_trans (by assumption) (by decide) | with_reducible exact Nat.lt_of_lt_of_le (by assumption) (by decide) | with_reducible exact lt_mil (Nat.lt_of_lt_of_le (by assumption) (by decide)) | with_reducible exact lt_mil (Nat.lt_of_le_of_lt (by assumption) (by decide)) | with_reducible exact Nat.le_trans (Nat.le_of_lt (by assumption)) (by decide) | (first | lia | omega))]; (first | lia | omega)
  · obtain ⟨e', he', hx⟩ := (h.mem e).mp he
    have hbb := hl.bits e' he'
    rcases hx with rfl | rfl
    · have hc : c ∈ lowOf sz c0 e'.1 := hc
      rcases List.mem_append.mp hc with hc | hc
      · rw [(List.mem_replicate.mp hc).2]; (first | lia | omega)
      · have := hbb c hc; (first | lia | omega)
    · have hc : c ∈ lowOf sz c1 e'.1 := hc
      rcases List.mem_append.mp hc with hc | hc
      · rw [(List.mem_replicate.mp hc).2]; (first | lia | omega)
      · have := hbb c hc; (first | lia | omega)
  · rw [(cnt k).1, (cnt k).2]
  · rw [(cnt k).1, (cnt o).1]
    intro j1 j2 hmin
    have lc := long_comm (left := left) (fl k) (fl o) hl.len
    rw [List.reverse_reverse, List.reverse_reverse] at lc
    rw [← lc]
    rcases btw_or (sz := sz) (c0 := c0) (c1 := c1) (left := left) 4 [] [] _ _ (fb k) (fl k) (fb o) (fl o) with hB | hB
    · obtain ⟨hle, aux⟩ := told_aux (sp o) hB
      rw [Nat.min_eq_left hle] at j1 hmin
      rw [Nat.max_eq_right hle] at j2 hmin
      rw [aux j j1 j2 hmin]
    · obtain ⟨hle, aux⟩ := told_aux (sp k) hB
      rw [Nat.min_eq_right hle] at j1 hmin
      rw [Nat.max_eq_left hle] at j2 hmin
      rw [aux j j1 j2 hmin]
      unfold comm
      rw [cps_symm]
end Mine

namespace Mine
open PySem PySem.W PyProof.Rows PySem.Calls
set_option maxRecDepth 100000

theorem Is2.reb {P : Params} {F : Fm} {g' : Gh} (I : Is2 P F.toCx) (up : ∀ b o, F.g b = some o → g' b = some o) : Is2 P (F.reb g').toCx := ⟨I.K, fun a o e => up _ _ (I.g a o e), I.mg⟩
theorem Is2.comp {P : Params} {F : Fm} (I : Is2 P F.toCx) (sc : Scope) (cl : List (Str × Addr)) (L : Addr) : Is2 P (F.comp sc cl L).toCx := ⟨I.K, I.g, I.mg⟩
def strF (g : List Nat → PyData) : PyData → PyData
  | .str x => g x.cps.toList
  | _ => .none
def dF (g : List Nat → PyData) : PyData → PyData
  | .list (.str x :: _) => g x.cps.toList
  | _ => .none
theorem dF_d (g : List Nat → PyData) (d : List Nat × Nat) : dF g (dD d) = g d.1 := rfl
def intF (g : Int → PyData) : PyData → PyData
  | .int x => g x
  | _ => .none
def sideP : PyData → Bool
  | .list [_, .int k, _] => decide (k = 0)
  | _ => false
theorem sideP_it (e : It) : sideP (itD e) = decide (e.2.1 = 0) := by
  show decide ((e.2.1 : Int) = 0) = _
  rw [Bool.eq_iff_iff]; simp
def headF : PyData → PyData
  | .list (t :: _) => t
  | _ => .none
def secondF : PyData → PyData
  | .list (_ :: t :: _) => t
  | _ => .none
theorem filter_it (row : List It) : ((row.map itD).filter sideP).map headF = ((row.filter fun e => decide (e.2.1 = 0)).map fun e => (e.1 : Int)).map .int := by
  rw [List.filter_map, List.map_map, List.map_map]
  congr 1
  apply List.filter_congr
  intro e _
  exact sideP_it e
theorem fdiv_e (a k : Int) (h : 0 < k) : Int.fdiv a k = a / k := Int.fdiv_eq_ediv_of_nonneg _ (by first | decide | assumption | with_reducible exact Int.natCast_nonneg _ | with_reducible exact Nat.le_trans (by assumption) (by decide) | with_reducible exact Nat.lt_of_lt_of_le (by assumption) (by decide) | with_reducible exact lt_mil (Nat.lt_of_lt_of_le (by assumption) (by decide)) | with_reducible exact lt_mil (Nat.lt_of_le_of_lt (by assumption) (by decide)) | with_reducible exact Nat.le_trans (Nat.le_of_lt (by assumption)) (by decide) | (first | lia | omega))
theorem fmod_n (a k : Int) (h : 0 < k) : Int.fmod a k = ((a % k).toNat : Int) := by
  rw [Int.fmod_eq_emod_of_nonneg _ (by first | decide | assumption | with_reducible exact Int.natCast_nonneg _ | with_reducible exact Nat.le_trans (by assumption) (by decide) | with_reducible exact Nat.lt_of_lt_of_le (by assumption) (by decide) | with_reducible exact lt_mil (Nat.lt_of_lt_of_le (by assumption) (by decide)) | with_reducible exact lt_mil (Nat.lt_of_le_of_lt (by assumption) (by decide)) | with_reducible exact Nat.le_trans (Nat.le_of_lt (by assumption)) (by decide) | (first | lia | omega)), Int.toNat_of_nonneg (Int.emod_nonneg _ (by first | decide | assumption | with_reducible exact Int.natCast_nonneg _ | with_reducible exact Nat.le_trans (by assumption) (by decide) | with_reducible exact Nat.lt_of_lt_of_le (by assumption) (by decide) | with_reducible exact lt_mil (Nat.lt_of_lt_of_le (by assumption) (by decide)) | with_reducible exact lt_mil (Nat.lt_of_le_of_lt (by assumption) (by decide)) | with_reducible exact Nat.le_trans (Nat.le_of_lt (by assumption)) (by decide) | (first | lia | omega)))]
theorem str_size {sz : Nat} (h5 : 5 ≤ sz) (h7 : sz ≤ 7) : PyData.str (toString (sz : Int)) = .str (st [48 + sz]) := by
  have : sz = 5 ∨ sz = 6 ∨ sz = 7 := by (first | lia | omega)
  rcases this with rfl | rfl | rfl <;> rfl
theorem pick3 {l : List Nat} {i : Int} (hl : l.length = 3) : ∃ c, l[(i % 3).toNat]? = some c ∧ c ∈ l := by
  have : (i % 3).toNat < l.length := by (first | lia | omega)
  exact ⟨_, List.getElem?_eq_getElem this, List.getElem_mem _⟩
theorem pick2 {l : List Nat} {i : Int} (hl : l.length = 2) : ∃ c, l[(i % 2).toNat]? = some c ∧ c ∈ l := by
  have : (i % 2).toNat < l.length := by (first | lia | omega)
  exact ⟨_, List.getElem?_eq_getElem this, List.getElem_mem _⟩
theorem map_it_ky (row : List It) : ((row.map itD).filter fun _ => true).map kyD = row.map fun e => PyData.str (st (ky e)) := by
  rw [filter_tt', List.map_map]
  apply List.map_congr_left
  intro e _
  exact kyD_it e
theorem range16 {g : Nat → PyData} {i : Nat} (h : i < 16) : ((List.range 16).map g)[i]? = some (g i) := by simp [h]
theorem fill_fld {sz c2 k : Nat} : fill c2 60 sz (figs (k : Int) 4).reverse = fld sz c2 k := by
  simp [fill, fld, figs_length]
theorem fill_two (c : Nat) (l : List Nat) : fill c 60 2 l = l ++ List.replicate (2 - l.length) c := by simp [fill]
end Mine
open PySem PySem.W PyProof.Rows PySem.Calls Mine
set_option maxRecDepth 100000
set_option maxHeartbeats 4000000 in
theorem Mine.ent2 : PySem.Challenge.rw_il0215_02.Holds := hd2 (by
  k_fill
  intro w s₀ s₁ mg mb G Y fa o pm cd doc dV kV ho hd hcd hD hmg hg args vals as hpre hlay hrd hwl hlo
  have KX := kIn_of Y
  have hdV := hD.pos_none rfl
  have hkV := hD.kw_none rfl
  subst hdV hkV
  refine Ground.open G ?_
  intro T B D TE TW
  wrow_args hpre hlay hrd hwl hlo
  rename_i ns hs0 hlay0 hL1 hr1 hl2 q4 q3 l vs q0 hL ra w1 r0 hI hr hlen hT
  have hlen : ns.length ≤ 63 := by (first | lia | omega)
  let C : Cx := { prog := Challenge.rw_il0215_02.row.prog, w := w, A := callerA, g := fun b => s₁.heap.get? b, K := hd2.heap_39 w.params, mg := mg, mb := mb, fuel := 12 }
  have ok : C.Ok := ⟨rfl, show 1 + claimMargin + 12 ≤ 600 by decide, show 4 + 8 * 12 ≤ 2000 by decide, KX, fun h x => T.g.keeps x, fun h x => T.b.keeps x, fun h x => T.nolimit.keeps x, T.builtins⟩
  have I : Is2 w.params C := ⟨rfl, KX, fun n v e => by
    cases v with
    | none => exact mg_none_of KX T.g e
    | some v => exact mg_of KX T.g e⟩
  have S : C.St (fun _ => False) s₁ := ⟨fun b o e => e, fun a h => h.elim⟩
  show wpAny (model C.prog C.w) C.A (call (.ref fa) [Value.ref l]) _ _ s₁
  refine wpAny_call (codeAny_mono (enterO (b := .dat (.bool true)) ok (show 0 < 12 by decide) S ho hd hcd (binds := [(Str.ofString "script", .ref l)]) (bs := [.lst (ns.map .int)]) ?_ (.cons ⟨l, vs, rfl, hL, ints_rep hI⟩ .nil) (show [Str.ofString "script"].Nodup by decide) rfl fun L => ?_) fun r s' ⟨v, e, k, q⟩ => ?_)
  · exact kp_binds KX (fun _ => rfl)
  · dsimp only [docDef]
    have hf : 8 < C.fuel := show 8 < 12 by decide
    generalize hds : (tenOf ns).map deedOf = ds
    have hdsz : ds.length ≤ 10 := by rw [← hds, List.length_map]; exact tenOf_len ns
    have hds4 : ∀ d ∈ ds, d.1.length ≤ 4 := fun d hd => by
      rw [← hds] at hd
      obtain ⟨x, _, rfl⟩ := List.mem_map.mp hd
      exact deedOf_len x
    have hdsb : ∀ d ∈ ds, ∀ c ∈ d.1, c = 48 ∨ c = 49 := fun d hd => by
      rw [← hds] at hd
      obtain ⟨x, _, rfl⟩ := List.mem_map.mp hd
      exact fun c hc => figs_mem hc
    generalize hsz : (ns.sum % 3).toNat + 5 = sz
    have h5 : 5 ≤ sz := by (first | lia | omega)
    have h7 : sz ≤ 7 := by (first | lia | omega)
    obtain ⟨c0, hc0, hm0⟩ := pick3 (l := [47, 45, 33]) (i := ns.sum / 3) rfl
    obtain ⟨c1, hc1, hm1⟩ := pick3 (l := [50, 126, 65]) (i := ns.sum / 9) rfl
    obtain ⟨c2, hc2, hm2⟩ := pick2 (l := [48, 49]) (i := ns.sum / 27) rfl
    have h0 : c0 < 48 := by simp at hm0; (first | lia | omega)
    have h1 : 49 < c1 ∧ c1 < 128 := by simp at hm1; (first | lia | omega)
    have h2 : c2 = 48 ∨ c2 = 49 := by simpa using hm2
    have hfu : 0 < C.fuel - 1 := by (first | lia | omega)
    have hfu5 : 5 < C.fuel - 1 := by (first | lia | omega)
    have hc2' : c2 < 128 := by (first | lia | omega)
    have hc0' : c0 < 128 := by (first | lia | omega)
    have h15 : 1 ≤ sz := by (first | lia | omega)
    have hd8 : ∀ d ∈ ds, d.1.length ≤ 8 := fun d hd => Nat.le_trans (hds4 d hd) (by decide)
    have hdsz' : ∀ d ∈ ds, d.1.length ≤ sz := fun d hd => Nat.le_trans (hds4 d hd) (Nat.le_trans (by decide) h5)
    have hd100 : ds.length ≤ 100 := Nat.le_trans hdsz (by decide)
    have hdch : ∀ d ∈ ds, ∀ c ∈ d.1, c < 0x110000 := fun d hd c hc => by rcases hdsb d hd c hc with rfl | rfl <;> decide
    have PL := plain2 (deeds := ds) hdsb hds4 h5 h7 h0 h1.1 h1.2 h2
    have hRz := rowUp_len (sz := sz) (c0 := c0) (c1 := c1) (deeds := ds) ds.length
    have hLz := leftUp_len (deeds := ds) ds.length
    have hLm := leftUp_mem (deeds := ds) ds.length
    refine ex_make (Γ' := [(Str.ofString "script", .lst (ns.map .int))]) (evm_call (ev_glob rfl ((I.into _).gl rfl)) rfl rfl rfl) (by first | exact Or.inl rfl | exact Or.inr ⟨rfl, rfl, rfl⟩) (Pq.g (by repeat (first | exact Pq.nil | refine Pq.cons (by first | exact mem_at 0 rfl | exact mem_at 1 rfl | exact mem_at 2 rfl | exact mem_at 3 rfl | exact mem_at 4 rfl | exact mem_at 5 rfl | exact mem_at 6 rfl | exact mem_at 7 rfl | exact mem_at 8 rfl | exact mem_at 9 rfl | exact mem_at 10 rfl | exact mem_at 11 rfl | exact mem_at 12 rfl | exact mem_at 13 rfl | exact mem_at 14 rfl | exact mem_at 15 rfl | exact mem_at 16 rfl | exact mem_at 17 rfl | exact mem_at 18 rfl | exact mem_at 19 rfl | exact mem_at 20 rfl | exact mem_at 21 rfl) rfl ?_))) fun g' x dx up hx hdx => ?_
    have X : ∀ {C' : Cx}, C'.g = g' → Wr C' x dx := fun e => ⟨by rw [e]; exact hx, by rw [e]; exact hdx⟩
    refine ex_cons (ex_acomp (Γ' := [(Str.ofString "writer", .val (.ref x)), (Str.ofString "script", .lst (ns.map .int)), (Str.ofString "deeds", .dat (.list (ds.map dD)))]) [] [] (fun _ => true) deedD (ds.map dD) (items := (tenOf ns).map .int) (evi_list (ev_eq (b := .dat (.list ((tenOf ns).map .int))) (ev_slice (ev_lst (ev_bin (ev_var (b := .lst (ns.map .int)) (by first | exact mem_at 0 rfl | exact mem_at 1 rfl | exact mem_at 2 rfl | exact mem_at 3 rfl | exact mem_at 4 rfl | exact mem_at 5 rfl | exact mem_at 6 rfl | exact mem_at 7 rfl | exact mem_at 8 rfl | exact mem_at 9 rfl | exact mem_at 10 rfl | exact mem_at 11 rfl | exact mem_at 12 rfl | exact mem_at 13 rfl | exact mem_at 14 rfl | exact mem_at 15 rfl | exact mem_at 16 rfl | exact mem_at 17 rfl | exact mem_at 18 rfl | exact mem_at 19 rfl | exact mem_at 20 rfl | exact mem_at 21 rfl)) (ev_lst (ev_list (ds := [.int 1, .int 12, .int 1, .int 34, .int 1, .int 161]) (evd_cons ev_int (evd_cons ev_int (evd_cons ev_int (evd_cons ev_int (evd_cons ev_int (evd_cons ev_int evd_nil)))))))) (binR_add_list (by simp; (first | lia | omega))))) evp_none (evp_some ev_int) evp_none (sliceR_list (by simp; (first | lia | omega)))) ?_)) (by rw [List.length_map]; have := tenOf_len ns; (first | lia | omega)) ?_ ?_ (by intro q hq; repeat (first | (rcases List.mem_cons.mp hq with rfl | hq; exact ⟨(by first | exact mem_at 0 rfl | exact mem_at 1 rfl | exact mem_at 2 rfl | exact mem_at 3 rfl | exact mem_at 4 rfl | exact mem_at 5 rfl | exact mem_at 6 rfl | exact mem_at 7 rfl | exact mem_at 8 rfl | exact mem_at 9 rfl | exact mem_at 10 rfl | exact mem_at 11 rfl | exact mem_at 12 rfl | exact mem_at 13 rfl | exact mem_at 14 rfl | exact mem_at 15 rfl | exact mem_at 16 rfl | exact mem_at 17 rfl | exact mem_at 18 rfl | exact mem_at 19 rfl | exact mem_at 20 rfl | exact mem_at 21 rfl), show (some NameKind.cell : Option NameKind) ≠ some .local by decide, by first | exact Or.inl rfl | exact Or.inr ⟨rfl, rfl⟩, rfl⟩) | cases hq)) rfl (lookup_sub (by intro p hp; repeat (first | (rcases List.mem_cons.mp hp with rfl | hp; exact rfl) | cases hp))) (by rfl) (by first | exact Or.inl rfl | exact Or.inr ⟨rfl, rfl, rfl⟩) (by intro y ds e; first | (cases e; done) | (cases e; decide)) (Pk.g (by repeat (first | exact Pk.nil | refine Pk.here ?_ | refine Pk.cons (by first | exact mem_at 0 rfl | exact mem_at 1 rfl | exact mem_at 2 rfl | exact mem_at 3 rfl | exact mem_at 4 rfl | exact mem_at 5 rfl | exact mem_at 6 rfl | exact mem_at 7 rfl | exact mem_at 8 rfl | exact mem_at 9 rfl | exact mem_at 10 rfl | exact mem_at 11 rfl | exact mem_at 12 rfl | exact mem_at 13 rfl | exact mem_at 14 rfl | exact mem_at 15 rfl | exact mem_at 16 rfl | exact mem_at 17 rfl | exact mem_at 18 rfl | exact mem_at 19 rfl | exact mem_at 20 rfl | exact mem_at 21 rfl) rfl ?_)))) ?_
    · rw [pySl_upto _ (by first | decide | assumption | with_reducible exact Int.natCast_nonneg _ | with_reducible exact Nat.le_trans (by assumption) (by decide) | with_reducible exact Nat.lt_of_lt_of_le (by assumption) (by decide) | with_reducible exact lt_mil (Nat.lt_of_lt_of_le (by assumption) (by decide)) | with_reducible exact lt_mil (Nat.lt_of_le_of_lt (by assumption) (by decide)) | with_reducible exact Nat.le_trans (Nat.le_of_lt (by assumption)) (by decide) | (first | lia | omega))]
      simp [tenOf]
    · rw [filter_tt', ← hds, List.map_map, List.map_map]; rfl
    · intro L' d hd
      obtain ⟨y, hy, rfl⟩ := List.mem_map.mp hd
      refine ⟨[(Str.ofString "x", .dat (.int y))], asg_name (by first | exact Or.inl rfl | exact Or.inr ⟨rfl, rfl, rfl⟩) (by intro y ds e; first | (cases e; done) | (cases e; decide)) (Pk.g (by repeat (first | exact Pk.nil | refine Pk.here ?_ | refine Pk.cons (by first | exact mem_at 0 rfl | exact mem_at 1 rfl | exact mem_at 2 rfl | exact mem_at 3 rfl | exact mem_at 4 rfl | exact mem_at 5 rfl | exact mem_at 6 rfl | exact mem_at 7 rfl | exact mem_at 8 rfl | exact mem_at 9 rfl | exact mem_at 10 rfl | exact mem_at 11 rfl | exact mem_at 12 rfl | exact mem_at 13 rfl | exact mem_at 14 rfl | exact mem_at 15 rfl | exact mem_at 16 rfl | exact mem_at 17 rfl | exact mem_at 18 rfl | exact mem_at 19 rfl | exact mem_at 20 rfl | exact mem_at 21 rfl) rfl ?_))), evts_nil, fun _ => ?_⟩
      refine ev_list (ds := [.str (st (figs (y / 5) (y % 5).toNat)), .int ((y / 80 % 3).toNat : Int)]) (evd_cons (ev_def (ev_glob rfl ((((I.into _).reb up).comp _ _ _).gl rfl)) (evl_cons (ev_eq (b := .dat (.int (y / 5))) (ev_bin (ev_var (by first | exact mem_at 0 rfl | exact mem_at 1 rfl | exact mem_at 2 rfl | exact mem_at 3 rfl | exact mem_at 4 rfl | exact mem_at 5 rfl | exact mem_at 6 rfl | exact mem_at 7 rfl | exact mem_at 8 rfl | exact mem_at 9 rfl | exact mem_at 10 rfl | exact mem_at 11 rfl | exact mem_at 12 rfl | exact mem_at 13 rfl | exact mem_at 14 rfl | exact mem_at 15 rfl | exact mem_at 16 rfl | exact mem_at 17 rfl | exact mem_at 18 rfl | exact mem_at 19 rfl | exact mem_at 20 rfl | exact mem_at 21 rfl)) ev_int (binR_div (by first | decide | assumption | with_reducible exact Int.natCast_nonneg _ | with_reducible exact Nat.le_trans (by assumption) (by decide) | with_reducible exact Nat.lt_of_lt_of_le (by assumption) (by decide) | with_reducible exact lt_mil (Nat.lt_of_lt_of_le (by assumption) (by decide)) | with_reducible exact lt_mil (Nat.lt_of_le_of_lt (by assumption) (by decide)) | with_reducible exact Nat.le_trans (Nat.le_of_lt (by assumption)) (by decide) | (first | lia | omega)) (by first | decide | assumption | with_reducible exact Int.natCast_nonneg _ | with_reducible exact Nat.le_trans (by assumption) (by decide) | with_reducible exact Nat.lt_of_lt_of_le (by assumption) (by decide) | with_reducible exact lt_mil (Nat.lt_of_lt_of_le (by assumption) (by decide)) | with_reducible exact lt_mil (Nat.lt_of_le_of_lt (by assumption) (by decide)) | with_reducible exact Nat.le_trans (Nat.le_of_lt (by assumption)) (by decide) | (first | lia | omega)))) (by rw [← fdiv_e y 5 (by first | decide | assumption | with_reducible exact Int.natCast_nonneg _ | with_reducible exact Nat.le_trans (by assumption) (by decide) | with_reducible exact Nat.lt_of_lt_of_le (by assumption) (by decide) | with_reducible exact lt_mil (Nat.lt_of_lt_of_le (by assumption) (by decide)) | with_reducible exact lt_mil (Nat.lt_of_le_of_lt (by assumption) (by decide)) | with_reducible exact Nat.le_trans (Nat.le_of_lt (by assumption)) (by decide) | (first | lia | omega))])) (evl_cons (ev_eq (b := .dat (.int ((y % 5).toNat : Int))) (ev_bin (ev_var (by first | exact mem_at 0 rfl | exact mem_at 1 rfl | exact mem_at 2 rfl | exact mem_at 3 rfl | exact mem_at 4 rfl | exact mem_at 5 rfl | exact mem_at 6 rfl | exact mem_at 7 rfl | exact mem_at 8 rfl | exact mem_at 9 rfl | exact mem_at 10 rfl | exact mem_at 11 rfl | exact mem_at 12 rfl | exact mem_at 13 rfl | exact mem_at 14 rfl | exact mem_at 15 rfl | exact mem_at 16 rfl | exact mem_at 17 rfl | exact mem_at 18 rfl | exact mem_at 19 rfl | exact mem_at 20 rfl | exact mem_at 21 rfl)) ev_int (binR_md (by first | decide | assumption | with_reducible exact Int.natCast_nonneg _ | with_reducible exact Nat.le_trans (by assumption) (by decide) | with_reducible exact Nat.lt_of_lt_of_le (by assumption) (by decide) | with_reducible exact lt_mil (Nat.lt_of_lt_of_le (by assumption) (by decide)) | with_reducible exact lt_mil (Nat.lt_of_le_of_lt (by assumption) (by decide)) | with_reducible exact Nat.le_trans (Nat.le_of_lt (by assumption)) (by decide) | (first | lia | omega)))) (by rw [← fmod_n y 5 (by first | decide | assumption | with_reducible exact Int.natCast_nonneg _ | with_reducible exact Nat.le_trans (by assumption) (by decide) | with_reducible exact Nat.lt_of_lt_of_le (by assumption) (by decide) | with_reducible exact lt_mil (Nat.lt_of_lt_of_le (by assumption) (by decide)) | with_reducible exact lt_mil (Nat.lt_of_le_of_lt (by assumption) (by decide)) | with_reducible exact Nat.le_trans (Nat.le_of_lt (by assumption)) (by decide) | (first | lia | omega))])) evl_nil)) evkw_nil ((((I.into _).reb up).comp _ _ _).at (a := 147) rfl) rfl (sp_figures (((I.into _).reb up).comp _ _ _) hfu (by first | decide | assumption | with_reducible exact Int.natCast_nonneg _ | with_reducible exact Nat.le_trans (by assumption) (by decide) | with_reducible exact Nat.lt_of_lt_of_le (by assumption) (by decide) | with_reducible exact lt_mil (Nat.lt_of_lt_of_le (by assumption) (by decide)) | with_reducible exact lt_mil (Nat.lt_of_le_of_lt (by assumption) (by decide)) | with_reducible exact Nat.le_trans (Nat.le_of_lt (by assumption)) (by decide) | (first | lia | omega)))) (evd_cons (ev_eq (ev_bin (ev_bin (ev_var (by first | exact mem_at 0 rfl | exact mem_at 1 rfl | exact mem_at 2 rfl | exact mem_at 3 rfl | exact mem_at 4 rfl | exact mem_at 5 rfl | exact mem_at 6 rfl | exact mem_at 7 rfl | exact mem_at 8 rfl | exact mem_at 9 rfl | exact mem_at 10 rfl | exact mem_at 11 rfl | exact mem_at 12 rfl | exact mem_at 13 rfl | exact mem_at 14 rfl | exact mem_at 15 rfl | exact mem_at 16 rfl | exact mem_at 17 rfl | exact mem_at 18 rfl | exact mem_at 19 rfl | exact mem_at 20 rfl | exact mem_at 21 rfl)) ev_int (binR_div (by first | decide | assumption | with_reducible exact Int.natCast_nonneg _ | with_reducible exact Nat.le_trans (by assumption) (by decide) | with_reducible exact Nat.lt_of_lt_of_le (by assumption) (by decide) | with_reducible exact lt_mil (Nat.lt_of_lt_of_le (by assumption) (by decide)) | with_reducible exact lt_mil (Nat.lt_of_le_of_lt (by assumption) (by decide)) | with_reducible exact Nat.le_trans (Nat.le_of_lt (by assumption)) (by decide) | (first | lia | omega)) (by first | decide | assumption | with_reducible exact Int.natCast_nonneg _ | with_reducible exact Nat.le_trans (by assumption) (by decide) | with_reducible exact Nat.lt_of_lt_of_le (by assumption) (by decide) | with_reducible exact lt_mil (Nat.lt_of_lt_of_le (by assumption) (by decide)) | with_reducible exact lt_mil (Nat.lt_of_le_of_lt (by assumption) (by decide)) | with_reducible exact Nat.le_trans (Nat.le_of_lt (by assumption)) (by decide) | (first | lia | omega)))) ev_int (binR_md (by first | decide | assumption | with_reducible exact Int.natCast_nonneg _ | with_reducible exact Nat.le_trans (by assumption) (by decide) | with_reducible exact Nat.lt_of_lt_of_le (by assumption) (by decide) | with_reducible exact lt_mil (Nat.lt_of_lt_of_le (by assumption) (by decide)) | with_reducible exact lt_mil (Nat.lt_of_le_of_lt (by assumption) (by decide)) | with_reducible exact Nat.le_trans (Nat.le_of_lt (by assumption)) (by decide) | (first | lia | omega)))) (by rw [← fmod_n (y / 80) 3 (by first | decide | assumption | with_reducible exact Int.natCast_nonneg _ | with_reducible exact Nat.le_trans (by assumption) (by decide) | with_reducible exact Nat.lt_of_lt_of_le (by assumption) (by decide) | with_reducible exact lt_mil (Nat.lt_of_lt_of_le (by assumption) (by decide)) | with_reducible exact lt_mil (Nat.lt_of_le_of_lt (by assumption) (by decide)) | with_reducible exact Nat.le_trans (Nat.le_of_lt (by assumption)) (by decide) | (first | lia | omega)), ← fdiv_e y 80 (by first | decide | assumption | with_reducible exact Int.natCast_nonneg _ | with_reducible exact Nat.le_trans (by assumption) (by decide) | with_reducible exact Nat.lt_of_lt_of_le (by assumption) (by decide) | with_reducible exact lt_mil (Nat.lt_of_lt_of_le (by assumption) (by decide)) | with_reducible exact lt_mil (Nat.lt_of_le_of_lt (by assumption) (by decide)) | with_reducible exact Nat.le_trans (Nat.le_of_lt (by assumption)) (by decide) | (first | lia | omega))])) evd_nil))
    refine ex_cons (ex_assign (Γ' := [(Str.ofString "writer", .val (.ref x)), (Str.ofString "script", .lst (ns.map .int)), (Str.ofString "deeds", .dat (.list (ds.map dD))), (Str.ofString "total", .dat (.int ns.sum))]) (ev_call_bi (ev_builtin rfl (((I.into _).reb up).gl rfl) rfl) (evl_cons (ev_var (by first | exact mem_at 0 rfl | exact mem_at 1 rfl | exact mem_at 2 rfl | exact mem_at 3 rfl | exact mem_at 4 rfl | exact mem_at 5 rfl | exact mem_at 6 rfl | exact mem_at 7 rfl | exact mem_at 8 rfl | exact mem_at 9 rfl | exact mem_at 10 rfl | exact mem_at 11 rfl | exact mem_at 12 rfl | exact mem_at 13 rfl | exact mem_at 14 rfl | exact mem_at 15 rfl | exact mem_at 16 rfl | exact mem_at 17 rfl | exact mem_at 18 rfl | exact mem_at 19 rfl | exact mem_at 20 rfl | exact mem_at 21 rfl)) evl_nil) callOk_sum) (by first | exact Or.inl rfl | exact Or.inr ⟨rfl, rfl, rfl⟩) (by intro y ds e; first | (cases e; done) | (cases e; decide)) (Pk.g (by repeat (first | exact Pk.nil | refine Pk.here ?_ | refine Pk.cons (by first | exact mem_at 0 rfl | exact mem_at 1 rfl | exact mem_at 2 rfl | exact mem_at 3 rfl | exact mem_at 4 rfl | exact mem_at 5 rfl | exact mem_at 6 rfl | exact mem_at 7 rfl | exact mem_at 8 rfl | exact mem_at 9 rfl | exact mem_at 10 rfl | exact mem_at 11 rfl | exact mem_at 12 rfl | exact mem_at 13 rfl | exact mem_at 14 rfl | exact mem_at 15 rfl | exact mem_at 16 rfl | exact mem_at 17 rfl | exact mem_at 18 rfl | exact mem_at 19 rfl | exact mem_at 20 rfl | exact mem_at 21 rfl) rfl ?_)))) ?_
    refine ex_cons (ex_assign (Γ' := [(Str.ofString "writer", .val (.ref x)), (Str.ofString "script", .lst (ns.map .int)), (Str.ofString "deeds", .dat (.list (ds.map dD))), (Str.ofString "total", .dat (.int ns.sum)), (Str.ofString "size", .dat (.int (sz : Int)))]) (ev_eq (b := .dat (.int (sz : Int))) (ev_bin (ev_bin (ev_var (by first | exact mem_at 0 rfl | exact mem_at 1 rfl | exact mem_at 2 rfl | exact mem_at 3 rfl | exact mem_at 4 rfl | exact mem_at 5 rfl | exact mem_at 6 rfl | exact mem_at 7 rfl | exact mem_at 8 rfl | exact mem_at 9 rfl | exact mem_at 10 rfl | exact mem_at 11 rfl | exact mem_at 12 rfl | exact mem_at 13 rfl | exact mem_at 14 rfl | exact mem_at 15 rfl | exact mem_at 16 rfl | exact mem_at 17 rfl | exact mem_at 18 rfl | exact mem_at 19 rfl | exact mem_at 20 rfl | exact mem_at 21 rfl)) ev_int (binR_md (by first | decide | assumption | with_reducible exact Int.natCast_nonneg _ | with_reducible exact Nat.le_trans (by assumption) (by decide) | with_reducible exact Nat.lt_of_lt_of_le (by assumption) (by decide) | with_reducible exact lt_mil (Nat.lt_of_lt_of_le (by assumption) (by decide)) | with_reducible exact lt_mil (Nat.lt_of_le_of_lt (by assumption) (by decide)) | with_reducible exact Nat.le_trans (Nat.le_of_lt (by assumption)) (by decide) | (first | lia | omega)))) ev_int binR_add_int) (by rw [← hsz, show Int.fmod ns.sum 3 = ((ns.sum % 3).toNat : Int) from fmod_n ns.sum 3 (by first | decide | assumption | with_reducible exact Int.natCast_nonneg _ | with_reducible exact Nat.le_trans (by assumption) (by decide) | with_reducible exact Nat.lt_of_lt_of_le (by assumption) (by decide) | with_reducible exact lt_mil (Nat.lt_of_lt_of_le (by assumption) (by decide)) | with_reducible exact lt_mil (Nat.lt_of_le_of_lt (by assumption) (by decide)) | with_reducible exact Nat.le_trans (Nat.le_of_lt (by assumption)) (by decide) | (first | lia | omega))]; simp)) (by first | exact Or.inl rfl | exact Or.inr ⟨rfl, rfl, rfl⟩) (by intro y ds e; first | (cases e; done) | (cases e; decide)) (Pk.g (by repeat (first | exact Pk.nil | refine Pk.here ?_ | refine Pk.cons (by first | exact mem_at 0 rfl | exact mem_at 1 rfl | exact mem_at 2 rfl | exact mem_at 3 rfl | exact mem_at 4 rfl | exact mem_at 5 rfl | exact mem_at 6 rfl | exact mem_at 7 rfl | exact mem_at 8 rfl | exact mem_at 9 rfl | exact mem_at 10 rfl | exact mem_at 11 rfl | exact mem_at 12 rfl | exact mem_at 13 rfl | exact mem_at 14 rfl | exact mem_at 15 rfl | exact mem_at 16 rfl | exact mem_at 17 rfl | exact mem_at 18 rfl | exact mem_at 19 rfl | exact mem_at 20 rfl | exact mem_at 21 rfl) rfl ?_)))) ?_
    refine ex_cons (ex_assign (Γ' := [(Str.ofString "writer", .val (.ref x)), (Str.ofString "script", .lst (ns.map .int)), (Str.ofString "deeds", .dat (.list (ds.map dD))), (Str.ofString "total", .dat (.int ns.sum)), (Str.ofString "size", .dat (.int (sz : Int))), (Str.ofString "fills", .dat (.list [.str (st [c0]), .str (st [c1]), .str (st [c2])]))]) (ev_list (evd_cons (ev_item (ev_strL (l := [47, 45, 33]) rfl) (ev_eq (b := .dat (.int ((ns.sum / 3 % 3).toNat : Int))) (ev_bin (ev_bin (ev_var (by first | exact mem_at 0 rfl | exact mem_at 1 rfl | exact mem_at 2 rfl | exact mem_at 3 rfl | exact mem_at 4 rfl | exact mem_at 5 rfl | exact mem_at 6 rfl | exact mem_at 7 rfl | exact mem_at 8 rfl | exact mem_at 9 rfl | exact mem_at 10 rfl | exact mem_at 11 rfl | exact mem_at 12 rfl | exact mem_at 13 rfl | exact mem_at 14 rfl | exact mem_at 15 rfl | exact mem_at 16 rfl | exact mem_at 17 rfl | exact mem_at 18 rfl | exact mem_at 19 rfl | exact mem_at 20 rfl | exact mem_at 21 rfl)) ev_int (binR_div (by first | decide | assumption | with_reducible exact Int.natCast_nonneg _ | with_reducible exact Nat.le_trans (by assumption) (by decide) | with_reducible exact Nat.lt_of_lt_of_le (by assumption) (by decide) | with_reducible exact lt_mil (Nat.lt_of_lt_of_le (by assumption) (by decide)) | with_reducible exact lt_mil (Nat.lt_of_le_of_lt (by assumption) (by decide)) | with_reducible exact Nat.le_trans (Nat.le_of_lt (by assumption)) (by decide) | (first | lia | omega)) (by first | decide | assumption | with_reducible exact Int.natCast_nonneg _ | with_reducible exact Nat.le_trans (by assumption) (by decide) | with_reducible exact Nat.lt_of_lt_of_le (by assumption) (by decide) | with_reducible exact lt_mil (Nat.lt_of_lt_of_le (by assumption) (by decide)) | with_reducible exact lt_mil (Nat.lt_of_le_of_lt (by assumption) (by decide)) | with_reducible exact Nat.le_trans (Nat.le_of_lt (by assumption)) (by decide) | (first | lia | omega)))) ev_int (binR_md (by first | decide | assumption | with_reducible exact Int.natCast_nonneg _ | with_reducible exact Nat.le_trans (by assumption) (by decide) | with_reducible exact Nat.lt_of_lt_of_le (by assumption) (by decide) | with_reducible exact lt_mil (Nat.lt_of_lt_of_le (by assumption) (by decide)) | with_reducible exact lt_mil (Nat.lt_of_le_of_lt (by assumption) (by decide)) | with_reducible exact Nat.le_trans (Nat.le_of_lt (by assumption)) (by decide) | (first | lia | omega)))) (by rw [← fmod_n (ns.sum / 3) 3 (by first | decide | assumption | with_reducible exact Int.natCast_nonneg _ | with_reducible exact Nat.le_trans (by assumption) (by decide) | with_reducible exact Nat.lt_of_lt_of_le (by assumption) (by decide) | with_reducible exact lt_mil (Nat.lt_of_lt_of_le (by assumption) (by decide)) | with_reducible exact lt_mil (Nat.lt_of_le_of_lt (by assumption) (by decide)) | with_reducible exact Nat.le_trans (Nat.le_of_lt (by assumption)) (by decide) | (first | lia | omega)), ← fdiv_e ns.sum 3 (by first | decide | assumption | with_reducible exact Int.natCast_nonneg _ | with_reducible exact Nat.le_trans (by assumption) (by decide) | with_reducible exact Nat.lt_of_lt_of_le (by assumption) (by decide) | with_reducible exact lt_mil (Nat.lt_of_lt_of_le (by assumption) (by decide)) | with_reducible exact lt_mil (Nat.lt_of_le_of_lt (by assumption) (by decide)) | with_reducible exact Nat.le_trans (Nat.le_of_lt (by assumption)) (by decide) | (first | lia | omega))])) (getR_str (by first | decide | assumption | with_reducible exact Int.natCast_nonneg _ | with_reducible exact Nat.le_trans (by assumption) (by decide) | with_reducible exact Nat.lt_of_lt_of_le (by assumption) (by decide) | with_reducible exact lt_mil (Nat.lt_of_lt_of_le (by assumption) (by decide)) | with_reducible exact lt_mil (Nat.lt_of_le_of_lt (by assumption) (by decide)) | with_reducible exact Nat.le_trans (Nat.le_of_lt (by assumption)) (by decide) | (first | lia | omega)) (by rw [Int.toNat_natCast]; exact hc0) (by first | decide | assumption | with_reducible exact Int.natCast_nonneg _ | with_reducible exact Nat.le_trans (by assumption) (by decide) | with_reducible exact Nat.lt_of_lt_of_le (by assumption) (by decide) | with_reducible exact lt_mil (Nat.lt_of_lt_of_le (by assumption) (by decide)) | with_reducible exact lt_mil (Nat.lt_of_le_of_lt (by assumption) (by decide)) | with_reducible exact Nat.le_trans (Nat.le_of_lt (by assumption)) (by decide) | (first | lia | omega)))) (evd_cons (ev_item (ev_strL (l := [50, 126, 65]) rfl) (ev_eq (b := .dat (.int ((ns.sum / 9 % 3).toNat : Int))) (ev_bin (ev_bin (ev_var (by first | exact mem_at 0 rfl | exact mem_at 1 rfl | exact mem_at 2 rfl | exact mem_at 3 rfl | exact mem_at 4 rfl | exact mem_at 5 rfl | exact mem_at 6 rfl | exact mem_at 7 rfl | exact mem_at 8 rfl | exact mem_at 9 rfl | exact mem_at 10 rfl | exact mem_at 11 rfl | exact mem_at 12 rfl | exact mem_at 13 rfl | exact mem_at 14 rfl | exact mem_at 15 rfl | exact mem_at 16 rfl | exact mem_at 17 rfl | exact mem_at 18 rfl | exact mem_at 19 rfl | exact mem_at 20 rfl | exact mem_at 21 rfl)) ev_int (binR_div (by first | decide | assumption | with_reducible exact Int.natCast_nonneg _ | with_reducible exact Nat.le_trans (by assumption) (by decide) | with_reducible exact Nat.lt_of_lt_of_le (by assumption) (by decide) | with_reducible exact lt_mil (Nat.lt_of_lt_of_le (by assumption) (by decide)) | with_reducible exact lt_mil (Nat.lt_of_le_of_lt (by assumption) (by decide)) | with_reducible exact Nat.le_trans (Nat.le_of_lt (by assumption)) (by decide) | (first | lia | omega)) (by first | decide | assumption | with_reducible exact Int.natCast_nonneg _ | with_reducible exact Nat.le_trans (by assumption) (by decide) | with_reducible exact Nat.lt_of_lt_of_le (by assumption) (by decide) | with_reducible exact lt_mil (Nat.lt_of_lt_of_le (by assumption) (by decide)) | with_reducible exact lt_mil (Nat.lt_of_le_of_lt (by assumption) (by decide)) | with_reducible exact Nat.le_trans (Nat.le_of_lt (by assumption)) (by decide) | (first | lia | omega)))) ev_int (binR_md (by first | decide | assumption | with_reducible exact Int.natCast_nonneg _ | with_reducible exact Nat.le_trans (by assumption) (by decide) | with_reducible exact Nat.lt_of_lt_of_le (by assumption) (by decide) | with_reducible exact lt_mil (Nat.lt_of_lt_of_le (by assumption) (by decide)) | with_reducible exact lt_mil (Nat.lt_of_le_of_lt (by assumption) (by decide)) | with_reducible exact Nat.le_trans (Nat.le_of_lt (by assumption)) (by decide) | (first | lia | omega)))) (by rw [← fmod_n (ns.sum / 9) 3 (by first | decide | assumption | with_reducible exact Int.natCast_nonneg _ | with_reducible exact Nat.le_trans (by assumption) (by decide) | with_reducible exact Nat.lt_of_lt_of_le (by assumption) (by decide) | with_reducible exact lt_mil (Nat.lt_of_lt_of_le (by assumption) (by decide)) | with_reducible exact lt_mil (Nat.lt_of_le_of_lt (by assumption) (by decide)) | with_reducible exact Nat.le_trans (Nat.le_of_lt (by assumption)) (by decide) | (first | lia | omega)), ← fdiv_e ns.sum 9 (by first | decide | assumption | with_reducible exact Int.natCast_nonneg _ | with_reducible exact Nat.le_trans (by assumption) (by decide) | with_reducible exact Nat.lt_of_lt_of_le (by assumption) (by decide) | with_reducible exact lt_mil (Nat.lt_of_lt_of_le (by assumption) (by decide)) | with_reducible exact lt_mil (Nat.lt_of_le_of_lt (by assumption) (by decide)) | with_reducible exact Nat.le_trans (Nat.le_of_lt (by assumption)) (by decide) | (first | lia | omega))])) (getR_str (by first | decide | assumption | with_reducible exact Int.natCast_nonneg _ | with_reducible exact Nat.le_trans (by assumption) (by decide) | with_reducible exact Nat.lt_of_lt_of_le (by assumption) (by decide) | with_reducible exact lt_mil (Nat.lt_of_lt_of_le (by assumption) (by decide)) | with_reducible exact lt_mil (Nat.lt_of_le_of_lt (by assumption) (by decide)) | with_reducible exact Nat.le_trans (Nat.le_of_lt (by assumption)) (by decide) | (first | lia | omega)) (by rw [Int.toNat_natCast]; exact hc1) (by first | decide | assumption | with_reducible exact Int.natCast_nonneg _ | with_reducible exact Nat.le_trans (by assumption) (by decide) | with_reducible exact Nat.lt_of_lt_of_le (by assumption) (by decide) | with_reducible exact lt_mil (Nat.lt_of_lt_of_le (by assumption) (by decide)) | with_reducible exact lt_mil (Nat.lt_of_le_of_lt (by assumption) (by decide)) | with_reducible exact Nat.le_trans (Nat.le_of_lt (by assumption)) (by decide) | (first | lia | omega)))) (evd_cons (ev_item (ev_strL (l := [48, 49]) rfl) (ev_eq (b := .dat (.int ((ns.sum / 27 % 2).toNat : Int))) (ev_bin (ev_bin (ev_var (by first | exact mem_at 0 rfl | exact mem_at 1 rfl | exact mem_at 2 rfl | exact mem_at 3 rfl | exact mem_at 4 rfl | exact mem_at 5 rfl | exact mem_at 6 rfl | exact mem_at 7 rfl | exact mem_at 8 rfl | exact mem_at 9 rfl | exact mem_at 10 rfl | exact mem_at 11 rfl | exact mem_at 12 rfl | exact mem_at 13 rfl | exact mem_at 14 rfl | exact mem_at 15 rfl | exact mem_at 16 rfl | exact mem_at 17 rfl | exact mem_at 18 rfl | exact mem_at 19 rfl | exact mem_at 20 rfl | exact mem_at 21 rfl)) ev_int (binR_div (by first | decide | assumption | with_reducible exact Int.natCast_nonneg _ | with_reducible exact Nat.le_trans (by assumption) (by decide) | with_reducible exact Nat.lt_of_lt_of_le (by assumption) (by decide) | with_reducible exact lt_mil (Nat.lt_of_lt_of_le (by assumption) (by decide)) | with_reducible exact lt_mil (Nat.lt_of_le_of_lt (by assumption) (by decide)) | with_reducible exact Nat.le_trans (Nat.le_of_lt (by assumption)) (by decide) | (first | lia | omega)) (by first | decide | assumption | with_reducible exact Int.natCast_nonneg _ | with_reducible exact Nat.le_trans (by assumption) (by decide) | with_reducible exact Nat.lt_of_lt_of_le (by assumption) (by decide) | with_reducible exact lt_mil (Nat.lt_of_lt_of_le (by assumption) (by decide)) | with_reducible exact lt_mil (Nat.lt_of_le_of_lt (by assumption) (by decide)) | with_reducible exact Nat.le_trans (Nat.le_of_lt (by assumption)) (by decide) | (first | lia | omega)))) ev_int (binR_md (by first | decide | assumption | with_reducible exact Int.natCast_nonneg _ | with_reducible exact Nat.le_trans (by assumption) (by decide) | with_reducible exact Nat.lt_of_lt_of_le (by assumption) (by decide) | with_reducible exact lt_mil (Nat.lt_of_lt_of_le (by assumption) (by decide)) | with_reducible exact lt_mil (Nat.lt_of_le_of_lt (by assumption) (by decide)) | with_reducible exact Nat.le_trans (Nat.le_of_lt (by assumption)) (by decide) | (first | lia | omega)))) (by rw [← fmod_n (ns.sum / 27) 2 (by first | decide | assumption | with_reducible exact Int.natCast_nonneg _ | with_reducible exact Nat.le_trans (by assumption) (by decide) | with_reducible exact Nat.lt_of_lt_of_le (by assumption) (by decide) | with_reducible exact lt_mil (Nat.lt_of_lt_of_le (by assumption) (by decide)) | with_reducible exact lt_mil (Nat.lt_of_le_of_lt (by assumption) (by decide)) | with_reducible exact Nat.le_trans (Nat.le_of_lt (by assumption)) (by decide) | (first | lia | omega)), ← fdiv_e ns.sum 27 (by first | decide | assumption | with_reducible exact Int.natCast_nonneg _ | with_reducible exact Nat.le_trans (by assumption) (by decide) | with_reducible exact Nat.lt_of_lt_of_le (by assumption) (by decide) | with_reducible exact lt_mil (Nat.lt_of_lt_of_le (by assumption) (by decide)) | with_reducible exact lt_mil (Nat.lt_of_le_of_lt (by assumption) (by decide)) | with_reducible exact Nat.le_trans (Nat.le_of_lt (by assumption)) (by decide) | (first | lia | omega))])) (getR_str (by first | decide | assumption | with_reducible exact Int.natCast_nonneg _ | with_reducible exact Nat.le_trans (by assumption) (by decide) | with_reducible exact Nat.lt_of_lt_of_le (by assumption) (by decide) | with_reducible exact lt_mil (Nat.lt_of_lt_of_le (by assumption) (by decide)) | with_reducible exact lt_mil (Nat.lt_of_le_of_lt (by assumption) (by decide)) | with_reducible exact Nat.le_trans (Nat.le_of_lt (by assumption)) (by decide) | (first | lia | omega)) (by rw [Int.toNat_natCast]; exact hc2) (by first | decide | assumption | with_reducible exact Int.natCast_nonneg _ | with_reducible exact Nat.le_trans (by assumption) (by decide) | with_reducible exact Nat.lt_of_lt_of_le (by assumption) (by decide) | with_reducible exact lt_mil (Nat.lt_of_lt_of_le (by assumption) (by decide)) | with_reducible exact lt_mil (Nat.lt_of_le_of_lt (by assumption) (by decide)) | with_reducible exact Nat.le_trans (Nat.le_of_lt (by assumption)) (by decide) | (first | lia | omega)))) evd_nil)))) (by first | exact Or.inl rfl | exact Or.inr ⟨rfl, rfl, rfl⟩) (by intro y ds e; first | (cases e; done) | (cases e; decide)) (Pk.g (by repeat (first | exact Pk.nil | refine Pk.here ?_ | refine Pk.cons (by first | exact mem_at 0 rfl | exact mem_at 1 rfl | exact mem_at 2 rfl | exact mem_at 3 rfl | exact mem_at 4 rfl | exact mem_at 5 rfl | exact mem_at 6 rfl | exact mem_at 7 rfl | exact mem_at 8 rfl | exact mem_at 9 rfl | exact mem_at 10 rfl | exact mem_at 11 rfl | exact mem_at 12 rfl | exact mem_at 13 rfl | exact mem_at 14 rfl | exact mem_at 15 rfl | exact mem_at 16 rfl | exact mem_at 17 rfl | exact mem_at 18 rfl | exact mem_at 19 rfl | exact mem_at 20 rfl | exact mem_at 21 rfl) rfl ?_)))) ?_
    refine ex_cons (ex_if_false (et_cmp (ev_acomp [(Str.ofString "writer", L + 1), (Str.ofString "fills", L + 3)] [(Str.ofString "fills", .dat (.list [.str (st [c0]), .str (st [c1]), .str (st [c2])])), (Str.ofString "writer", .val (.ref x))] (fun _ => true) (dF fun l => .str (st (fill c2 60 2 l))) (ds.map fun d => PyData.str (st (fill c2 60 2 d.1))) (evi_list (ev_var (by first | exact mem_at 0 rfl | exact mem_at 1 rfl | exact mem_at 2 rfl | exact mem_at 3 rfl | exact mem_at 4 rfl | exact mem_at 5 rfl | exact mem_at 6 rfl | exact mem_at 7 rfl | exact mem_at 8 rfl | exact mem_at 9 rfl | exact mem_at 10 rfl | exact mem_at 11 rfl | exact mem_at 12 rfl | exact mem_at 13 rfl | exact mem_at 14 rfl | exact mem_at 15 rfl | exact mem_at 16 rfl | exact mem_at 17 rfl | exact mem_at 18 rfl | exact mem_at 19 rfl | exact mem_at 20 rfl | exact mem_at 21 rfl))) (by rw [List.length_map]; (first | lia | omega)) (by rw [filter_tt', List.map_map]; rfl) ?_ (by intro q hq; repeat (first | (rcases List.mem_cons.mp hq with rfl | hq; exact ⟨(by first | exact mem_at 0 rfl | exact mem_at 1 rfl | exact mem_at 2 rfl | exact mem_at 3 rfl | exact mem_at 4 rfl | exact mem_at 5 rfl | exact mem_at 6 rfl | exact mem_at 7 rfl | exact mem_at 8 rfl | exact mem_at 9 rfl | exact mem_at 10 rfl | exact mem_at 11 rfl | exact mem_at 12 rfl | exact mem_at 13 rfl | exact mem_at 14 rfl | exact mem_at 15 rfl | exact mem_at 16 rfl | exact mem_at 17 rfl | exact mem_at 18 rfl | exact mem_at 19 rfl | exact mem_at 20 rfl | exact mem_at 21 rfl), show (some NameKind.cell : Option NameKind) ≠ some .local by decide, by first | exact Or.inl rfl | exact Or.inr ⟨rfl, rfl⟩, rfl⟩) | cases hq)) rfl (lookup_sub (by intro p hp; repeat (first | (rcases List.mem_cons.mp hp with rfl | hp; exact rfl) | cases hp))))
      (ev_acomp [(Str.ofString "fills", L + 3)] [(Str.ofString "fills", .dat (.list [.str (st [c0]), .str (st [c1]), .str (st [c2])]))] (fun _ => true) (dF fun l => .str (st (fill c2 60 2 l))) (ds.map fun d => PyData.str (st (fill c2 60 2 d.1))) (evi_list (ev_var (by first | exact mem_at 0 rfl | exact mem_at 1 rfl | exact mem_at 2 rfl | exact mem_at 3 rfl | exact mem_at 4 rfl | exact mem_at 5 rfl | exact mem_at 6 rfl | exact mem_at 7 rfl | exact mem_at 8 rfl | exact mem_at 9 rfl | exact mem_at 10 rfl | exact mem_at 11 rfl | exact mem_at 12 rfl | exact mem_at 13 rfl | exact mem_at 14 rfl | exact mem_at 15 rfl | exact mem_at 16 rfl | exact mem_at 17 rfl | exact mem_at 18 rfl | exact mem_at 19 rfl | exact mem_at 20 rfl | exact mem_at 21 rfl))) (by rw [List.length_map]; (first | lia | omega)) (by rw [filter_tt', List.map_map]; rfl) ?_ (by intro q hq; repeat (first | (rcases List.mem_cons.mp hq with rfl | hq; exact ⟨(by first | exact mem_at 0 rfl | exact mem_at 1 rfl | exact mem_at 2 rfl | exact mem_at 3 rfl | exact mem_at 4 rfl | exact mem_at 5 rfl | exact mem_at 6 rfl | exact mem_at 7 rfl | exact mem_at 8 rfl | exact mem_at 9 rfl | exact mem_at 10 rfl | exact mem_at 11 rfl | exact mem_at 12 rfl | exact mem_at 13 rfl | exact mem_at 14 rfl | exact mem_at 15 rfl | exact mem_at 16 rfl | exact mem_at 17 rfl | exact mem_at 18 rfl | exact mem_at 19 rfl | exact mem_at 20 rfl | exact mem_at 21 rfl), show (some NameKind.cell : Option NameKind) ≠ some .local by decide, by first | exact Or.inl rfl | exact Or.inr ⟨rfl, rfl⟩, rfl⟩) | cases hq)) rfl (lookup_sub (by intro p hp; repeat (first | (rcases List.mem_cons.mp hp with rfl | hp; exact rfl) | cases hp)))) (cmpR_ne_pl (n := 1) (m := 1) ?_ ?_ (by simp))) ex_nil) ?_
    · intro L' e he
      obtain ⟨d, hd, rfl⟩ := List.mem_map.mp he
      have hd4 := hds4 d hd
      refine ⟨[(Str.ofString "end", .dat (.str (st d.1))), (Str.ofString "fills", .dat (.list [.str (st [c0]), .str (st [c1]), .str (st [c2])])), (Str.ofString "writer", .val (.ref x))], (asg_tuple (by first | exact names2 | exact names3) rfl (asgAll_cons (Γ₁ := [(Str.ofString "end", .dat (.str (st d.1))), (Str.ofString "fills", .dat (.list [.str (st [c0]), .str (st [c1]), .str (st [c2])])), (Str.ofString "writer", .val (.ref x))]) (asg_name (by first | exact Or.inl rfl | exact Or.inr ⟨rfl, rfl, rfl⟩) (by intro y ds e; first | (cases e; done) | (cases e; decide)) (Pk.g (by repeat (first | exact Pk.nil | refine Pk.here ?_ | refine Pk.cons (by first | exact mem_at 0 rfl | exact mem_at 1 rfl | exact mem_at 2 rfl | exact mem_at 3 rfl | exact mem_at 4 rfl | exact mem_at 5 rfl | exact mem_at 6 rfl | exact mem_at 7 rfl | exact mem_at 8 rfl | exact mem_at 9 rfl | exact mem_at 10 rfl | exact mem_at 11 rfl | exact mem_at 12 rfl | exact mem_at 13 rfl | exact mem_at 14 rfl | exact mem_at 15 rfl | exact mem_at 16 rfl | exact mem_at 17 rfl | exact mem_at 18 rfl | exact mem_at 19 rfl | exact mem_at 20 rfl | exact mem_at 21 rfl) rfl ?_)))) (asgAll_cons (asg_name (by first | exact Or.inl rfl | exact Or.inr ⟨rfl, rfl, rfl⟩) (by intro y ds e; first | (cases e; done) | (cases e; decide)) (Pk.g (by repeat (first | exact Pk.nil | refine Pk.here ?_ | refine Pk.cons (by first | exact mem_at 0 rfl | exact mem_at 1 rfl | exact mem_at 2 rfl | exact mem_at 3 rfl | exact mem_at 4 rfl | exact mem_at 5 rfl | exact mem_at 6 rfl | exact mem_at 7 rfl | exact mem_at 8 rfl | exact mem_at 9 rfl | exact mem_at 10 rfl | exact mem_at 11 rfl | exact mem_at 12 rfl | exact mem_at 13 rfl | exact mem_at 14 rfl | exact mem_at 15 rfl | exact mem_at 16 rfl | exact mem_at 17 rfl | exact mem_at 18 rfl | exact mem_at 19 rfl | exact mem_at 20 rfl | exact mem_at 21 rfl) rfl ?_)))) asgAll_nil))), evts_nil, fun _ => ?_⟩
      exact ev_write (l := d.1) (((I.into _).reb up).comp _ _ _) hfu (X rfl) hc2' (.inl rfl) (by first | decide | assumption | with_reducible exact Int.natCast_nonneg _ | with_reducible exact Nat.le_trans (by assumption) (by decide) | with_reducible exact Nat.lt_of_lt_of_le (by assumption) (by decide) | with_reducible exact lt_mil (Nat.lt_of_lt_of_le (by assumption) (by decide)) | with_reducible exact lt_mil (Nat.lt_of_le_of_lt (by assumption) (by decide)) | with_reducible exact Nat.le_trans (Nat.le_of_lt (by assumption)) (by decide) | (first | lia | omega)) (by first | decide | assumption | with_reducible exact Int.natCast_nonneg _ | with_reducible exact Nat.le_trans (by assumption) (by decide) | with_reducible exact Nat.lt_of_lt_of_le (by assumption) (by decide) | with_reducible exact lt_mil (Nat.lt_of_lt_of_le (by assumption) (by decide)) | with_reducible exact lt_mil (Nat.lt_of_le_of_lt (by assumption) (by decide)) | with_reducible exact Nat.le_trans (Nat.le_of_lt (by assumption)) (by decide) | (first | lia | omega)) (Nat.le_trans hd4 (by decide)) (ev_var (by first | exact mem_at 0 rfl | exact mem_at 1 rfl | exact mem_at 2 rfl | exact mem_at 3 rfl | exact mem_at 4 rfl | exact mem_at 5 rfl | exact mem_at 6 rfl | exact mem_at 7 rfl | exact mem_at 8 rfl | exact mem_at 9 rfl | exact mem_at 10 rfl | exact mem_at 11 rfl | exact mem_at 12 rfl | exact mem_at 13 rfl | exact mem_at 14 rfl | exact mem_at 15 rfl | exact mem_at 16 rfl | exact mem_at 17 rfl | exact mem_at 18 rfl | exact mem_at 19 rfl | exact mem_at 20 rfl | exact mem_at 21 rfl)) (evl_cons (ev_var (by first | exact mem_at 0 rfl | exact mem_at 1 rfl | exact mem_at 2 rfl | exact mem_at 3 rfl | exact mem_at 4 rfl | exact mem_at 5 rfl | exact mem_at 6 rfl | exact mem_at 7 rfl | exact mem_at 8 rfl | exact mem_at 9 rfl | exact mem_at 10 rfl | exact mem_at 11 rfl | exact mem_at 12 rfl | exact mem_at 13 rfl | exact mem_at 14 rfl | exact mem_at 15 rfl | exact mem_at 16 rfl | exact mem_at 17 rfl | exact mem_at 18 rfl | exact mem_at 19 rfl | exact mem_at 20 rfl | exact mem_at 21 rfl)) (evl_cons (ev_eq (b := .dat (.str (st [c2, 60, 50]))) (ev_bin (ev_item (ev_lst (ev_var (b := .dat (.list [.str (st [c0]), .str (st [c1]), .str (st [c2])])) (by first | exact mem_at 0 rfl | exact mem_at 1 rfl | exact mem_at 2 rfl | exact mem_at 3 rfl | exact mem_at 4 rfl | exact mem_at 5 rfl | exact mem_at 6 rfl | exact mem_at 7 rfl | exact mem_at 8 rfl | exact mem_at 9 rfl | exact mem_at 10 rfl | exact mem_at 11 rfl | exact mem_at 12 rfl | exact mem_at 13 rfl | exact mem_at 14 rfl | exact mem_at 15 rfl | exact mem_at 16 rfl | exact mem_at 17 rfl | exact mem_at 18 rfl | exact mem_at 19 rfl | exact mem_at 20 rfl | exact mem_at 21 rfl))) ev_int (getR_list (d := .str (st [c2])) (by first | decide | assumption | with_reducible exact Int.natCast_nonneg _ | with_reducible exact Nat.le_trans (by assumption) (by decide) | with_reducible exact Nat.lt_of_lt_of_le (by assumption) (by decide) | with_reducible exact lt_mil (Nat.lt_of_lt_of_le (by assumption) (by decide)) | with_reducible exact lt_mil (Nat.lt_of_le_of_lt (by assumption) (by decide)) | with_reducible exact Nat.le_trans (Nat.le_of_lt (by assumption)) (by decide) | (first | lia | omega)) rfl (by first | decide | assumption | with_reducible exact Int.natCast_nonneg _ | with_reducible exact Nat.le_trans (by assumption) (by decide) | with_reducible exact Nat.lt_of_lt_of_le (by assumption) (by decide) | with_reducible exact lt_mil (Nat.lt_of_lt_of_le (by assumption) (by decide)) | with_reducible exact lt_mil (Nat.lt_of_le_of_lt (by assumption) (by decide)) | with_reducible exact Nat.le_trans (Nat.le_of_lt (by assumption)) (by decide) | (first | lia | omega)))) (ev_strL (l := [60, 50]) rfl) (binR_add_str (by simp))) rfl) evl_nil))
    · intro L' e he
      obtain ⟨d, hd, rfl⟩ := List.mem_map.mp he
      have hd4 := hds4 d hd
      refine ⟨[(Str.ofString "end", .dat (.str (st d.1))), (Str.ofString "fills", .dat (.list [.str (st [c0]), .str (st [c1]), .str (st [c2])]))], (asg_tuple (by first | exact names2 | exact names3) rfl (asgAll_cons (Γ₁ := [(Str.ofString "end", .dat (.str (st d.1))), (Str.ofString "fills", .dat (.list [.str (st [c0]), .str (st [c1]), .str (st [c2])]))]) (asg_name (by first | exact Or.inl rfl | exact Or.inr ⟨rfl, rfl, rfl⟩) (by intro y ds e; first | (cases e; done) | (cases e; decide)) (Pk.g (by repeat (first | exact Pk.nil | refine Pk.here ?_ | refine Pk.cons (by first | exact mem_at 0 rfl | exact mem_at 1 rfl | exact mem_at 2 rfl | exact mem_at 3 rfl | exact mem_at 4 rfl | exact mem_at 5 rfl | exact mem_at 6 rfl | exact mem_at 7 rfl | exact mem_at 8 rfl | exact mem_at 9 rfl | exact mem_at 10 rfl | exact mem_at 11 rfl | exact mem_at 12 rfl | exact mem_at 13 rfl | exact mem_at 14 rfl | exact mem_at 15 rfl | exact mem_at 16 rfl | exact mem_at 17 rfl | exact mem_at 18 rfl | exact mem_at 19 rfl | exact mem_at 20 rfl | exact mem_at 21 rfl) rfl ?_)))) (asgAll_cons (asg_name (by first | exact Or.inl rfl | exact Or.inr ⟨rfl, rfl, rfl⟩) (by intro y ds e; first | (cases e; done) | (cases e; decide)) (Pk.g (by repeat (first | exact Pk.nil | refine Pk.here ?_ | refine Pk.cons (by first | exact mem_at 0 rfl | exact mem_at 1 rfl | exact mem_at 2 rfl | exact mem_at 3 rfl | exact mem_at 4 rfl | exact mem_at 5 rfl | exact mem_at 6 rfl | exact mem_at 7 rfl | exact mem_at 8 rfl | exact mem_at 9 rfl | exact mem_at 10 rfl | exact mem_at 11 rfl | exact mem_at 12 rfl | exact mem_at 13 rfl | exact mem_at 14 rfl | exact mem_at 15 rfl | exact mem_at 16 rfl | exact mem_at 17 rfl | exact mem_at 18 rfl | exact mem_at 19 rfl | exact mem_at 20 rfl | exact mem_at 21 rfl) rfl ?_)))) asgAll_nil))), evts_nil, fun _ => ?_⟩
      exact ev_eq (ev_bin (ev_var (by first | exact mem_at 0 rfl | exact mem_at 1 rfl | exact mem_at 2 rfl | exact mem_at 3 rfl | exact mem_at 4 rfl | exact mem_at 5 rfl | exact mem_at 6 rfl | exact mem_at 7 rfl | exact mem_at 8 rfl | exact mem_at 9 rfl | exact mem_at 10 rfl | exact mem_at 11 rfl | exact mem_at 12 rfl | exact mem_at 13 rfl | exact mem_at 14 rfl | exact mem_at 15 rfl | exact mem_at 16 rfl | exact mem_at 17 rfl | exact mem_at 18 rfl | exact mem_at 19 rfl | exact mem_at 20 rfl | exact mem_at 21 rfl)) (ev_bin (ev_item (ev_lst (ev_var (b := .dat (.list [.str (st [c0]), .str (st [c1]), .str (st [c2])])) (by first | exact mem_at 0 rfl | exact mem_at 1 rfl | exact mem_at 2 rfl | exact mem_at 3 rfl | exact mem_at 4 rfl | exact mem_at 5 rfl | exact mem_at 6 rfl | exact mem_at 7 rfl | exact mem_at 8 rfl | exact mem_at 9 rfl | exact mem_at 10 rfl | exact mem_at 11 rfl | exact mem_at 12 rfl | exact mem_at 13 rfl | exact mem_at 14 rfl | exact mem_at 15 rfl | exact mem_at 16 rfl | exact mem_at 17 rfl | exact mem_at 18 rfl | exact mem_at 19 rfl | exact mem_at 20 rfl | exact mem_at 21 rfl))) ev_int (getR_list (d := .str (st [c2])) (by first | decide | assumption | with_reducible exact Int.natCast_nonneg _ | with_reducible exact Nat.le_trans (by assumption) (by decide) | with_reducible exact Nat.lt_of_lt_of_le (by assumption) (by decide) | with_reducible exact lt_mil (Nat.lt_of_lt_of_le (by assumption) (by decide)) | with_reducible exact lt_mil (Nat.lt_of_le_of_lt (by assumption) (by decide)) | with_reducible exact Nat.le_trans (Nat.le_of_lt (by assumption)) (by decide) | (first | lia | omega)) rfl (by first | decide | assumption | with_reducible exact Int.natCast_nonneg _ | with_reducible exact Nat.le_trans (by assumption) (by decide) | with_reducible exact Nat.lt_of_lt_of_le (by assumption) (by decide) | with_reducible exact lt_mil (Nat.lt_of_lt_of_le (by assumption) (by decide)) | with_reducible exact lt_mil (Nat.lt_of_le_of_lt (by assumption) (by decide)) | with_reducible exact Nat.le_trans (Nat.le_of_lt (by assumption)) (by decide) | (first | lia | omega)))) (ev_bin ev_int (ev_call_bi (ev_builtin rfl ((((I.into _).reb up).comp _ _ _).gl rfl) rfl) (evl_cons (ev_var (b := .dat (.str (st d.1))) (by first | exact mem_at 0 rfl | exact mem_at 1 rfl | exact mem_at 2 rfl | exact mem_at 3 rfl | exact mem_at 4 rfl | exact mem_at 5 rfl | exact mem_at 6 rfl | exact mem_at 7 rfl | exact mem_at 8 rfl | exact mem_at 9 rfl | exact mem_at 10 rfl | exact mem_at 11 rfl | exact mem_at 12 rfl | exact mem_at 13 rfl | exact mem_at 14 rfl | exact mem_at 15 rfl | exact mem_at 16 rfl | exact mem_at 17 rfl | exact mem_at 18 rfl | exact mem_at 19 rfl | exact mem_at 20 rfl | exact mem_at 21 rfl)) evl_nil) (callOk_len_str (Nat.le_trans hd4 (by decide)))) binR_sub_int) (binR_mul_str (by first | decide | assumption | with_reducible exact Int.natCast_nonneg _ | with_reducible exact Nat.le_trans (by assumption) (by decide) | with_reducible exact Nat.lt_of_lt_of_le (by assumption) (by decide) | with_reducible exact lt_mil (Nat.lt_of_lt_of_le (by assumption) (by decide)) | with_reducible exact lt_mil (Nat.lt_of_le_of_lt (by assumption) (by decide)) | with_reducible exact Nat.le_trans (Nat.le_of_lt (by assumption)) (by decide) | (first | lia | omega)) (by first | decide | assumption | with_reducible exact Int.natCast_nonneg _ | with_reducible exact Nat.le_trans (by assumption) (by decide) | with_reducible exact Nat.lt_of_lt_of_le (by assumption) (by decide) | with_reducible exact lt_mil (Nat.lt_of_lt_of_le (by assumption) (by decide)) | with_reducible exact lt_mil (Nat.lt_of_le_of_lt (by assumption) (by decide)) | with_reducible exact Nat.le_trans (Nat.le_of_lt (by assumption)) (by decide) | (first | lia | omega)) (by simp))) (binR_add_str (by rw [flatten_rep, List.length_replicate]; (first | lia | omega)))) (by rw [flatten_rep, dF_d, fill_two, show ((2 : Int) - (d.1.length : Int)).toNat = 2 - d.1.length by (first | lia | omega)])
    · exact .list _ fun y hy => by
        obtain ⟨d, hd, rfl⟩ := List.mem_map.mp hy
        exact .str _ (fill_signs (Nat.lt_trans hc2' (by decide)) (hdch d hd))
    · exact .list _ fun y hy => by
        obtain ⟨d, hd, rfl⟩ := List.mem_map.mp hy
        exact .str _ (fill_signs (Nat.lt_trans hc2' (by decide)) (hdch d hd))
    generalize hR : rowUp sz c0 c1 ds ds.length = R at PL hRz
    generalize hLf : leftUp ds ds.length = Lf at PL hLz hLm
    refine ex_cons (ex_assign (Γ' := [(Str.ofString "writer", .val (.ref x)), (Str.ofString "script", .lst (ns.map .int)), (Str.ofString "deeds", .dat (.list (ds.map dD))), (Str.ofString "total", .dat (.int ns.sum)), (Str.ofString "size", .dat (.int (sz : Int))), (Str.ofString "fills", .dat (.list [.str (st [c0]), .str (st [c1]), .str (st [c2])])), (Str.ofString "row", .dat (.list (R.map itD)))]) (ev_def (ev_glob rfl (((I.into _).reb up).gl rfl)) (evl_cons (ev_var (by first | exact mem_at 0 rfl | exact mem_at 1 rfl | exact mem_at 2 rfl | exact mem_at 3 rfl | exact mem_at 4 rfl | exact mem_at 5 rfl | exact mem_at 6 rfl | exact mem_at 7 rfl | exact mem_at 8 rfl | exact mem_at 9 rfl | exact mem_at 10 rfl | exact mem_at 11 rfl | exact mem_at 12 rfl | exact mem_at 13 rfl | exact mem_at 14 rfl | exact mem_at 15 rfl | exact mem_at 16 rfl | exact mem_at 17 rfl | exact mem_at 18 rfl | exact mem_at 19 rfl | exact mem_at 20 rfl | exact mem_at 21 rfl)) (evl_cons (ev_var (by first | exact mem_at 0 rfl | exact mem_at 1 rfl | exact mem_at 2 rfl | exact mem_at 3 rfl | exact mem_at 4 rfl | exact mem_at 5 rfl | exact mem_at 6 rfl | exact mem_at 7 rfl | exact mem_at 8 rfl | exact mem_at 9 rfl | exact mem_at 10 rfl | exact mem_at 11 rfl | exact mem_at 12 rfl | exact mem_at 13 rfl | exact mem_at 14 rfl | exact mem_at 15 rfl | exact mem_at 16 rfl | exact mem_at 17 rfl | exact mem_at 18 rfl | exact mem_at 19 rfl | exact mem_at 20 rfl | exact mem_at 21 rfl)) (evl_cons (ev_eq (b := .dat (.str (st [48 + sz]))) (ev_call_ty (ev_builtin rfl (((I.into _).reb up).gl rfl) rfl) (evl_cons (ev_var (b := .dat (.int (sz : Int))) (by first | exact mem_at 0 rfl | exact mem_at 1 rfl | exact mem_at 2 rfl | exact mem_at 3 rfl | exact mem_at 4 rfl | exact mem_at 5 rfl | exact mem_at 6 rfl | exact mem_at 7 rfl | exact mem_at 8 rfl | exact mem_at 9 rfl | exact mem_at 10 rfl | exact mem_at 11 rfl | exact mem_at 12 rfl | exact mem_at 13 rfl | exact mem_at 14 rfl | exact mem_at 15 rfl | exact mem_at 16 rfl | exact mem_at 17 rfl | exact mem_at 18 rfl | exact mem_at 19 rfl | exact mem_at 20 rfl | exact mem_at 21 rfl)) evl_nil) (callOk_str_int (by first | decide | assumption | with_reducible exact Int.natCast_nonneg _ | with_reducible exact Nat.le_trans (by assumption) (by decide) | with_reducible exact Nat.lt_of_lt_of_le (by assumption) (by decide) | with_reducible exact lt_mil (Nat.lt_of_lt_of_le (by assumption) (by decide)) | with_reducible exact lt_mil (Nat.lt_of_le_of_lt (by assumption) (by decide)) | with_reducible exact Nat.le_trans (Nat.le_of_lt (by assumption)) (by decide) | (first | lia | omega)))) (congrArg Bd.dat (str_size h5 h7))) (evl_cons (ev_var (by first | exact mem_at 0 rfl | exact mem_at 1 rfl | exact mem_at 2 rfl | exact mem_at 3 rfl | exact mem_at 4 rfl | exact mem_at 5 rfl | exact mem_at 6 rfl | exact mem_at 7 rfl | exact mem_at 8 rfl | exact mem_at 9 rfl | exact mem_at 10 rfl | exact mem_at 11 rfl | exact mem_at 12 rfl | exact mem_at 13 rfl | exact mem_at 14 rfl | exact mem_at 15 rfl | exact mem_at 16 rfl | exact mem_at 17 rfl | exact mem_at 18 rfl | exact mem_at 19 rfl | exact mem_at 20 rfl | exact mem_at 21 rfl)) evl_nil)))) evkw_nil (((I.into _).reb up).at (a := 161) rfl) rfl (hR ▸ sp_row ((I.into _).reb up) hfu5 (X rfl) hd8 hd100 hdsz' hc0' h1.2 h15 h7)) (by first | exact Or.inl rfl | exact Or.inr ⟨rfl, rfl, rfl⟩) (by intro y ds e; first | (cases e; done) | (cases e; decide)) (Pk.g (by repeat (first | exact Pk.nil | refine Pk.here ?_ | refine Pk.cons (by first | exact mem_at 0 rfl | exact mem_at 1 rfl | exact mem_at 2 rfl | exact mem_at 3 rfl | exact mem_at 4 rfl | exact mem_at 5 rfl | exact mem_at 6 rfl | exact mem_at 7 rfl | exact mem_at 8 rfl | exact mem_at 9 rfl | exact mem_at 10 rfl | exact mem_at 11 rfl | exact mem_at 12 rfl | exact mem_at 13 rfl | exact mem_at 14 rfl | exact mem_at 15 rfl | exact mem_at 16 rfl | exact mem_at 17 rfl | exact mem_at 18 rfl | exact mem_at 19 rfl | exact mem_at 20 rfl | exact mem_at 21 rfl) rfl ?_)))) ?_
    refine ex_cons (ex_assign (Γ' := [(Str.ofString "writer", .val (.ref x)), (Str.ofString "script", .lst (ns.map .int)), (Str.ofString "deeds", .dat (.list (ds.map dD))), (Str.ofString "total", .dat (.int ns.sum)), (Str.ofString "size", .dat (.int (sz : Int))), (Str.ofString "fills", .dat (.list [.str (st [c0]), .str (st [c1]), .str (st [c2])])), (Str.ofString "row", .dat (.list (R.map itD))), (Str.ofString "left", .dat (.list (Lf.map leD)))]) (ev_def (ev_glob rfl (((I.into _).reb up).gl rfl)) (evl_cons (ev_var (by first | exact mem_at 0 rfl | exact mem_at 1 rfl | exact mem_at 2 rfl | exact mem_at 3 rfl | exact mem_at 4 rfl | exact mem_at 5 rfl | exact mem_at 6 rfl | exact mem_at 7 rfl | exact mem_at 8 rfl | exact mem_at 9 rfl | exact mem_at 10 rfl | exact mem_at 11 rfl | exact mem_at 12 rfl | exact mem_at 13 rfl | exact mem_at 14 rfl | exact mem_at 15 rfl | exact mem_at 16 rfl | exact mem_at 17 rfl | exact mem_at 18 rfl | exact mem_at 19 rfl | exact mem_at 20 rfl | exact mem_at 21 rfl)) evl_nil) evkw_nil (((I.into _).reb up).at (a := 166) rfl) rfl (hLf ▸ sp_left ((I.into _).reb up) hfu hdch hd100)) (by first | exact Or.inl rfl | exact Or.inr ⟨rfl, rfl, rfl⟩) (by intro y ds e; first | (cases e; done) | (cases e; decide)) (Pk.g (by repeat (first | exact Pk.nil | refine Pk.here ?_ | refine Pk.cons (by first | exact mem_at 0 rfl | exact mem_at 1 rfl | exact mem_at 2 rfl | exact mem_at 3 rfl | exact mem_at 4 rfl | exact mem_at 5 rfl | exact mem_at 6 rfl | exact mem_at 7 rfl | exact mem_at 8 rfl | exact mem_at 9 rfl | exact mem_at 10 rfl | exact mem_at 11 rfl | exact mem_at 12 rfl | exact mem_at 13 rfl | exact mem_at 14 rfl | exact mem_at 15 rfl | exact mem_at 16 rfl | exact mem_at 17 rfl | exact mem_at 18 rfl | exact mem_at 19 rfl | exact mem_at 20 rfl | exact mem_at 21 rfl) rfl ?_)))) ?_
    refine ex_cons (ex_if_false (et_cmp (ev_call_bi (ev_builtin rfl (((I.into _).reb up).gl rfl) rfl) (evl_cons (ev_lst (ev_acomp [] [] sideP headF (((R.filter fun e => decide (e.2.1 = 0)).map fun e => (e.1 : Int)).map .int) (evi_list (ev_var (b := .dat (.list (R.map itD))) (by first | exact mem_at 0 rfl | exact mem_at 1 rfl | exact mem_at 2 rfl | exact mem_at 3 rfl | exact mem_at 4 rfl | exact mem_at 5 rfl | exact mem_at 6 rfl | exact mem_at 7 rfl | exact mem_at 8 rfl | exact mem_at 9 rfl | exact mem_at 10 rfl | exact mem_at 11 rfl | exact mem_at 12 rfl | exact mem_at 13 rfl | exact mem_at 14 rfl | exact mem_at 15 rfl | exact mem_at 16 rfl | exact mem_at 17 rfl | exact mem_at 18 rfl | exact mem_at 19 rfl | exact mem_at 20 rfl | exact mem_at 21 rfl))) (by rw [List.length_map]; (first | lia | omega)) (filter_it R) ?_ (by intro q hq; repeat (first | (rcases List.mem_cons.mp hq with rfl | hq; exact ⟨(by first | exact mem_at 0 rfl | exact mem_at 1 rfl | exact mem_at 2 rfl | exact mem_at 3 rfl | exact mem_at 4 rfl | exact mem_at 5 rfl | exact mem_at 6 rfl | exact mem_at 7 rfl | exact mem_at 8 rfl | exact mem_at 9 rfl | exact mem_at 10 rfl | exact mem_at 11 rfl | exact mem_at 12 rfl | exact mem_at 13 rfl | exact mem_at 14 rfl | exact mem_at 15 rfl | exact mem_at 16 rfl | exact mem_at 17 rfl | exact mem_at 18 rfl | exact mem_at 19 rfl | exact mem_at 20 rfl | exact mem_at 21 rfl), show (some NameKind.cell : Option NameKind) ≠ some .local by decide, by first | exact Or.inl rfl | exact Or.inr ⟨rfl, rfl⟩, rfl⟩) | cases hq)) rfl (lookup_sub (by intro p hp; repeat (first | (rcases List.mem_cons.mp hp with rfl | hp; exact rfl) | cases hp))))) evl_nil) (callOk_sorted PL.perm PL.asc ?_))
      (ev_acomp [] [] (fun _ => true) secondF ((Lf.map fun e => (e.2 : Int)).map .int) (evi_list (ev_var (b := .dat (.list (Lf.map leD))) (by first | exact mem_at 0 rfl | exact mem_at 1 rfl | exact mem_at 2 rfl | exact mem_at 3 rfl | exact mem_at 4 rfl | exact mem_at 5 rfl | exact mem_at 6 rfl | exact mem_at 7 rfl | exact mem_at 8 rfl | exact mem_at 9 rfl | exact mem_at 10 rfl | exact mem_at 11 rfl | exact mem_at 12 rfl | exact mem_at 13 rfl | exact mem_at 14 rfl | exact mem_at 15 rfl | exact mem_at 16 rfl | exact mem_at 17 rfl | exact mem_at 18 rfl | exact mem_at 19 rfl | exact mem_at 20 rfl | exact mem_at 21 rfl))) (by rw [List.length_map]; (first | lia | omega)) (by rw [filter_tt', List.map_map, List.map_map]; rfl) ?_ (by intro q hq; repeat (first | (rcases List.mem_cons.mp hq with rfl | hq; exact ⟨(by first | exact mem_at 0 rfl | exact mem_at 1 rfl | exact mem_at 2 rfl | exact mem_at 3 rfl | exact mem_at 4 rfl | exact mem_at 5 rfl | exact mem_at 6 rfl | exact mem_at 7 rfl | exact mem_at 8 rfl | exact mem_at 9 rfl | exact mem_at 10 rfl | exact mem_at 11 rfl | exact mem_at 12 rfl | exact mem_at 13 rfl | exact mem_at 14 rfl | exact mem_at 15 rfl | exact mem_at 16 rfl | exact mem_at 17 rfl | exact mem_at 18 rfl | exact mem_at 19 rfl | exact mem_at 20 rfl | exact mem_at 21 rfl), show (some NameKind.cell : Option NameKind) ≠ some .local by decide, by first | exact Or.inl rfl | exact Or.inr ⟨rfl, rfl⟩, rfl⟩) | cases hq)) rfl (lookup_sub (by intro p hp; repeat (first | (rcases List.mem_cons.mp hp with rfl | hp; exact rfl) | cases hp)))) (cmpR_ne_pl (n := 1) (m := 1) Pl.ints Pl.ints (by simp))) ex_nil) ?_
    · intro L' e he0
      obtain ⟨e, he, rfl⟩ := List.mem_map.mp he0
      refine ⟨[(Str.ofString "turn", .dat (.int (e.1 : Int))), (Str.ofString "side", .dat (.int (e.2.1 : Int))), (Str.ofString "text", .dat (.str (st e.2.2)))], asg_tuple (by first | exact names2 | exact names3) rfl (asgAll_cons (Γ₁ := [(Str.ofString "turn", .dat (.int (e.1 : Int)))]) (asg_name (by first | exact Or.inl rfl | exact Or.inr ⟨rfl, rfl, rfl⟩) (by intro y ds e; first | (cases e; done) | (cases e; decide)) (Pk.g (by repeat (first | exact Pk.nil | refine Pk.here ?_ | refine Pk.cons (by first | exact mem_at 0 rfl | exact mem_at 1 rfl | exact mem_at 2 rfl | exact mem_at 3 rfl | exact mem_at 4 rfl | exact mem_at 5 rfl | exact mem_at 6 rfl | exact mem_at 7 rfl | exact mem_at 8 rfl | exact mem_at 9 rfl | exact mem_at 10 rfl | exact mem_at 11 rfl | exact mem_at 12 rfl | exact mem_at 13 rfl | exact mem_at 14 rfl | exact mem_at 15 rfl | exact mem_at 16 rfl | exact mem_at 17 rfl | exact mem_at 18 rfl | exact mem_at 19 rfl | exact mem_at 20 rfl | exact mem_at 21 rfl) rfl ?_)))) (asgAll_cons (Γ₁ := [(Str.ofString "turn", .dat (.int (e.1 : Int))), (Str.ofString "side", .dat (.int (e.2.1 : Int)))]) (asg_name (by first | exact Or.inl rfl | exact Or.inr ⟨rfl, rfl, rfl⟩) (by intro y ds e; first | (cases e; done) | (cases e; decide)) (Pk.g (by repeat (first | exact Pk.nil | refine Pk.here ?_ | refine Pk.cons (by first | exact mem_at 0 rfl | exact mem_at 1 rfl | exact mem_at 2 rfl | exact mem_at 3 rfl | exact mem_at 4 rfl | exact mem_at 5 rfl | exact mem_at 6 rfl | exact mem_at 7 rfl | exact mem_at 8 rfl | exact mem_at 9 rfl | exact mem_at 10 rfl | exact mem_at 11 rfl | exact mem_at 12 rfl | exact mem_at 13 rfl | exact mem_at 14 rfl | exact mem_at 15 rfl | exact mem_at 16 rfl | exact mem_at 17 rfl | exact mem_at 18 rfl | exact mem_at 19 rfl | exact mem_at 20 rfl | exact mem_at 21 rfl) rfl ?_)))) (asgAll_cons (asg_name (by first | exact Or.inl rfl | exact Or.inr ⟨rfl, rfl, rfl⟩) (by intro y ds e; first | (cases e; done) | (cases e; decide)) (Pk.g (by repeat (first | exact Pk.nil | refine Pk.here ?_ | refine Pk.cons (by first | exact mem_at 0 rfl | exact mem_at 1 rfl | exact mem_at 2 rfl | exact mem_at 3 rfl | exact mem_at 4 rfl | exact mem_at 5 rfl | exact mem_at 6 rfl | exact mem_at 7 rfl | exact mem_at 8 rfl | exact mem_at 9 rfl | exact mem_at 10 rfl | exact mem_at 11 rfl | exact mem_at 12 rfl | exact mem_at 13 rfl | exact mem_at 14 rfl | exact mem_at 15 rfl | exact mem_at 16 rfl | exact mem_at 17 rfl | exact mem_at 18 rfl | exact mem_at 19 rfl | exact mem_at 20 rfl | exact mem_at 21 rfl) rfl ?_)))) asgAll_nil))), evts_one (et_cmp (ev_var (by first | exact mem_at 0 rfl | exact mem_at 1 rfl | exact mem_at 2 rfl | exact mem_at 3 rfl | exact mem_at 4 rfl | exact mem_at 5 rfl | exact mem_at 6 rfl | exact mem_at 7 rfl | exact mem_at 8 rfl | exact mem_at 9 rfl | exact mem_at 10 rfl | exact mem_at 11 rfl | exact mem_at 12 rfl | exact mem_at 13 rfl | exact mem_at 14 rfl | exact mem_at 15 rfl | exact mem_at 16 rfl | exact mem_at 17 rfl | exact mem_at 18 rfl | exact mem_at 19 rfl | exact mem_at 20 rfl | exact mem_at 21 rfl)) ev_int cmpR_eq_int), fun _ => ev_var (by first | exact mem_at 0 rfl | exact mem_at 1 rfl | exact mem_at 2 rfl | exact mem_at 3 rfl | exact mem_at 4 rfl | exact mem_at 5 rfl | exact mem_at 6 rfl | exact mem_at 7 rfl | exact mem_at 8 rfl | exact mem_at 9 rfl | exact mem_at 10 rfl | exact mem_at 11 rfl | exact mem_at 12 rfl | exact mem_at 13 rfl | exact mem_at 14 rfl | exact mem_at 15 rfl | exact mem_at 16 rfl | exact mem_at 17 rfl | exact mem_at 18 rfl | exact mem_at 19 rfl | exact mem_at 20 rfl | exact mem_at 21 rfl)⟩
    · rw [List.length_map]
      have := List.length_filter_le (fun e : It => decide (e.2.1 = 0)) R
      (first | lia | omega)
    · intro L' e he0
      obtain ⟨e, he, rfl⟩ := List.mem_map.mp he0
      exact ⟨[(Str.ofString "end", .dat (.str (st e.1))), (Str.ofString "turn", .dat (.int (e.2 : Int)))], asg_tuple (by first | exact names2 | exact names3) rfl (asgAll_cons (Γ₁ := [(Str.ofString "end", .dat (.str (st e.1)))]) (asg_name (by first | exact Or.inl rfl | exact Or.inr ⟨rfl, rfl, rfl⟩) (by intro y ds e; first | (cases e; done) | (cases e; decide)) (Pk.g (by repeat (first | exact Pk.nil | refine Pk.here ?_ | refine Pk.cons (by first | exact mem_at 0 rfl | exact mem_at 1 rfl | exact mem_at 2 rfl | exact mem_at 3 rfl | exact mem_at 4 rfl | exact mem_at 5 rfl | exact mem_at 6 rfl | exact mem_at 7 rfl | exact mem_at 8 rfl | exact mem_at 9 rfl | exact mem_at 10 rfl | exact mem_at 11 rfl | exact mem_at 12 rfl | exact mem_at 13 rfl | exact mem_at 14 rfl | exact mem_at 15 rfl | exact mem_at 16 rfl | exact mem_at 17 rfl | exact mem_at 18 rfl | exact mem_at 19 rfl | exact mem_at 20 rfl | exact mem_at 21 rfl) rfl ?_)))) (asgAll_cons (asg_name (by first | exact Or.inl rfl | exact Or.inr ⟨rfl, rfl, rfl⟩) (by intro y ds e; first | (cases e; done) | (cases e; decide)) (Pk.g (by repeat (first | exact Pk.nil | refine Pk.here ?_ | refine Pk.cons (by first | exact mem_at 0 rfl | exact mem_at 1 rfl | exact mem_at 2 rfl | exact mem_at 3 rfl | exact mem_at 4 rfl | exact mem_at 5 rfl | exact mem_at 6 rfl | exact mem_at 7 rfl | exact mem_at 8 rfl | exact mem_at 9 rfl | exact mem_at 10 rfl | exact mem_at 11 rfl | exact mem_at 12 rfl | exact mem_at 13 rfl | exact mem_at 14 rfl | exact mem_at 15 rfl | exact mem_at 16 rfl | exact mem_at 17 rfl | exact mem_at 18 rfl | exact mem_at 19 rfl | exact mem_at 20 rfl | exact mem_at 21 rfl) rfl ?_)))) asgAll_nil)), evts_nil, fun _ => ev_var (by first | exact mem_at 0 rfl | exact mem_at 1 rfl | exact mem_at 2 rfl | exact mem_at 3 rfl | exact mem_at 4 rfl | exact mem_at 5 rfl | exact mem_at 6 rfl | exact mem_at 7 rfl | exact mem_at 8 rfl | exact mem_at 9 rfl | exact mem_at 10 rfl | exact mem_at 11 rfl | exact mem_at 12 rfl | exact mem_at 13 rfl | exact mem_at 14 rfl | exact mem_at 15 rfl | exact mem_at 16 rfl | exact mem_at 17 rfl | exact mem_at 18 rfl | exact mem_at 19 rfl | exact mem_at 20 rfl | exact mem_at 21 rfl)⟩
    refine ex_cons (ex_unpack (Γ' := [(Str.ofString "writer", .val (.ref x)), (Str.ofString "script", .lst (ns.map .int)), (Str.ofString "deeds", .dat (.list (ds.map dD))), (Str.ofString "total", .dat (.int ns.sum)), (Str.ofString "size", .dat (.int (sz : Int))), (Str.ofString "fills", .dat (.list [.str (st [c0]), .str (st [c1]), .str (st [c2])])), (Str.ofString "row", .dat (.list (R.map itD))), (Str.ofString "left", .dat (.list (Lf.map leD))), (Str.ofString "depths", .dat (.list ((depthsOf R (R.length + 1)).map .int))), (Str.ofString "tops", .dat (.list ((topsOf R (R.length + 1)).map .int)))]) (ev_def (ev_glob rfl (((I.into _).reb up).gl rfl)) (evl_cons (ev_var (by first | exact mem_at 0 rfl | exact mem_at 1 rfl | exact mem_at 2 rfl | exact mem_at 3 rfl | exact mem_at 4 rfl | exact mem_at 5 rfl | exact mem_at 6 rfl | exact mem_at 7 rfl | exact mem_at 8 rfl | exact mem_at 9 rfl | exact mem_at 10 rfl | exact mem_at 11 rfl | exact mem_at 12 rfl | exact mem_at 13 rfl | exact mem_at 14 rfl | exact mem_at 15 rfl | exact mem_at 16 rfl | exact mem_at 17 rfl | exact mem_at 18 rfl | exact mem_at 19 rfl | exact mem_at 20 rfl | exact mem_at 21 rfl)) (evl_cons (ev_var (by first | exact mem_at 0 rfl | exact mem_at 1 rfl | exact mem_at 2 rfl | exact mem_at 3 rfl | exact mem_at 4 rfl | exact mem_at 5 rfl | exact mem_at 6 rfl | exact mem_at 7 rfl | exact mem_at 8 rfl | exact mem_at 9 rfl | exact mem_at 10 rfl | exact mem_at 11 rfl | exact mem_at 12 rfl | exact mem_at 13 rfl | exact mem_at 14 rfl | exact mem_at 15 rfl | exact mem_at 16 rfl | exact mem_at 17 rfl | exact mem_at 18 rfl | exact mem_at 19 rfl | exact mem_at 20 rfl | exact mem_at 21 rfl)) (evl_cons (ev_var (by first | exact mem_at 0 rfl | exact mem_at 1 rfl | exact mem_at 2 rfl | exact mem_at 3 rfl | exact mem_at 4 rfl | exact mem_at 5 rfl | exact mem_at 6 rfl | exact mem_at 7 rfl | exact mem_at 8 rfl | exact mem_at 9 rfl | exact mem_at 10 rfl | exact mem_at 11 rfl | exact mem_at 12 rfl | exact mem_at 13 rfl | exact mem_at 14 rfl | exact mem_at 15 rfl | exact mem_at 16 rfl | exact mem_at 17 rfl | exact mem_at 18 rfl | exact mem_at 19 rfl | exact mem_at 20 rfl | exact mem_at 21 rfl)) (evl_cons (ev_var (by first | exact mem_at 0 rfl | exact mem_at 1 rfl | exact mem_at 2 rfl | exact mem_at 3 rfl | exact mem_at 4 rfl | exact mem_at 5 rfl | exact mem_at 6 rfl | exact mem_at 7 rfl | exact mem_at 8 rfl | exact mem_at 9 rfl | exact mem_at 10 rfl | exact mem_at 11 rfl | exact mem_at 12 rfl | exact mem_at 13 rfl | exact mem_at 14 rfl | exact mem_at 15 rfl | exact mem_at 16 rfl | exact mem_at 17 rfl | exact mem_at 18 rfl | exact mem_at 19 rfl | exact mem_at 20 rfl | exact mem_at 21 rfl)) evl_nil)))) evkw_nil (((I.into _).reb up).at (a := 173) rfl) rfl (sp_nest ((I.into _).reb up) hfu PL.nest (by first | decide | assumption | with_reducible exact Int.natCast_nonneg _ | with_reducible exact Nat.le_trans (by assumption) (by decide) | with_reducible exact Nat.lt_of_lt_of_le (by assumption) (by decide) | with_reducible exact lt_mil (Nat.lt_of_lt_of_le (by assumption) (by decide)) | with_reducible exact lt_mil (Nat.lt_of_le_of_lt (by assumption) (by decide)) | with_reducible exact Nat.le_trans (Nat.le_of_lt (by assumption)) (by decide) | (first | lia | omega)) (by first | decide | assumption | with_reducible exact Int.natCast_nonneg _ | with_reducible exact Nat.le_trans (by assumption) (by decide) | with_reducible exact Nat.lt_of_lt_of_le (by assumption) (by decide) | with_reducible exact lt_mil (Nat.lt_of_lt_of_le (by assumption) (by decide)) | with_reducible exact lt_mil (Nat.lt_of_le_of_lt (by assumption) (by decide)) | with_reducible exact Nat.le_trans (Nat.le_of_lt (by assumption)) (by decide) | (first | lia | omega)) h7 (fun e he => by
        obtain ⟨i, hi, hie⟩ := List.getElem_of_mem he
        obtain ⟨d, hN⟩ := PL.nest i e (by rw [List.getElem?_eq_getElem hi, hie])
        have := (List.getElem?_eq_some_iff.mp hN.deed).1
        (first | lia | omega))))
      (asg_tupleT (by first | exact names2 | exact names3) rfl (asgAll_cons (Γ₁ := [(Str.ofString "depths", .dat (.list ((depthsOf R (R.length + 1)).map .int))), (Str.ofString "writer", .val (.ref x)), (Str.ofString "script", .lst (ns.map .int)), (Str.ofString "deeds", .dat (.list (ds.map dD))), (Str.ofString "total", .dat (.int ns.sum)), (Str.ofString "size", .dat (.int (sz : Int))), (Str.ofString "fills", .dat (.list [.str (st [c0]), .str (st [c1]), .str (st [c2])])), (Str.ofString "row", .dat (.list (R.map itD))), (Str.ofString "left", .dat (.list (Lf.map leD)))]) (asg_name (by first | exact Or.inl rfl | exact Or.inr ⟨rfl, rfl, rfl⟩) (by intro y ds e; first | (cases e; done) | (cases e; decide)) (Pk.g (by repeat (first | exact Pk.nil | refine Pk.here ?_ | refine Pk.cons (by first | exact mem_at 0 rfl | exact mem_at 1 rfl | exact mem_at 2 rfl | exact mem_at 3 rfl | exact mem_at 4 rfl | exact mem_at 5 rfl | exact mem_at 6 rfl | exact mem_at 7 rfl | exact mem_at 8 rfl | exact mem_at 9 rfl | exact mem_at 10 rfl | exact mem_at 11 rfl | exact mem_at 12 rfl | exact mem_at 13 rfl | exact mem_at 14 rfl | exact mem_at 15 rfl | exact mem_at 16 rfl | exact mem_at 17 rfl | exact mem_at 18 rfl | exact mem_at 19 rfl | exact mem_at 20 rfl | exact mem_at 21 rfl) rfl ?_)))) (asgAll_cons (asg_name (by first | exact Or.inl rfl | exact Or.inr ⟨rfl, rfl, rfl⟩) (by intro y ds e; first | (cases e; done) | (cases e; decide)) (Pk.g (by repeat (first | exact Pk.nil | refine Pk.here ?_ | refine Pk.cons (by first | exact mem_at 0 rfl | exact mem_at 1 rfl | exact mem_at 2 rfl | exact mem_at 3 rfl | exact mem_at 4 rfl | exact mem_at 5 rfl | exact mem_at 6 rfl | exact mem_at 7 rfl | exact mem_at 8 rfl | exact mem_at 9 rfl | exact mem_at 10 rfl | exact mem_at 11 rfl | exact mem_at 12 rfl | exact mem_at 13 rfl | exact mem_at 14 rfl | exact mem_at 15 rfl | exact mem_at 16 rfl | exact mem_at 17 rfl | exact mem_at 18 rfl | exact mem_at 19 rfl | exact mem_at 20 rfl | exact mem_at 21 rfl) rfl ?_)))) asgAll_nil)))) ?_
    refine ex_cons (ex_if_false (et_eq (et_cmp (ev_call_bi (ev_builtin rfl (((I.into _).reb up).gl rfl) rfl) (evl_cons (ev_lst (ev_var (by first | exact mem_at 0 rfl | exact mem_at 1 rfl | exact mem_at 2 rfl | exact mem_at 3 rfl | exact mem_at 4 rfl | exact mem_at 5 rfl | exact mem_at 6 rfl | exact mem_at 7 rfl | exact mem_at 8 rfl | exact mem_at 9 rfl | exact mem_at 10 rfl | exact mem_at 11 rfl | exact mem_at 12 rfl | exact mem_at 13 rfl | exact mem_at 14 rfl | exact mem_at 15 rfl | exact mem_at 16 rfl | exact mem_at 17 rfl | exact mem_at 18 rfl | exact mem_at 19 rfl | exact mem_at 20 rfl | exact mem_at 21 rfl))) evl_nil) (callOk_len_list (by simp [topsOf]; (first | lia | omega)))) (ev_bin (ev_bin ev_int (ev_call_bi (ev_builtin rfl (((I.into _).reb up).gl rfl) rfl) (evl_cons (ev_lst (ev_var (by first | exact mem_at 0 rfl | exact mem_at 1 rfl | exact mem_at 2 rfl | exact mem_at 3 rfl | exact mem_at 4 rfl | exact mem_at 5 rfl | exact mem_at 6 rfl | exact mem_at 7 rfl | exact mem_at 8 rfl | exact mem_at 9 rfl | exact mem_at 10 rfl | exact mem_at 11 rfl | exact mem_at 12 rfl | exact mem_at 13 rfl | exact mem_at 14 rfl | exact mem_at 15 rfl | exact mem_at 16 rfl | exact mem_at 17 rfl | exact mem_at 18 rfl | exact mem_at 19 rfl | exact mem_at 20 rfl | exact mem_at 21 rfl))) evl_nil) (callOk_len_list (by simp; (first | lia | omega)))) (binR_mul_int (IntMulOk.of_left (by decide)))) ev_int binR_add_int) cmpR_ne_int) (by
        have := PL.size
        simp [topsOf]
        (first | lia | omega))) ex_nil) ?_
    refine ex_cons (ex_assign (Γ' := [(Str.ofString "writer", .val (.ref x)), (Str.ofString "script", .lst (ns.map .int)), (Str.ofString "deeds", .dat (.list (ds.map dD))), (Str.ofString "total", .dat (.int ns.sum)), (Str.ofString "size", .dat (.int (sz : Int))), (Str.ofString "fills", .dat (.list [.str (st [c0]), .str (st [c1]), .str (st [c2])])), (Str.ofString "row", .dat (.list (R.map itD))), (Str.ofString "left", .dat (.list (Lf.map leD))), (Str.ofString "depths", .dat (.list ((depthsOf R (R.length + 1)).map .int))), (Str.ofString "tops", .dat (.list ((topsOf R (R.length + 1)).map .int))), (Str.ofString "texts", .dat (.list (R.map fun e => PyData.str (st (ky e)))))]) (ev_acomp [] [] (fun _ => true) kyD (R.map fun e => PyData.str (st (ky e))) (evi_list (ev_var (b := .dat (.list (R.map itD))) (by first | exact mem_at 0 rfl | exact mem_at 1 rfl | exact mem_at 2 rfl | exact mem_at 3 rfl | exact mem_at 4 rfl | exact mem_at 5 rfl | exact mem_at 6 rfl | exact mem_at 7 rfl | exact mem_at 8 rfl | exact mem_at 9 rfl | exact mem_at 10 rfl | exact mem_at 11 rfl | exact mem_at 12 rfl | exact mem_at 13 rfl | exact mem_at 14 rfl | exact mem_at 15 rfl | exact mem_at 16 rfl | exact mem_at 17 rfl | exact mem_at 18 rfl | exact mem_at 19 rfl | exact mem_at 20 rfl | exact mem_at 21 rfl))) (by rw [List.length_map]; (first | lia | omega)) (map_it_ky R) ?_ (by intro q hq; repeat (first | (rcases List.mem_cons.mp hq with rfl | hq; exact ⟨(by first | exact mem_at 0 rfl | exact mem_at 1 rfl | exact mem_at 2 rfl | exact mem_at 3 rfl | exact mem_at 4 rfl | exact mem_at 5 rfl | exact mem_at 6 rfl | exact mem_at 7 rfl | exact mem_at 8 rfl | exact mem_at 9 rfl | exact mem_at 10 rfl | exact mem_at 11 rfl | exact mem_at 12 rfl | exact mem_at 13 rfl | exact mem_at 14 rfl | exact mem_at 15 rfl | exact mem_at 16 rfl | exact mem_at 17 rfl | exact mem_at 18 rfl | exact mem_at 19 rfl | exact mem_at 20 rfl | exact mem_at 21 rfl), show (some NameKind.cell : Option NameKind) ≠ some .local by decide, by first | exact Or.inl rfl | exact Or.inr ⟨rfl, rfl⟩, rfl⟩) | cases hq)) rfl (lookup_sub (by intro p hp; repeat (first | (rcases List.mem_cons.mp hp with rfl | hp; exact rfl) | cases hp)))) (by first | exact Or.inl rfl | exact Or.inr ⟨rfl, rfl, rfl⟩) (by intro y ds e; first | (cases e; done) | (cases e; decide)) (Pk.g (by repeat (first | exact Pk.nil | refine Pk.here ?_ | refine Pk.cons (by first | exact mem_at 0 rfl | exact mem_at 1 rfl | exact mem_at 2 rfl | exact mem_at 3 rfl | exact mem_at 4 rfl | exact mem_at 5 rfl | exact mem_at 6 rfl | exact mem_at 7 rfl | exact mem_at 8 rfl | exact mem_at 9 rfl | exact mem_at 10 rfl | exact mem_at 11 rfl | exact mem_at 12 rfl | exact mem_at 13 rfl | exact mem_at 14 rfl | exact mem_at 15 rfl | exact mem_at 16 rfl | exact mem_at 17 rfl | exact mem_at 18 rfl | exact mem_at 19 rfl | exact mem_at 20 rfl | exact mem_at 21 rfl) rfl ?_)))) ?_
    · intro L' e he0
      obtain ⟨e, he, rfl⟩ := List.mem_map.mp he0
      have hl := PL.len e he
      exact ⟨[(Str.ofString "one", .dat (itD e))], asg_name (by first | exact Or.inl rfl | exact Or.inr ⟨rfl, rfl, rfl⟩) (by intro y ds e; first | (cases e; done) | (cases e; decide)) (Pk.g (by repeat (first | exact Pk.nil | refine Pk.here ?_ | refine Pk.cons (by first | exact mem_at 0 rfl | exact mem_at 1 rfl | exact mem_at 2 rfl | exact mem_at 3 rfl | exact mem_at 4 rfl | exact mem_at 5 rfl | exact mem_at 6 rfl | exact mem_at 7 rfl | exact mem_at 8 rfl | exact mem_at 9 rfl | exact mem_at 10 rfl | exact mem_at 11 rfl | exact mem_at 12 rfl | exact mem_at 13 rfl | exact mem_at 14 rfl | exact mem_at 15 rfl | exact mem_at 16 rfl | exact mem_at 17 rfl | exact mem_at 18 rfl | exact mem_at 19 rfl | exact mem_at 20 rfl | exact mem_at 21 rfl) rfl ?_))), evts_nil, fun _ => ev_def (ev_glob rfl ((((I.into _).reb up).comp _ _ _).gl rfl)) (evl_cons (ev_var (by first | exact mem_at 0 rfl | exact mem_at 1 rfl | exact mem_at 2 rfl | exact mem_at 3 rfl | exact mem_at 4 rfl | exact mem_at 5 rfl | exact mem_at 6 rfl | exact mem_at 7 rfl | exact mem_at 8 rfl | exact mem_at 9 rfl | exact mem_at 10 rfl | exact mem_at 11 rfl | exact mem_at 12 rfl | exact mem_at 13 rfl | exact mem_at 14 rfl | exact mem_at 15 rfl | exact mem_at 16 rfl | exact mem_at 17 rfl | exact mem_at 18 rfl | exact mem_at 19 rfl | exact mem_at 20 rfl | exact mem_at 21 rfl)) evl_nil) evkw_nil ((((I.into _).reb up).comp _ _ _).at (a := 154) rfl) rfl (sp_it (((I.into _).reb up).comp _ _ _) hfu (by first | decide | assumption | with_reducible exact Int.natCast_nonneg _ | with_reducible exact Nat.le_trans (by assumption) (by decide) | with_reducible exact Nat.lt_of_lt_of_le (by assumption) (by decide) | with_reducible exact lt_mil (Nat.lt_of_lt_of_le (by assumption) (by decide)) | with_reducible exact lt_mil (Nat.lt_of_le_of_lt (by assumption) (by decide)) | with_reducible exact Nat.le_trans (Nat.le_of_lt (by assumption)) (by decide) | (first | lia | omega)))⟩
    refine ex_cons (ex_acomp (Γ' := [(Str.ofString "writer", .val (.ref x)), (Str.ofString "script", .lst (ns.map .int)), (Str.ofString "deeds", .dat (.list (ds.map dD))), (Str.ofString "total", .dat (.int ns.sum)), (Str.ofString "size", .dat (.int (sz : Int))), (Str.ofString "fills", .dat (.list [.str (st [c0]), .str (st [c1]), .str (st [c2])])), (Str.ofString "row", .dat (.list (R.map itD))), (Str.ofString "left", .dat (.list (Lf.map leD))), (Str.ofString "depths", .dat (.list ((depthsOf R (R.length + 1)).map .int))), (Str.ofString "tops", .dat (.list ((topsOf R (R.length + 1)).map .int))), (Str.ofString "texts", .dat (.list (R.map fun e => PyData.str (st (ky e))))), (Str.ofString "rows", .dat (.list ((List.range 16).map fun k : Nat => PyData.str (st (figs (k : Int) 4)))))]) [] [] (fun _ => true) (intF fun k => .str (st (figs k 4))) ((List.range 16).map fun k : Nat => PyData.str (st (figs (k : Int) 4))) (items := (List.range 16).map fun k : Nat => PyData.int (k : Int)) (evi_range1 (n := 16) (ev_builtin rfl (((I.into _).reb up).gl rfl) rfl) ev_int (by first | decide | assumption | with_reducible exact Int.natCast_nonneg _ | with_reducible exact Nat.le_trans (by assumption) (by decide) | with_reducible exact Nat.lt_of_lt_of_le (by assumption) (by decide) | with_reducible exact lt_mil (Nat.lt_of_lt_of_le (by assumption) (by decide)) | with_reducible exact lt_mil (Nat.lt_of_le_of_lt (by assumption) (by decide)) | with_reducible exact Nat.le_trans (Nat.le_of_lt (by assumption)) (by decide) | (first | lia | omega))) (by simp) (by rw [filter_tt', List.map_map]; rfl) ?_ (by intro q hq; repeat (first | (rcases List.mem_cons.mp hq with rfl | hq; exact ⟨(by first | exact mem_at 0 rfl | exact mem_at 1 rfl | exact mem_at 2 rfl | exact mem_at 3 rfl | exact mem_at 4 rfl | exact mem_at 5 rfl | exact mem_at 6 rfl | exact mem_at 7 rfl | exact mem_at 8 rfl | exact mem_at 9 rfl | exact mem_at 10 rfl | exact mem_at 11 rfl | exact mem_at 12 rfl | exact mem_at 13 rfl | exact mem_at 14 rfl | exact mem_at 15 rfl | exact mem_at 16 rfl | exact mem_at 17 rfl | exact mem_at 18 rfl | exact mem_at 19 rfl | exact mem_at 20 rfl | exact mem_at 21 rfl), show (some NameKind.cell : Option NameKind) ≠ some .local by decide, by first | exact Or.inl rfl | exact Or.inr ⟨rfl, rfl⟩, rfl⟩) | cases hq)) rfl (lookup_sub (by intro p hp; repeat (first | (rcases List.mem_cons.mp hp with rfl | hp; exact rfl) | cases hp))) (by rfl) (by first | exact Or.inl rfl | exact Or.inr ⟨rfl, rfl, rfl⟩) (by intro y ds e; first | (cases e; done) | (cases e; decide)) (Pk.g (by repeat (first | exact Pk.nil | refine Pk.here ?_ | refine Pk.cons (by first | exact mem_at 0 rfl | exact mem_at 1 rfl | exact mem_at 2 rfl | exact mem_at 3 rfl | exact mem_at 4 rfl | exact mem_at 5 rfl | exact mem_at 6 rfl | exact mem_at 7 rfl | exact mem_at 8 rfl | exact mem_at 9 rfl | exact mem_at 10 rfl | exact mem_at 11 rfl | exact mem_at 12 rfl | exact mem_at 13 rfl | exact mem_at 14 rfl | exact mem_at 15 rfl | exact mem_at 16 rfl | exact mem_at 17 rfl | exact mem_at 18 rfl | exact mem_at 19 rfl | exact mem_at 20 rfl | exact mem_at 21 rfl) rfl ?_)))) ?_
    · intro L' e he
      obtain ⟨k, hk, rfl⟩ := List.mem_map.mp he
      exact ⟨[(Str.ofString "k", .dat (.int (k : Int)))], asg_name (by first | exact Or.inl rfl | exact Or.inr ⟨rfl, rfl, rfl⟩) (by intro y ds e; first | (cases e; done) | (cases e; decide)) (Pk.g (by repeat (first | exact Pk.nil | refine Pk.here ?_ | refine Pk.cons (by first | exact mem_at 0 rfl | exact mem_at 1 rfl | exact mem_at 2 rfl | exact mem_at 3 rfl | exact mem_at 4 rfl | exact mem_at 5 rfl | exact mem_at 6 rfl | exact mem_at 7 rfl | exact mem_at 8 rfl | exact mem_at 9 rfl | exact mem_at 10 rfl | exact mem_at 11 rfl | exact mem_at 12 rfl | exact mem_at 13 rfl | exact mem_at 14 rfl | exact mem_at 15 rfl | exact mem_at 16 rfl | exact mem_at 17 rfl | exact mem_at 18 rfl | exact mem_at 19 rfl | exact mem_at 20 rfl | exact mem_at 21 rfl) rfl ?_))), evts_nil, fun _ => ev_def (ev_glob rfl ((((I.into _).reb up).comp _ _ _).gl rfl)) (evl_cons (ev_var (by first | exact mem_at 0 rfl | exact mem_at 1 rfl | exact mem_at 2 rfl | exact mem_at 3 rfl | exact mem_at 4 rfl | exact mem_at 5 rfl | exact mem_at 6 rfl | exact mem_at 7 rfl | exact mem_at 8 rfl | exact mem_at 9 rfl | exact mem_at 10 rfl | exact mem_at 11 rfl | exact mem_at 12 rfl | exact mem_at 13 rfl | exact mem_at 14 rfl | exact mem_at 15 rfl | exact mem_at 16 rfl | exact mem_at 17 rfl | exact mem_at 18 rfl | exact mem_at 19 rfl | exact mem_at 20 rfl | exact mem_at 21 rfl)) (evl_cons (ev_int (i := ((4 : Nat) : Int))) evl_nil)) evkw_nil ((((I.into _).reb up).comp _ _ _).at (a := 147) rfl) rfl (sp_figures (((I.into _).reb up).comp _ _ _) hfu (by first | decide | assumption | with_reducible exact Int.natCast_nonneg _ | with_reducible exact Nat.le_trans (by assumption) (by decide) | with_reducible exact Nat.lt_of_lt_of_le (by assumption) (by decide) | with_reducible exact lt_mil (Nat.lt_of_lt_of_le (by assumption) (by decide)) | with_reducible exact lt_mil (Nat.lt_of_le_of_lt (by assumption) (by decide)) | with_reducible exact Nat.le_trans (Nat.le_of_lt (by assumption)) (by decide) | (first | lia | omega)))⟩
    refine ex_cons (ex_acomp (Γ' := [(Str.ofString "writer", .val (.ref x)), (Str.ofString "script", .lst (ns.map .int)), (Str.ofString "deeds", .dat (.list (ds.map dD))), (Str.ofString "total", .dat (.int ns.sum)), (Str.ofString "size", .dat (.int (sz : Int))), (Str.ofString "fills", .dat (.list [.str (st [c0]), .str (st [c1]), .str (st [c2])])), (Str.ofString "row", .dat (.list (R.map itD))), (Str.ofString "left", .dat (.list (Lf.map leD))), (Str.ofString "depths", .dat (.list ((depthsOf R (R.length + 1)).map .int))), (Str.ofString "tops", .dat (.list ((topsOf R (R.length + 1)).map .int))), (Str.ofString "texts", .dat (.list (R.map fun e => PyData.str (st (ky e))))), (Str.ofString "rows", .dat (.list ((List.range 16).map fun k : Nat => PyData.str (st (figs (k : Int) 4))))), (Str.ofString "filled", .dat (.list ((List.range 16).map fun k : Nat => PyData.str (st (fld sz c2 k)))))]) [(Str.ofString "writer", L + 1), (Str.ofString "size", L + 2), (Str.ofString "fills", L + 3)] [(Str.ofString "fills", .dat (.list [.str (st [c0]), .str (st [c1]), .str (st [c2])])), (Str.ofString "size", .dat (.int (sz : Int))), (Str.ofString "writer", .val (.ref x))] (fun _ => true) (strF fun l => .str (st (fill c2 60 sz l.reverse))) ((List.range 16).map fun k : Nat => PyData.str (st (fld sz c2 k))) (evi_list (ev_var (b := .dat (.list ((List.range 16).map fun k : Nat => PyData.str (st (figs (k : Int) 4))))) (by first | exact mem_at 0 rfl | exact mem_at 1 rfl | exact mem_at 2 rfl | exact mem_at 3 rfl | exact mem_at 4 rfl | exact mem_at 5 rfl | exact mem_at 6 rfl | exact mem_at 7 rfl | exact mem_at 8 rfl | exact mem_at 9 rfl | exact mem_at 10 rfl | exact mem_at 11 rfl | exact mem_at 12 rfl | exact mem_at 13 rfl | exact mem_at 14 rfl | exact mem_at 15 rfl | exact mem_at 16 rfl | exact mem_at 17 rfl | exact mem_at 18 rfl | exact mem_at 19 rfl | exact mem_at 20 rfl | exact mem_at 21 rfl))) (by simp) ?_ ?_ (by intro q hq; repeat (first | (rcases List.mem_cons.mp hq with rfl | hq; exact ⟨(by first | exact mem_at 0 rfl | exact mem_at 1 rfl | exact mem_at 2 rfl | exact mem_at 3 rfl | exact mem_at 4 rfl | exact mem_at 5 rfl | exact mem_at 6 rfl | exact mem_at 7 rfl | exact mem_at 8 rfl | exact mem_at 9 rfl | exact mem_at 10 rfl | exact mem_at 11 rfl | exact mem_at 12 rfl | exact mem_at 13 rfl | exact mem_at 14 rfl | exact mem_at 15 rfl | exact mem_at 16 rfl | exact mem_at 17 rfl | exact mem_at 18 rfl | exact mem_at 19 rfl | exact mem_at 20 rfl | exact mem_at 21 rfl), show (some NameKind.cell : Option NameKind) ≠ some .local by decide, by first | exact Or.inl rfl | exact Or.inr ⟨rfl, rfl⟩, rfl⟩) | cases hq)) rfl (lookup_sub (by intro p hp; repeat (first | (rcases List.mem_cons.mp hp with rfl | hp; exact rfl) | cases hp))) (by rfl) (by first | exact Or.inl rfl | exact Or.inr ⟨rfl, rfl, rfl⟩) (by intro y ds e; first | (cases e; done) | (cases e; decide)) (Pk.g (by repeat (first | exact Pk.nil | refine Pk.here ?_ | refine Pk.cons (by first | exact mem_at 0 rfl | exact mem_at 1 rfl | exact mem_at 2 rfl | exact mem_at 3 rfl | exact mem_at 4 rfl | exact mem_at 5 rfl | exact mem_at 6 rfl | exact mem_at 7 rfl | exact mem_at 8 rfl | exact mem_at 9 rfl | exact mem_at 10 rfl | exact mem_at 11 rfl | exact mem_at 12 rfl | exact mem_at 13 rfl | exact mem_at 14 rfl | exact mem_at 15 rfl | exact mem_at 16 rfl | exact mem_at 17 rfl | exact mem_at 18 rfl | exact mem_at 19 rfl | exact mem_at 20 rfl | exact mem_at 21 rfl) rfl ?_)))) ?_
    · rw [filter_tt', List.map_map]
      apply List.map_congr_left
      intro k _
      rw [← fill_fld]; rfl
    · intro L' e he
      obtain ⟨k, hk, rfl⟩ := List.mem_map.mp he
      refine ⟨[(Str.ofString "one", .dat (.str (st (figs (k : Int) 4)))), (Str.ofString "fills", .dat (.list [.str (st [c0]), .str (st [c1]), .str (st [c2])])), (Str.ofString "size", .dat (.int (sz : Int))), (Str.ofString "writer", .val (.ref x))], asg_name (by first | exact Or.inl rfl | exact Or.inr ⟨rfl, rfl, rfl⟩) (by intro y ds e; first | (cases e; done) | (cases e; decide)) (Pk.g (by repeat (first | exact Pk.nil | refine Pk.here ?_ | refine Pk.cons (by first | exact mem_at 0 rfl | exact mem_at 1 rfl | exact mem_at 2 rfl | exact mem_at 3 rfl | exact mem_at 4 rfl | exact mem_at 5 rfl | exact mem_at 6 rfl | exact mem_at 7 rfl | exact mem_at 8 rfl | exact mem_at 9 rfl | exact mem_at 10 rfl | exact mem_at 11 rfl | exact mem_at 12 rfl | exact mem_at 13 rfl | exact mem_at 14 rfl | exact mem_at 15 rfl | exact mem_at 16 rfl | exact mem_at 17 rfl | exact mem_at 18 rfl | exact mem_at 19 rfl | exact mem_at 20 rfl | exact mem_at 21 rfl) rfl ?_))), evts_nil, fun _ => ?_⟩
      exact ev_write (l := (figs (k : Int) 4).reverse) (((I.into _).reb up).comp _ _ _) hfu (X rfl) hc2' (.inl rfl) h15 h7 (by rw [List.length_reverse, figs_length]; decide) (ev_var (by first | exact mem_at 0 rfl | exact mem_at 1 rfl | exact mem_at 2 rfl | exact mem_at 3 rfl | exact mem_at 4 rfl | exact mem_at 5 rfl | exact mem_at 6 rfl | exact mem_at 7 rfl | exact mem_at 8 rfl | exact mem_at 9 rfl | exact mem_at 10 rfl | exact mem_at 11 rfl | exact mem_at 12 rfl | exact mem_at 13 rfl | exact mem_at 14 rfl | exact mem_at 15 rfl | exact mem_at 16 rfl | exact mem_at 17 rfl | exact mem_at 18 rfl | exact mem_at 19 rfl | exact mem_at 20 rfl | exact mem_at 21 rfl)) (evl_cons (ev_slice (ev_var (by first | exact mem_at 0 rfl | exact mem_at 1 rfl | exact mem_at 2 rfl | exact mem_at 3 rfl | exact mem_at 4 rfl | exact mem_at 5 rfl | exact mem_at 6 rfl | exact mem_at 7 rfl | exact mem_at 8 rfl | exact mem_at 9 rfl | exact mem_at 10 rfl | exact mem_at 11 rfl | exact mem_at 12 rfl | exact mem_at 13 rfl | exact mem_at 14 rfl | exact mem_at 15 rfl | exact mem_at 16 rfl | exact mem_at 17 rfl | exact mem_at 18 rfl | exact mem_at 19 rfl | exact mem_at 20 rfl | exact mem_at 21 rfl)) evp_none evp_none (evp_some (ev_neg ev_int)) (sliceR_str_rev (by rw [figs_length]; decide))) (evl_cons (ev_eq (b := .dat (.str (st [c2, 60, 48 + sz]))) (ev_bin (ev_bin (ev_item (ev_lst (ev_var (b := .dat (.list [.str (st [c0]), .str (st [c1]), .str (st [c2])])) (by first | exact mem_at 0 rfl | exact mem_at 1 rfl | exact mem_at 2 rfl | exact mem_at 3 rfl | exact mem_at 4 rfl | exact mem_at 5 rfl | exact mem_at 6 rfl | exact mem_at 7 rfl | exact mem_at 8 rfl | exact mem_at 9 rfl | exact mem_at 10 rfl | exact mem_at 11 rfl | exact mem_at 12 rfl | exact mem_at 13 rfl | exact mem_at 14 rfl | exact mem_at 15 rfl | exact mem_at 16 rfl | exact mem_at 17 rfl | exact mem_at 18 rfl | exact mem_at 19 rfl | exact mem_at 20 rfl | exact mem_at 21 rfl))) ev_int (getR_list (d := .str (st [c2])) (by first | decide | assumption | with_reducible exact Int.natCast_nonneg _ | with_reducible exact Nat.le_trans (by assumption) (by decide) | with_reducible exact Nat.lt_of_lt_of_le (by assumption) (by decide) | with_reducible exact lt_mil (Nat.lt_of_lt_of_le (by assumption) (by decide)) | with_reducible exact lt_mil (Nat.lt_of_le_of_lt (by assumption) (by decide)) | with_reducible exact Nat.le_trans (Nat.le_of_lt (by assumption)) (by decide) | (first | lia | omega)) rfl (by first | decide | assumption | with_reducible exact Int.natCast_nonneg _ | with_reducible exact Nat.le_trans (by assumption) (by decide) | with_reducible exact Nat.lt_of_lt_of_le (by assumption) (by decide) | with_reducible exact lt_mil (Nat.lt_of_lt_of_le (by assumption) (by decide)) | with_reducible exact lt_mil (Nat.lt_of_le_of_lt (by assumption) (by decide)) | with_reducible exact Nat.le_trans (Nat.le_of_lt (by assumption)) (by decide) | (first | lia | omega)))) (ev_strL (l := [60]) rfl) (binR_add_str (by simp))) (ev_eq (b := .dat (.str (st [48 + sz]))) (ev_call_ty (ev_builtin rfl ((((I.into _).reb up).comp _ _ _).gl rfl) rfl) (evl_cons (ev_var (b := .dat (.int (sz : Int))) (by first | exact mem_at 0 rfl | exact mem_at 1 rfl | exact mem_at 2 rfl | exact mem_at 3 rfl | exact mem_at 4 rfl | exact mem_at 5 rfl | exact mem_at 6 rfl | exact mem_at 7 rfl | exact mem_at 8 rfl | exact mem_at 9 rfl | exact mem_at 10 rfl | exact mem_at 11 rfl | exact mem_at 12 rfl | exact mem_at 13 rfl | exact mem_at 14 rfl | exact mem_at 15 rfl | exact mem_at 16 rfl | exact mem_at 17 rfl | exact mem_at 18 rfl | exact mem_at 19 rfl | exact mem_at 20 rfl | exact mem_at 21 rfl)) evl_nil) (callOk_str_int (by first | decide | assumption | with_reducible exact Int.natCast_nonneg _ | with_reducible exact Nat.le_trans (by assumption) (by decide) | with_reducible exact Nat.lt_of_lt_of_le (by assumption) (by decide) | with_reducible exact lt_mil (Nat.lt_of_lt_of_le (by assumption) (by decide)) | with_reducible exact lt_mil (Nat.lt_of_le_of_lt (by assumption) (by decide)) | with_reducible exact Nat.le_trans (Nat.le_of_lt (by assumption)) (by decide) | (first | lia | omega)))) (congrArg Bd.dat (str_size h5 h7))) (binR_add_str (by simp))) rfl) evl_nil))
    refine ex_cons (ex_acomp (Γ' := [(Str.ofString "writer", .val (.ref x)), (Str.ofString "script", .lst (ns.map .int)), (Str.ofString "deeds", .dat (.list (ds.map dD))), (Str.ofString "total", .dat (.int ns.sum)), (Str.ofString "size", .dat (.int (sz : Int))), (Str.ofString "fills", .dat (.list [.str (st [c0]), .str (st [c1]), .str (st [c2])])), (Str.ofString "row", .dat (.list (R.map itD))), (Str.ofString "left", .dat (.list (Lf.map leD))), (Str.ofString "depths", .dat (.list ((depthsOf R (R.length + 1)).map .int))), (Str.ofString "tops", .dat (.list ((topsOf R (R.length + 1)).map .int))), (Str.ofString "texts", .dat (.list (R.map fun e => PyData.str (st (ky e))))), (Str.ofString "rows", .dat (.list ((List.range 16).map fun k : Nat => PyData.str (st (figs (k : Int) 4))))), (Str.ofString "filled", .dat (.list ((List.range 16).map fun k : Nat => PyData.str (st (fld sz c2 k))))), (Str.ofString "places", .dat (.list ((List.range 16).map fun k : Nat => PyData.int ((cntL R (fld sz c2 k) : Nat) : Int))))]) [(Str.ofString "texts", L + 4)] [(Str.ofString "texts", .dat (.list (R.map fun e => PyData.str (st (ky e)))))] (fun _ => true) (strF fun l => .int ((cntL R l : Nat) : Int)) ((List.range 16).map fun k : Nat => PyData.int ((cntL R (fld sz c2 k) : Nat) : Int)) (evi_list (ev_var (b := .dat (.list ((List.range 16).map fun k : Nat => PyData.str (st (fld sz c2 k))))) (by first | exact mem_at 0 rfl | exact mem_at 1 rfl | exact mem_at 2 rfl | exact mem_at 3 rfl | exact mem_at 4 rfl | exact mem_at 5 rfl | exact mem_at 6 rfl | exact mem_at 7 rfl | exact mem_at 8 rfl | exact mem_at 9 rfl | exact mem_at 10 rfl | exact mem_at 11 rfl | exact mem_at 12 rfl | exact mem_at 13 rfl | exact mem_at 14 rfl | exact mem_at 15 rfl | exact mem_at 16 rfl | exact mem_at 17 rfl | exact mem_at 18 rfl | exact mem_at 19 rfl | exact mem_at 20 rfl | exact mem_at 21 rfl))) (by simp) (by rw [filter_tt', List.map_map]; rfl) ?_ (by intro q hq; repeat (first | (rcases List.mem_cons.mp hq with rfl | hq; exact ⟨(by first | exact mem_at 0 rfl | exact mem_at 1 rfl | exact mem_at 2 rfl | exact mem_at 3 rfl | exact mem_at 4 rfl | exact mem_at 5 rfl | exact mem_at 6 rfl | exact mem_at 7 rfl | exact mem_at 8 rfl | exact mem_at 9 rfl | exact mem_at 10 rfl | exact mem_at 11 rfl | exact mem_at 12 rfl | exact mem_at 13 rfl | exact mem_at 14 rfl | exact mem_at 15 rfl | exact mem_at 16 rfl | exact mem_at 17 rfl | exact mem_at 18 rfl | exact mem_at 19 rfl | exact mem_at 20 rfl | exact mem_at 21 rfl), show (some NameKind.cell : Option NameKind) ≠ some .local by decide, by first | exact Or.inl rfl | exact Or.inr ⟨rfl, rfl⟩, rfl⟩) | cases hq)) rfl (lookup_sub (by intro p hp; repeat (first | (rcases List.mem_cons.mp hp with rfl | hp; exact rfl) | cases hp))) (by rfl) (by first | exact Or.inl rfl | exact Or.inr ⟨rfl, rfl, rfl⟩) (by intro y ds e; first | (cases e; done) | (cases e; decide)) (Pk.g (by repeat (first | exact Pk.nil | refine Pk.here ?_ | refine Pk.cons (by first | exact mem_at 0 rfl | exact mem_at 1 rfl | exact mem_at 2 rfl | exact mem_at 3 rfl | exact mem_at 4 rfl | exact mem_at 5 rfl | exact mem_at 6 rfl | exact mem_at 7 rfl | exact mem_at 8 rfl | exact mem_at 9 rfl | exact mem_at 10 rfl | exact mem_at 11 rfl | exact mem_at 12 rfl | exact mem_at 13 rfl | exact mem_at 14 rfl | exact mem_at 15 rfl | exact mem_at 16 rfl | exact mem_at 17 rfl | exact mem_at 18 rfl | exact mem_at 19 rfl | exact mem_at 20 rfl | exact mem_at 21 rfl) rfl ?_)))) ?_
    · intro L' e he
      obtain ⟨k, hk, rfl⟩ := List.mem_map.mp he
      refine ⟨[(Str.ofString "one", .dat (.str (st (fld sz c2 k)))), (Str.ofString "texts", .dat (.list (R.map fun e => PyData.str (st (ky e)))))], asg_name (by first | exact Or.inl rfl | exact Or.inr ⟨rfl, rfl, rfl⟩) (by intro y ds e; first | (cases e; done) | (cases e; decide)) (Pk.g (by repeat (first | exact Pk.nil | refine Pk.here ?_ | refine Pk.cons (by first | exact mem_at 0 rfl | exact mem_at 1 rfl | exact mem_at 2 rfl | exact mem_at 3 rfl | exact mem_at 4 rfl | exact mem_at 5 rfl | exact mem_at 6 rfl | exact mem_at 7 rfl | exact mem_at 8 rfl | exact mem_at 9 rfl | exact mem_at 10 rfl | exact mem_at 11 rfl | exact mem_at 12 rfl | exact mem_at 13 rfl | exact mem_at 14 rfl | exact mem_at 15 rfl | exact mem_at 16 rfl | exact mem_at 17 rfl | exact mem_at 18 rfl | exact mem_at 19 rfl | exact mem_at 20 rfl | exact mem_at 21 rfl) rfl ?_))), evts_nil, fun _ => ?_⟩
      exact ev_def (ev_glob rfl ((((I.into _).reb up).comp _ _ _).gl rfl)) (evl_cons (ev_lst (ev_var (by first | exact mem_at 0 rfl | exact mem_at 1 rfl | exact mem_at 2 rfl | exact mem_at 3 rfl | exact mem_at 4 rfl | exact mem_at 5 rfl | exact mem_at 6 rfl | exact mem_at 7 rfl | exact mem_at 8 rfl | exact mem_at 9 rfl | exact mem_at 10 rfl | exact mem_at 11 rfl | exact mem_at 12 rfl | exact mem_at 13 rfl | exact mem_at 14 rfl | exact mem_at 15 rfl | exact mem_at 16 rfl | exact mem_at 17 rfl | exact mem_at 18 rfl | exact mem_at 19 rfl | exact mem_at 20 rfl | exact mem_at 21 rfl))) (evl_cons (ev_var (by first | exact mem_at 0 rfl | exact mem_at 1 rfl | exact mem_at 2 rfl | exact mem_at 3 rfl | exact mem_at 4 rfl | exact mem_at 5 rfl | exact mem_at 6 rfl | exact mem_at 7 rfl | exact mem_at 8 rfl | exact mem_at 9 rfl | exact mem_at 10 rfl | exact mem_at 11 rfl | exact mem_at 12 rfl | exact mem_at 13 rfl | exact mem_at 14 rfl | exact mem_at 15 rfl | exact mem_at 16 rfl | exact mem_at 17 rfl | exact mem_at 18 rfl | exact mem_at 19 rfl | exact mem_at 20 rfl | exact mem_at 21 rfl)) evl_nil)) evkw_nil ((((I.into _).reb up).comp _ _ _).at (a := 142) rfl) rfl (bl_none (((I.into _).reb up).comp _ _ _) hfu (by simp; (first | lia | omega)) (by simpa using cntL_le _ _) (fun F i hi => by
        rw [List.length_map] at hi
        rw [List.getElem_map, ← cntL_at PL.sorted _ i hi]
        exact cmpR_lt_str))
    refine ex_cons (ex_if_false (et_cmp (ev_var (b := .dat (.list ((List.range 16).map fun k : Nat => PyData.int ((cntL R (fld sz c2 k) : Nat) : Int)))) (by first | exact mem_at 0 rfl | exact mem_at 1 rfl | exact mem_at 2 rfl | exact mem_at 3 rfl | exact mem_at 4 rfl | exact mem_at 5 rfl | exact mem_at 6 rfl | exact mem_at 7 rfl | exact mem_at 8 rfl | exact mem_at 9 rfl | exact mem_at 10 rfl | exact mem_at 11 rfl | exact mem_at 12 rfl | exact mem_at 13 rfl | exact mem_at 14 rfl | exact mem_at 15 rfl | exact mem_at 16 rfl | exact mem_at 17 rfl | exact mem_at 18 rfl | exact mem_at 19 rfl | exact mem_at 20 rfl | exact mem_at 21 rfl)) (ev_acomp [(Str.ofString "texts", L + 4)] [(Str.ofString "texts", .dat (.list (R.map fun e => PyData.str (st (ky e)))))] (fun _ => true) (strF fun l => .int ((cntR R l : Nat) : Int)) ((List.range 16).map fun k : Nat => PyData.int ((cntL R (fld sz c2 k) : Nat) : Int)) (evi_list (ev_var (b := .dat (.list ((List.range 16).map fun k : Nat => PyData.str (st (fld sz c2 k))))) (by first | exact mem_at 0 rfl | exact mem_at 1 rfl | exact mem_at 2 rfl | exact mem_at 3 rfl | exact mem_at 4 rfl | exact mem_at 5 rfl | exact mem_at 6 rfl | exact mem_at 7 rfl | exact mem_at 8 rfl | exact mem_at 9 rfl | exact mem_at 10 rfl | exact mem_at 11 rfl | exact mem_at 12 rfl | exact mem_at 13 rfl | exact mem_at 14 rfl | exact mem_at 15 rfl | exact mem_at 16 rfl | exact mem_at 17 rfl | exact mem_at 18 rfl | exact mem_at 19 rfl | exact mem_at 20 rfl | exact mem_at 21 rfl))) (by simp) ?_ ?_ (by intro q hq; repeat (first | (rcases List.mem_cons.mp hq with rfl | hq; exact ⟨(by first | exact mem_at 0 rfl | exact mem_at 1 rfl | exact mem_at 2 rfl | exact mem_at 3 rfl | exact mem_at 4 rfl | exact mem_at 5 rfl | exact mem_at 6 rfl | exact mem_at 7 rfl | exact mem_at 8 rfl | exact mem_at 9 rfl | exact mem_at 10 rfl | exact mem_at 11 rfl | exact mem_at 12 rfl | exact mem_at 13 rfl | exact mem_at 14 rfl | exact mem_at 15 rfl | exact mem_at 16 rfl | exact mem_at 17 rfl | exact mem_at 18 rfl | exact mem_at 19 rfl | exact mem_at 20 rfl | exact mem_at 21 rfl), show (some NameKind.cell : Option NameKind) ≠ some .local by decide, by first | exact Or.inl rfl | exact Or.inr ⟨rfl, rfl⟩, rfl⟩) | cases hq)) rfl (lookup_sub (by intro p hp; repeat (first | (rcases List.mem_cons.mp hp with rfl | hp; exact rfl) | cases hp)))) (cmpR_ne_pl (n := 1) (m := 1) ?_ ?_ (by simp))) ex_nil) ?_
    · rw [filter_tt', List.map_map]
      apply List.map_congr_left
      intro k hk
      rw [PL.place k (List.mem_range.mp hk)]; rfl
    · intro L' e he
      obtain ⟨k, hk, rfl⟩ := List.mem_map.mp he
      refine ⟨[(Str.ofString "one", .dat (.str (st (fld sz c2 k)))), (Str.ofString "texts", .dat (.list (R.map fun e => PyData.str (st (ky e)))))], asg_name (by first | exact Or.inl rfl | exact Or.inr ⟨rfl, rfl, rfl⟩) (by intro y ds e; first | (cases e; done) | (cases e; decide)) (Pk.g (by repeat (first | exact Pk.nil | refine Pk.here ?_ | refine Pk.cons (by first | exact mem_at 0 rfl | exact mem_at 1 rfl | exact mem_at 2 rfl | exact mem_at 3 rfl | exact mem_at 4 rfl | exact mem_at 5 rfl | exact mem_at 6 rfl | exact mem_at 7 rfl | exact mem_at 8 rfl | exact mem_at 9 rfl | exact mem_at 10 rfl | exact mem_at 11 rfl | exact mem_at 12 rfl | exact mem_at 13 rfl | exact mem_at 14 rfl | exact mem_at 15 rfl | exact mem_at 16 rfl | exact mem_at 17 rfl | exact mem_at 18 rfl | exact mem_at 19 rfl | exact mem_at 20 rfl | exact mem_at 21 rfl) rfl ?_))), evts_nil, fun _ => ?_⟩
      exact ev_def (ev_glob rfl ((((I.into _).reb up).comp _ _ _).gl rfl)) (evl_cons (ev_lst (ev_var (by first | exact mem_at 0 rfl | exact mem_at 1 rfl | exact mem_at 2 rfl | exact mem_at 3 rfl | exact mem_at 4 rfl | exact mem_at 5 rfl | exact mem_at 6 rfl | exact mem_at 7 rfl | exact mem_at 8 rfl | exact mem_at 9 rfl | exact mem_at 10 rfl | exact mem_at 11 rfl | exact mem_at 12 rfl | exact mem_at 13 rfl | exact mem_at 14 rfl | exact mem_at 15 rfl | exact mem_at 16 rfl | exact mem_at 17 rfl | exact mem_at 18 rfl | exact mem_at 19 rfl | exact mem_at 20 rfl | exact mem_at 21 rfl))) (evl_cons (ev_var (by first | exact mem_at 0 rfl | exact mem_at 1 rfl | exact mem_at 2 rfl | exact mem_at 3 rfl | exact mem_at 4 rfl | exact mem_at 5 rfl | exact mem_at 6 rfl | exact mem_at 7 rfl | exact mem_at 8 rfl | exact mem_at 9 rfl | exact mem_at 10 rfl | exact mem_at 11 rfl | exact mem_at 12 rfl | exact mem_at 13 rfl | exact mem_at 14 rfl | exact mem_at 15 rfl | exact mem_at 16 rfl | exact mem_at 17 rfl | exact mem_at 18 rfl | exact mem_at 19 rfl | exact mem_at 20 rfl | exact mem_at 21 rfl)) evl_nil)) evkw_nil ((((I.into _).reb up).comp _ _ _).at (a := 124) rfl) rfl (br_none (((I.into _).reb up).comp _ _ _) hfu (by simp; (first | lia | omega)) (by simpa using cntR_le _ _) (fun F i hi => by
        rw [List.length_map] at hi
        rw [List.getElem_map, ← cntR_at PL.sorted _ i hi]
        exact cmpR_lt_str))
    · exact .list _ fun y hy => by
        obtain ⟨k, hk, rfl⟩ := List.mem_map.mp hy
        exact .int _
    · exact .list _ fun y hy => by
        obtain ⟨k, hk, rfl⟩ := List.mem_map.mp hy
        exact .int _
    refine ex_cons (Γ₁ := [(Str.ofString "writer", .val (.ref x)), (Str.ofString "script", .lst (ns.map .int)), (Str.ofString "deeds", .dat (.list (ds.map dD))), (Str.ofString "total", .dat (.int ns.sum)), (Str.ofString "size", .dat (.int (sz : Int))), (Str.ofString "fills", .dat (.list [.str (st [c0]), .str (st [c1]), .str (st [c2])])), (Str.ofString "row", .dat (.list (R.map itD))), (Str.ofString "left", .dat (.list (Lf.map leD))), (Str.ofString "depths", .dat (.list ((depthsOf R (R.length + 1)).map .int))), (Str.ofString "tops", .dat (.list ((topsOf R (R.length + 1)).map .int))), (Str.ofString "texts", .dat (.list (R.map fun e => PyData.str (st (ky e))))), (Str.ofString "rows", .dat (.list ((List.range 16).map fun k : Nat => PyData.str (st (figs (k : Int) 4))))), (Str.ofString "filled", .dat (.list ((List.range 16).map fun k : Nat => PyData.str (st (fld sz c2 k))))), (Str.ofString "places", .dat (.list ((List.range 16).map fun k : Nat => PyData.int ((cntL R (fld sz c2 k) : Nat) : Int))))]) (own₁ := none) ?_ (ex_one (ex_return ev_bool))
    refine ex_for (items := (List.range 16).map fun k : Nat => PyData.int (k : Int)) (fun _ => [(Str.ofString "writer", .val (.ref x)), (Str.ofString "script", .lst (ns.map .int)), (Str.ofString "deeds", .dat (.list (ds.map dD))), (Str.ofString "total", .dat (.int ns.sum)), (Str.ofString "size", .dat (.int (sz : Int))), (Str.ofString "fills", .dat (.list [.str (st [c0]), .str (st [c1]), .str (st [c2])])), (Str.ofString "row", .dat (.list (R.map itD))), (Str.ofString "left", .dat (.list (Lf.map leD))), (Str.ofString "depths", .dat (.list ((depthsOf R (R.length + 1)).map .int))), (Str.ofString "tops", .dat (.list ((topsOf R (R.length + 1)).map .int))), (Str.ofString "texts", .dat (.list (R.map fun e => PyData.str (st (ky e))))), (Str.ofString "rows", .dat (.list ((List.range 16).map fun k : Nat => PyData.str (st (figs (k : Int) 4))))), (Str.ofString "filled", .dat (.list ((List.range 16).map fun k : Nat => PyData.str (st (fld sz c2 k))))), (Str.ofString "places", .dat (.list ((List.range 16).map fun k : Nat => PyData.int ((cntL R (fld sz c2 k) : Nat) : Int))))]) (fun k => [(Str.ofString "writer", .val (.ref x)), (Str.ofString "script", .lst (ns.map .int)), (Str.ofString "deeds", .dat (.list (ds.map dD))), (Str.ofString "total", .dat (.int ns.sum)), (Str.ofString "size", .dat (.int (sz : Int))), (Str.ofString "fills", .dat (.list [.str (st [c0]), .str (st [c1]), .str (st [c2])])), (Str.ofString "row", .dat (.list (R.map itD))), (Str.ofString "left", .dat (.list (Lf.map leD))), (Str.ofString "depths", .dat (.list ((depthsOf R (R.length + 1)).map .int))), (Str.ofString "tops", .dat (.list ((topsOf R (R.length + 1)).map .int))), (Str.ofString "texts", .dat (.list (R.map fun e => PyData.str (st (ky e))))), (Str.ofString "rows", .dat (.list ((List.range 16).map fun k : Nat => PyData.str (st (figs (k : Int) 4))))), (Str.ofString "filled", .dat (.list ((List.range 16).map fun k : Nat => PyData.str (st (fld sz c2 k))))), (Str.ofString "places", .dat (.list ((List.range 16).map fun k : Nat => PyData.int ((cntL R (fld sz c2 k) : Nat) : Int)))), (Str.ofString "k", .dat (.int (k : Int)))]) (fun _ => none) 16 (evi_range1 (n := 16) (ev_builtin rfl (((I.into _).reb up).gl rfl) rfl) ev_int (by first | decide | assumption | with_reducible exact Int.natCast_nonneg _ | with_reducible exact Nat.le_trans (by assumption) (by decide) | with_reducible exact Nat.lt_of_lt_of_le (by assumption) (by decide) | with_reducible exact lt_mil (Nat.lt_of_lt_of_le (by assumption) (by decide)) | with_reducible exact lt_mil (Nat.lt_of_le_of_lt (by assumption) (by decide)) | with_reducible exact Nat.le_trans (Nat.le_of_lt (by assumption)) (by decide) | (first | lia | omega))) ?_ ?_ (.inl ⟨by simp, rfl⟩)
    · intro i hi _
      rw [range_at hi]
      exact asg_name (by first | exact Or.inl rfl | exact Or.inr ⟨rfl, rfl, rfl⟩) (by intro y ds e; first | (cases e; done) | (cases e; decide)) (Pk.g (by repeat (first | exact Pk.nil | refine Pk.here ?_ | refine Pk.cons (by first | exact mem_at 0 rfl | exact mem_at 1 rfl | exact mem_at 2 rfl | exact mem_at 3 rfl | exact mem_at 4 rfl | exact mem_at 5 rfl | exact mem_at 6 rfl | exact mem_at 7 rfl | exact mem_at 8 rfl | exact mem_at 9 rfl | exact mem_at 10 rfl | exact mem_at 11 rfl | exact mem_at 12 rfl | exact mem_at 13 rfl | exact mem_at 14 rfl | exact mem_at 15 rfl | exact mem_at 16 rfl | exact mem_at 17 rfl | exact mem_at 18 rfl | exact mem_at 19 rfl | exact mem_at 20 rfl | exact mem_at 21 rfl) rfl ?_)))
    · intro k _ hk
      obtain ⟨o, ho⟩ : ∃ o, ((k + ns.sum / 54 + 4) % 16).toNat = o := ⟨_, rfl⟩
      have ho16 : o < 16 := by (first | lia | omega)
      refine ex_cons (Γ₁ := [(Str.ofString "writer", .val (.ref x)), (Str.ofString "script", .lst (ns.map .int)), (Str.ofString "deeds", .dat (.list (ds.map dD))), (Str.ofString "total", .dat (.int ns.sum)), (Str.ofString "size", .dat (.int (sz : Int))), (Str.ofString "fills", .dat (.list [.str (st [c0]), .str (st [c1]), .str (st [c2])])), (Str.ofString "row", .dat (.list (R.map itD))), (Str.ofString "left", .dat (.list (Lf.map leD))), (Str.ofString "depths", .dat (.list ((depthsOf R (R.length + 1)).map .int))), (Str.ofString "tops", .dat (.list ((topsOf R (R.length + 1)).map .int))), (Str.ofString "texts", .dat (.list (R.map fun e => PyData.str (st (ky e))))), (Str.ofString "rows", .dat (.list ((List.range 16).map fun k : Nat => PyData.str (st (figs (k : Int) 4))))), (Str.ofString "filled", .dat (.list ((List.range 16).map fun k : Nat => PyData.str (st (fld sz c2 k))))), (Str.ofString "places", .dat (.list ((List.range 16).map fun k : Nat => PyData.int ((cntL R (fld sz c2 k) : Nat) : Int)))), (Str.ofString "k", .dat (.int (k : Int)))]) (own₁ := none) ?_ (ex_sub (Sb.g (by repeat (first | exact Sb.nil | refine Sb.cons (by first | exact mem_at 0 rfl | exact mem_at 1 rfl | exact mem_at 2 rfl | exact mem_at 3 rfl | exact mem_at 4 rfl | exact mem_at 5 rfl | exact mem_at 6 rfl | exact mem_at 7 rfl | exact mem_at 8 rfl | exact mem_at 9 rfl | exact mem_at 10 rfl | exact mem_at 11 rfl | exact mem_at 12 rfl | exact mem_at 13 rfl | exact mem_at 14 rfl | exact mem_at 15 rfl | exact mem_at 16 rfl | exact mem_at 17 rfl | exact mem_at 18 rfl | exact mem_at 19 rfl | exact mem_at 20 rfl | exact mem_at 21 rfl) ?_))) ex_nil)
      refine ex_for (items := [.int (k : Int), .int (o : Int)]) (fun _ => [(Str.ofString "writer", .val (.ref x)), (Str.ofString "script", .lst (ns.map .int)), (Str.ofString "deeds", .dat (.list (ds.map dD))), (Str.ofString "total", .dat (.int ns.sum)), (Str.ofString "size", .dat (.int (sz : Int))), (Str.ofString "fills", .dat (.list [.str (st [c0]), .str (st [c1]), .str (st [c2])])), (Str.ofString "row", .dat (.list (R.map itD))), (Str.ofString "left", .dat (.list (Lf.map leD))), (Str.ofString "depths", .dat (.list ((depthsOf R (R.length + 1)).map .int))), (Str.ofString "tops", .dat (.list ((topsOf R (R.length + 1)).map .int))), (Str.ofString "texts", .dat (.list (R.map fun e => PyData.str (st (ky e))))), (Str.ofString "rows", .dat (.list ((List.range 16).map fun k : Nat => PyData.str (st (figs (k : Int) 4))))), (Str.ofString "filled", .dat (.list ((List.range 16).map fun k : Nat => PyData.str (st (fld sz c2 k))))), (Str.ofString "places", .dat (.list ((List.range 16).map fun k : Nat => PyData.int ((cntL R (fld sz c2 k) : Nat) : Int)))), (Str.ofString "k", .dat (.int (k : Int)))]) (fun j => match ([k, o] : List Nat)[j]? with | some o => [(Str.ofString "writer", .val (.ref x)), (Str.ofString "script", .lst (ns.map .int)), (Str.ofString "deeds", .dat (.list (ds.map dD))), (Str.ofString "total", .dat (.int ns.sum)), (Str.ofString "size", .dat (.int (sz : Int))), (Str.ofString "fills", .dat (.list [.str (st [c0]), .str (st [c1]), .str (st [c2])])), (Str.ofString "row", .dat (.list (R.map itD))), (Str.ofString "left", .dat (.list (Lf.map leD))), (Str.ofString "depths", .dat (.list ((depthsOf R (R.length + 1)).map .int))), (Str.ofString "tops", .dat (.list ((topsOf R (R.length + 1)).map .int))), (Str.ofString "texts", .dat (.list (R.map fun e => PyData.str (st (ky e))))), (Str.ofString "rows", .dat (.list ((List.range 16).map fun k : Nat => PyData.str (st (figs (k : Int) 4))))), (Str.ofString "filled", .dat (.list ((List.range 16).map fun k : Nat => PyData.str (st (fld sz c2 k))))), (Str.ofString "places", .dat (.list ((List.range 16).map fun k : Nat => PyData.int ((cntL R (fld sz c2 k) : Nat) : Int)))), (Str.ofString "k", .dat (.int (k : Int))), (Str.ofString "other", .dat (.int (o : Int)))] | none => []) (fun _ => none) 2 (evi_list (ev_list (evd_cons (ev_var (by first | exact mem_at 0 rfl | exact mem_at 1 rfl | exact mem_at 2 rfl | exact mem_at 3 rfl | exact mem_at 4 rfl | exact mem_at 5 rfl | exact mem_at 6 rfl | exact mem_at 7 rfl | exact mem_at 8 rfl | exact mem_at 9 rfl | exact mem_at 10 rfl | exact mem_at 11 rfl | exact mem_at 12 rfl | exact mem_at 13 rfl | exact mem_at 14 rfl | exact mem_at 15 rfl | exact mem_at 16 rfl | exact mem_at 17 rfl | exact mem_at 18 rfl | exact mem_at 19 rfl | exact mem_at 20 rfl | exact mem_at 21 rfl)) (evd_cons (ev_eq (ev_bin (ev_bin (ev_bin (ev_var (by first | exact mem_at 0 rfl | exact mem_at 1 rfl | exact mem_at 2 rfl | exact mem_at 3 rfl | exact mem_at 4 rfl | exact mem_at 5 rfl | exact mem_at 6 rfl | exact mem_at 7 rfl | exact mem_at 8 rfl | exact mem_at 9 rfl | exact mem_at 10 rfl | exact mem_at 11 rfl | exact mem_at 12 rfl | exact mem_at 13 rfl | exact mem_at 14 rfl | exact mem_at 15 rfl | exact mem_at 16 rfl | exact mem_at 17 rfl | exact mem_at 18 rfl | exact mem_at 19 rfl | exact mem_at 20 rfl | exact mem_at 21 rfl)) (ev_bin (ev_var (by first | exact mem_at 0 rfl | exact mem_at 1 rfl | exact mem_at 2 rfl | exact mem_at 3 rfl | exact mem_at 4 rfl | exact mem_at 5 rfl | exact mem_at 6 rfl | exact mem_at 7 rfl | exact mem_at 8 rfl | exact mem_at 9 rfl | exact mem_at 10 rfl | exact mem_at 11 rfl | exact mem_at 12 rfl | exact mem_at 13 rfl | exact mem_at 14 rfl | exact mem_at 15 rfl | exact mem_at 16 rfl | exact mem_at 17 rfl | exact mem_at 18 rfl | exact mem_at 19 rfl | exact mem_at 20 rfl | exact mem_at 21 rfl)) ev_int (binR_div (by first | decide | assumption | with_reducible exact Int.natCast_nonneg _ | with_reducible exact Nat.le_trans (by assumption) (by decide) | with_reducible exact Nat.lt_of_lt_of_le (by assumption) (by decide) | with_reducible exact lt_mil (Nat.lt_of_lt_of_le (by assumption) (by decide)) | with_reducible exact lt_mil (Nat.lt_of_le_of_lt (by assumption) (by decide)) | with_reducible exact Nat.le_trans (Nat.le_of_lt (by assumption)) (by decide) | (first | lia | omega)) (by first | decide | assumption | with_reducible exact Int.natCast_nonneg _ | with_reducible exact Nat.le_trans (by assumption) (by decide) | with_reducible exact Nat.lt_of_lt_of_le (by assumption) (by decide) | with_reducible exact lt_mil (Nat.lt_of_lt_of_le (by assumption) (by decide)) | with_reducible exact lt_mil (Nat.lt_of_le_of_lt (by assumption) (by decide)) | with_reducible exact Nat.le_trans (Nat.le_of_lt (by assumption)) (by decide) | (first | lia | omega)))) binR_add_int) ev_int binR_add_int) ev_int (binR_md (by first | decide | assumption | with_reducible exact Int.natCast_nonneg _ | with_reducible exact Nat.le_trans (by assumption) (by decide) | with_reducible exact Nat.lt_of_lt_of_le (by assumption) (by decide) | with_reducible exact lt_mil (Nat.lt_of_lt_of_le (by assumption) (by decide)) | with_reducible exact lt_mil (Nat.lt_of_le_of_lt (by assumption) (by decide)) | with_reducible exact Nat.le_trans (Nat.le_of_lt (by assumption)) (by decide) | (first | lia | omega)))) (by rw [← ho, ← fmod_n _ 16 (by first | decide | assumption | with_reducible exact Int.natCast_nonneg _ | with_reducible exact Nat.le_trans (by assumption) (by decide) | with_reducible exact Nat.lt_of_lt_of_le (by assumption) (by decide) | with_reducible exact lt_mil (Nat.lt_of_lt_of_le (by assumption) (by decide)) | with_reducible exact lt_mil (Nat.lt_of_le_of_lt (by assumption) (by decide)) | with_reducible exact Nat.le_trans (Nat.le_of_lt (by assumption)) (by decide) | (first | lia | omega)), ← fdiv_e ns.sum 54 (by first | decide | assumption | with_reducible exact Int.natCast_nonneg _ | with_reducible exact Nat.le_trans (by assumption) (by decide) | with_reducible exact Nat.lt_of_lt_of_le (by assumption) (by decide) | with_reducible exact lt_mil (Nat.lt_of_lt_of_le (by assumption) (by decide)) | with_reducible exact lt_mil (Nat.lt_of_le_of_lt (by assumption) (by decide)) | with_reducible exact Nat.le_trans (Nat.le_of_lt (by assumption)) (by decide) | (first | lia | omega))])) evd_nil)))) ?_ ?_ (.inl ⟨rfl, rfl⟩)
      · intro j hj _
        match j, hj with
        | 0, _ => exact asg_name (by first | exact Or.inl rfl | exact Or.inr ⟨rfl, rfl, rfl⟩) (by intro y ds e; first | (cases e; done) | (cases e; decide)) (Pk.g (by repeat (first | exact Pk.nil | refine Pk.here ?_ | refine Pk.cons (by first | exact mem_at 0 rfl | exact mem_at 1 rfl | exact mem_at 2 rfl | exact mem_at 3 rfl | exact mem_at 4 rfl | exact mem_at 5 rfl | exact mem_at 6 rfl | exact mem_at 7 rfl | exact mem_at 8 rfl | exact mem_at 9 rfl | exact mem_at 10 rfl | exact mem_at 11 rfl | exact mem_at 12 rfl | exact mem_at 13 rfl | exact mem_at 14 rfl | exact mem_at 15 rfl | exact mem_at 16 rfl | exact mem_at 17 rfl | exact mem_at 18 rfl | exact mem_at 19 rfl | exact mem_at 20 rfl | exact mem_at 21 rfl) rfl ?_)))
        | 1, _ => exact asg_name (by first | exact Or.inl rfl | exact Or.inr ⟨rfl, rfl, rfl⟩) (by intro y ds e; first | (cases e; done) | (cases e; decide)) (Pk.g (by repeat (first | exact Pk.nil | refine Pk.here ?_ | refine Pk.cons (by first | exact mem_at 0 rfl | exact mem_at 1 rfl | exact mem_at 2 rfl | exact mem_at 3 rfl | exact mem_at 4 rfl | exact mem_at 5 rfl | exact mem_at 6 rfl | exact mem_at 7 rfl | exact mem_at 8 rfl | exact mem_at 9 rfl | exact mem_at 10 rfl | exact mem_at 11 rfl | exact mem_at 12 rfl | exact mem_at 13 rfl | exact mem_at 14 rfl | exact mem_at 15 rfl | exact mem_at 16 rfl | exact mem_at 17 rfl | exact mem_at 18 rfl | exact mem_at 19 rfl | exact mem_at 20 rfl | exact mem_at 21 rfl) rfl ?_)))
      · intro j _ hj
        obtain ⟨o, ho, ho16⟩ : ∃ q, ([k, o] : List Nat)[j]? = some q ∧ q < 16 := by
          match j, hj with
          | 0, _ => exact ⟨k, rfl, hk⟩
          | 1, _ => exact ⟨o, rfl, ho16⟩
        rw [ho]
        dsimp only
        refine ex_cons (ex_assign (Γ' := [(Str.ofString "told", .dat (.int (longUp (figs (k : Int) 4) (figs (o : Int) 4) Lf Lf.length).2)), (Str.ofString "writer", .val (.ref x)), (Str.ofString "script", .lst (ns.map .int)), (Str.ofString "deeds", .dat (.list (ds.map dD))), (Str.ofString "total", .dat (.int ns.sum)), (Str.ofString "size", .dat (.int (sz : Int))), (Str.ofString "fills", .dat (.list [.str (st [c0]), .str (st [c1]), .str (st [c2])])), (Str.ofString "row", .dat (.list (R.map itD))), (Str.ofString "left", .dat (.list (Lf.map leD))), (Str.ofString "depths", .dat (.list ((depthsOf R (R.length + 1)).map .int))), (Str.ofString "tops", .dat (.list ((topsOf R (R.length + 1)).map .int))), (Str.ofString "texts", .dat (.list (R.map fun e => PyData.str (st (ky e))))), (Str.ofString "rows", .dat (.list ((List.range 16).map fun k : Nat => PyData.str (st (figs (k : Int) 4))))), (Str.ofString "filled", .dat (.list ((List.range 16).map fun k : Nat => PyData.str (st (fld sz c2 k))))), (Str.ofString "places", .dat (.list ((List.range 16).map fun k : Nat => PyData.int ((cntL R (fld sz c2 k) : Nat) : Int)))), (Str.ofString "k", .dat (.int (k : Int))), (Str.ofString "other", .dat (.int (o : Int)))]) (ev_def (ev_glob rfl (((I.into _).reb up).gl rfl)) (evl_cons (ev_var (by first | exact mem_at 0 rfl | exact mem_at 1 rfl | exact mem_at 2 rfl | exact mem_at 3 rfl | exact mem_at 4 rfl | exact mem_at 5 rfl | exact mem_at 6 rfl | exact mem_at 7 rfl | exact mem_at 8 rfl | exact mem_at 9 rfl | exact mem_at 10 rfl | exact mem_at 11 rfl | exact mem_at 12 rfl | exact mem_at 13 rfl | exact mem_at 14 rfl | exact mem_at 15 rfl | exact mem_at 16 rfl | exact mem_at 17 rfl | exact mem_at 18 rfl | exact mem_at 19 rfl | exact mem_at 20 rfl | exact mem_at 21 rfl)) (evl_cons (ev_var (by first | exact mem_at 0 rfl | exact mem_at 1 rfl | exact mem_at 2 rfl | exact mem_at 3 rfl | exact mem_at 4 rfl | exact mem_at 5 rfl | exact mem_at 6 rfl | exact mem_at 7 rfl | exact mem_at 8 rfl | exact mem_at 9 rfl | exact mem_at 10 rfl | exact mem_at 11 rfl | exact mem_at 12 rfl | exact mem_at 13 rfl | exact mem_at 14 rfl | exact mem_at 15 rfl | exact mem_at 16 rfl | exact mem_at 17 rfl | exact mem_at 18 rfl | exact mem_at 19 rfl | exact mem_at 20 rfl | exact mem_at 21 rfl)) (evl_cons (ev_item (ev_lst (ev_var (b := .dat (.list ((List.range 16).map fun k : Nat => PyData.int ((cntL R (fld sz c2 k) : Nat) : Int)))) (by first | exact mem_at 0 rfl | exact mem_at 1 rfl | exact mem_at 2 rfl | exact mem_at 3 rfl | exact mem_at 4 rfl | exact mem_at 5 rfl | exact mem_at 6 rfl | exact mem_at 7 rfl | exact mem_at 8 rfl | exact mem_at 9 rfl | exact mem_at 10 rfl | exact mem_at 11 rfl | exact mem_at 12 rfl | exact mem_at 13 rfl | exact mem_at 14 rfl | exact mem_at 15 rfl | exact mem_at 16 rfl | exact mem_at 17 rfl | exact mem_at 18 rfl | exact mem_at 19 rfl | exact mem_at 20 rfl | exact mem_at 21 rfl))) (ev_var (by first | exact mem_at 0 rfl | exact mem_at 1 rfl | exact mem_at 2 rfl | exact mem_at 3 rfl | exact mem_at 4 rfl | exact mem_at 5 rfl | exact mem_at 6 rfl | exact mem_at 7 rfl | exact mem_at 8 rfl | exact mem_at 9 rfl | exact mem_at 10 rfl | exact mem_at 11 rfl | exact mem_at 12 rfl | exact mem_at 13 rfl | exact mem_at 14 rfl | exact mem_at 15 rfl | exact mem_at 16 rfl | exact mem_at 17 rfl | exact mem_at 18 rfl | exact mem_at 19 rfl | exact mem_at 20 rfl | exact mem_at 21 rfl)) (getR_list (by first | decide | assumption | with_reducible exact Int.natCast_nonneg _ | with_reducible exact Nat.le_trans (by assumption) (by decide) | with_reducible exact Nat.lt_of_lt_of_le (by assumption) (by decide) | with_reducible exact lt_mil (Nat.lt_of_lt_of_le (by assumption) (by decide)) | with_reducible exact lt_mil (Nat.lt_of_le_of_lt (by assumption) (by decide)) | with_reducible exact Nat.le_trans (Nat.le_of_lt (by assumption)) (by decide) | (first | lia | omega)) (by rw [Int.toNat_natCast]; exact range16 hk) (by first | decide | assumption | with_reducible exact Int.natCast_nonneg _ | with_reducible exact Nat.le_trans (by assumption) (by decide) | with_reducible exact Nat.lt_of_lt_of_le (by assumption) (by decide) | with_reducible exact lt_mil (Nat.lt_of_lt_of_le (by assumption) (by decide)) | with_reducible exact lt_mil (Nat.lt_of_le_of_lt (by assumption) (by decide)) | with_reducible exact Nat.le_trans (Nat.le_of_lt (by assumption)) (by decide) | (first | lia | omega)))) (evl_cons (ev_item (ev_lst (ev_var (b := .dat (.list ((List.range 16).map fun k : Nat => PyData.int ((cntL R (fld sz c2 k) : Nat) : Int)))) (by first | exact mem_at 0 rfl | exact mem_at 1 rfl | exact mem_at 2 rfl | exact mem_at 3 rfl | exact mem_at 4 rfl | exact mem_at 5 rfl | exact mem_at 6 rfl | exact mem_at 7 rfl | exact mem_at 8 rfl | exact mem_at 9 rfl | exact mem_at 10 rfl | exact mem_at 11 rfl | exact mem_at 12 rfl | exact mem_at 13 rfl | exact mem_at 14 rfl | exact mem_at 15 rfl | exact mem_at 16 rfl | exact mem_at 17 rfl | exact mem_at 18 rfl | exact mem_at 19 rfl | exact mem_at 20 rfl | exact mem_at 21 rfl))) (ev_var (by first | exact mem_at 0 rfl | exact mem_at 1 rfl | exact mem_at 2 rfl | exact mem_at 3 rfl | exact mem_at 4 rfl | exact mem_at 5 rfl | exact mem_at 6 rfl | exact mem_at 7 rfl | exact mem_at 8 rfl | exact mem_at 9 rfl | exact mem_at 10 rfl | exact mem_at 11 rfl | exact mem_at 12 rfl | exact mem_at 13 rfl | exact mem_at 14 rfl | exact mem_at 15 rfl | exact mem_at 16 rfl | exact mem_at 17 rfl | exact mem_at 18 rfl | exact mem_at 19 rfl | exact mem_at 20 rfl | exact mem_at 21 rfl)) (getR_list (by first | decide | assumption | with_reducible exact Int.natCast_nonneg _ | with_reducible exact Nat.le_trans (by assumption) (by decide) | with_reducible exact Nat.lt_of_lt_of_le (by assumption) (by decide) | with_reducible exact lt_mil (Nat.lt_of_lt_of_le (by assumption) (by decide)) | with_reducible exact lt_mil (Nat.lt_of_le_of_lt (by assumption) (by decide)) | with_reducible exact Nat.le_trans (Nat.le_of_lt (by assumption)) (by decide) | (first | lia | omega)) (by rw [Int.toNat_natCast]; exact range16 ho16) (by first | decide | assumption | with_reducible exact Int.natCast_nonneg _ | with_reducible exact Nat.le_trans (by assumption) (by decide) | with_reducible exact Nat.lt_of_lt_of_le (by assumption) (by decide) | with_reducible exact lt_mil (Nat.lt_of_lt_of_le (by assumption) (by decide)) | with_reducible exact lt_mil (Nat.lt_of_le_of_lt (by assumption) (by decide)) | with_reducible exact Nat.le_trans (Nat.le_of_lt (by assumption)) (by decide) | (first | lia | omega)))) evl_nil)))) evkw_nil (((I.into _).reb up).at (a := 180) rfl) rfl
            (sp_shallowest ((I.into _).reb up) hfu (n := R.length + 1) (D := fun i => ((pileUp R i).length : Int)) (T := fun i => topOf (pileUp R i)) (by first | decide | assumption | with_reducible exact Int.natCast_nonneg _ | with_reducible exact Nat.le_trans (by assumption) (by decide) | with_reducible exact Nat.lt_of_lt_of_le (by assumption) (by decide) | with_reducible exact lt_mil (Nat.lt_of_lt_of_le (by assumption) (by decide)) | with_reducible exact lt_mil (Nat.lt_of_le_of_lt (by assumption) (by decide)) | with_reducible exact Nat.le_trans (Nat.le_of_lt (by assumption)) (by decide) | (first | lia | omega)) (by have := cntL_le R (fld sz c2 k); (first | lia | omega)) (by have := cntL_le R (fld sz c2 o); (first | lia | omega)) (fun i hi => by have := pileUp_len (row := R) i; (first | lia | omega)) (PL.told k hk o ho16))) (by first | exact Or.inl rfl | exact Or.inr ⟨rfl, rfl, rfl⟩) (by intro y ds e; first | (cases e; done) | (cases e; decide)) (Pk.g (by repeat (first | exact Pk.nil | refine Pk.here ?_ | refine Pk.cons (by first | exact mem_at 0 rfl | exact mem_at 1 rfl | exact mem_at 2 rfl | exact mem_at 3 rfl | exact mem_at 4 rfl | exact mem_at 5 rfl | exact mem_at 6 rfl | exact mem_at 7 rfl | exact mem_at 8 rfl | exact mem_at 9 rfl | exact mem_at 10 rfl | exact mem_at 11 rfl | exact mem_at 12 rfl | exact mem_at 13 rfl | exact mem_at 14 rfl | exact mem_at 15 rfl | exact mem_at 16 rfl | exact mem_at 17 rfl | exact mem_at 18 rfl | exact mem_at 19 rfl | exact mem_at 20 rfl | exact mem_at 21 rfl) rfl ?_)))) ?_
        exact ex_cons (ex_if_false (et_eq (et_cmp (ev_var (by first | exact mem_at 0 rfl | exact mem_at 1 rfl | exact mem_at 2 rfl | exact mem_at 3 rfl | exact mem_at 4 rfl | exact mem_at 5 rfl | exact mem_at 6 rfl | exact mem_at 7 rfl | exact mem_at 8 rfl | exact mem_at 9 rfl | exact mem_at 10 rfl | exact mem_at 11 rfl | exact mem_at 12 rfl | exact mem_at 13 rfl | exact mem_at 14 rfl | exact mem_at 15 rfl | exact mem_at 16 rfl | exact mem_at 17 rfl | exact mem_at 18 rfl | exact mem_at 19 rfl | exact mem_at 20 rfl | exact mem_at 21 rfl)) (ev_def (ev_glob rfl (((I.into _).reb up).gl rfl)) (evl_cons (ev_var (by first | exact mem_at 0 rfl | exact mem_at 1 rfl | exact mem_at 2 rfl | exact mem_at 3 rfl | exact mem_at 4 rfl | exact mem_at 5 rfl | exact mem_at 6 rfl | exact mem_at 7 rfl | exact mem_at 8 rfl | exact mem_at 9 rfl | exact mem_at 10 rfl | exact mem_at 11 rfl | exact mem_at 12 rfl | exact mem_at 13 rfl | exact mem_at 14 rfl | exact mem_at 15 rfl | exact mem_at 16 rfl | exact mem_at 17 rfl | exact mem_at 18 rfl | exact mem_at 19 rfl | exact mem_at 20 rfl | exact mem_at 21 rfl)) (evl_cons (ev_item (ev_lst (ev_var (b := .dat (.list ((List.range 16).map fun k : Nat => PyData.str (st (figs (k : Int) 4))))) (by first | exact mem_at 0 rfl | exact mem_at 1 rfl | exact mem_at 2 rfl | exact mem_at 3 rfl | exact mem_at 4 rfl | exact mem_at 5 rfl | exact mem_at 6 rfl | exact mem_at 7 rfl | exact mem_at 8 rfl | exact mem_at 9 rfl | exact mem_at 10 rfl | exact mem_at 11 rfl | exact mem_at 12 rfl | exact mem_at 13 rfl | exact mem_at 14 rfl | exact mem_at 15 rfl | exact mem_at 16 rfl | exact mem_at 17 rfl | exact mem_at 18 rfl | exact mem_at 19 rfl | exact mem_at 20 rfl | exact mem_at 21 rfl))) (ev_var (by first | exact mem_at 0 rfl | exact mem_at 1 rfl | exact mem_at 2 rfl | exact mem_at 3 rfl | exact mem_at 4 rfl | exact mem_at 5 rfl | exact mem_at 6 rfl | exact mem_at 7 rfl | exact mem_at 8 rfl | exact mem_at 9 rfl | exact mem_at 10 rfl | exact mem_at 11 rfl | exact mem_at 12 rfl | exact mem_at 13 rfl | exact mem_at 14 rfl | exact mem_at 15 rfl | exact mem_at 16 rfl | exact mem_at 17 rfl | exact mem_at 18 rfl | exact mem_at 19 rfl | exact mem_at 20 rfl | exact mem_at 21 rfl)) (getR_list (by first | decide | assumption | with_reducible exact Int.natCast_nonneg _ | with_reducible exact Nat.le_trans (by assumption) (by decide) | with_reducible exact Nat.lt_of_lt_of_le (by assumption) (by decide) | with_reducible exact lt_mil (Nat.lt_of_lt_of_le (by assumption) (by decide)) | with_reducible exact lt_mil (Nat.lt_of_le_of_lt (by assumption) (by decide)) | with_reducible exact Nat.le_trans (Nat.le_of_lt (by assumption)) (by decide) | (first | lia | omega)) (by rw [Int.toNat_natCast]; exact range16 hk) (by first | decide | assumption | with_reducible exact Int.natCast_nonneg _ | with_reducible exact Nat.le_trans (by assumption) (by decide) | with_reducible exact Nat.lt_of_lt_of_le (by assumption) (by decide) | with_reducible exact lt_mil (Nat.lt_of_lt_of_le (by assumption) (by decide)) | with_reducible exact lt_mil (Nat.lt_of_le_of_lt (by assumption) (by decide)) | with_reducible exact Nat.le_trans (Nat.le_of_lt (by assumption)) (by decide) | (first | lia | omega)))) (evl_cons (ev_item (ev_lst (ev_var (b := .dat (.list ((List.range 16).map fun k : Nat => PyData.str (st (figs (k : Int) 4))))) (by first | exact mem_at 0 rfl | exact mem_at 1 rfl | exact mem_at 2 rfl | exact mem_at 3 rfl | exact mem_at 4 rfl | exact mem_at 5 rfl | exact mem_at 6 rfl | exact mem_at 7 rfl | exact mem_at 8 rfl | exact mem_at 9 rfl | exact mem_at 10 rfl | exact mem_at 11 rfl | exact mem_at 12 rfl | exact mem_at 13 rfl | exact mem_at 14 rfl | exact mem_at 15 rfl | exact mem_at 16 rfl | exact mem_at 17 rfl | exact mem_at 18 rfl | exact mem_at 19 rfl | exact mem_at 20 rfl | exact mem_at 21 rfl))) (ev_var (by first | exact mem_at 0 rfl | exact mem_at 1 rfl | exact mem_at 2 rfl | exact mem_at 3 rfl | exact mem_at 4 rfl | exact mem_at 5 rfl | exact mem_at 6 rfl | exact mem_at 7 rfl | exact mem_at 8 rfl | exact mem_at 9 rfl | exact mem_at 10 rfl | exact mem_at 11 rfl | exact mem_at 12 rfl | exact mem_at 13 rfl | exact mem_at 14 rfl | exact mem_at 15 rfl | exact mem_at 16 rfl | exact mem_at 17 rfl | exact mem_at 18 rfl | exact mem_at 19 rfl | exact mem_at 20 rfl | exact mem_at 21 rfl)) (getR_list (by first | decide | assumption | with_reducible exact Int.natCast_nonneg _ | with_reducible exact Nat.le_trans (by assumption) (by decide) | with_reducible exact Nat.lt_of_lt_of_le (by assumption) (by decide) | with_reducible exact lt_mil (Nat.lt_of_lt_of_le (by assumption) (by decide)) | with_reducible exact lt_mil (Nat.lt_of_le_of_lt (by assumption) (by decide)) | with_reducible exact Nat.le_trans (Nat.le_of_lt (by assumption)) (by decide) | (first | lia | omega)) (by rw [Int.toNat_natCast]; exact range16 ho16) (by first | decide | assumption | with_reducible exact Int.natCast_nonneg _ | with_reducible exact Nat.le_trans (by assumption) (by decide) | with_reducible exact Nat.lt_of_lt_of_le (by assumption) (by decide) | with_reducible exact lt_mil (Nat.lt_of_lt_of_le (by assumption) (by decide)) | with_reducible exact lt_mil (Nat.lt_of_le_of_lt (by assumption) (by decide)) | with_reducible exact Nat.le_trans (Nat.le_of_lt (by assumption)) (by decide) | (first | lia | omega)))) evl_nil))) evkw_nil (((I.into _).reb up).at (a := 187) rfl) rfl (sp_longest ((I.into _).reb up) hfu (fun e he => by
              obtain ⟨_, d, hd, e'⟩ := hLm e he
              rw [← e']; exact hds4 d hd) (by first | decide | assumption | with_reducible exact Int.natCast_nonneg _ | with_reducible exact Nat.le_trans (by assumption) (by decide) | with_reducible exact Nat.lt_of_lt_of_le (by assumption) (by decide) | with_reducible exact lt_mil (Nat.lt_of_lt_of_le (by assumption) (by decide)) | with_reducible exact lt_mil (Nat.lt_of_le_of_lt (by assumption) (by decide)) | with_reducible exact Nat.le_trans (Nat.le_of_lt (by assumption)) (by decide) | (first | lia | omega)) (figs_length _ _) (figs_length _ _))) cmpR_ne_int) (by simp)) ex_nil) (ex_sub (Sb.g (by repeat (first | exact Sb.nil | refine Sb.cons (by first | exact mem_at 0 rfl | exact mem_at 1 rfl | exact mem_at 2 rfl | exact mem_at 3 rfl | exact mem_at 4 rfl | exact mem_at 5 rfl | exact mem_at 6 rfl | exact mem_at 7 rfl | exact mem_at 8 rfl | exact mem_at 9 rfl | exact mem_at 10 rfl | exact mem_at 11 rfl | exact mem_at 12 rfl | exact mem_at 13 rfl | exact mem_at 14 rfl | exact mem_at 15 rfl | exact mem_at 16 rfl | exact mem_at 17 rfl | exact mem_at 18 rfl | exact mem_at 19 rfl | exact mem_at 20 rfl | exact mem_at 21 rfl) ?_))) ex_nil)
  · subst e
    obtain ⟨h', tk, rfl, hk⟩ := k
    cases q
    refine GoodW.toG ⟨.inl ⟨_, .bool true, [], rfl, raisesW_false ?_, .bool true, ?_, unshared_nil⟩, hk, rfl, hg⟩
    · wrow_none_raised
    · wrow_post)

theorem PySem.Challenge.cw_il0215_02_holds : PySem.Challenge.rw_il0215_02.Holds := by
  exact Mine.ent2
